import PyProof.Rows.All
import Wide.All
import OpenK.AllK
import Wide.FinOn
import PySem.Challenge.RW_op0165_01
open PySem PySem.Calls PyProof.Rows
set_option Elab.async false
set_option linter.all false
set_option maxRecDepth 100000
namespace Mine
def HK (h h' : Heap) : Prop := ∀ b o, h.get? b = some o -> h'.get? b = some o
def Kp (M : List Addr) (h h' : Heap) : Prop := ∀ b o, b ∉ M -> h.get? b = some o -> h'.get? b = some o
theorem HK.refl (h : Heap) : HK h h := fun _ _ e => e
theorem HK.trans {a b c : Heap} (x : HK a b) (y : HK b c) : HK a c := fun d o e => y d o (x d o e)
theorem HK.kp {h h' : Heap} (x : HK h h') (M : List Addr) : Kp M h h' := fun b o _ e => x b o e
theorem Kp.refl (M : List Addr) (h : Heap) : Kp M h h := fun _ _ _ e => e
theorem Kp.trans {M : List Addr} {a b c : Heap} (x : Kp M a b) (y : Kp M b c) : Kp M a c := fun d o hd e => y d o hd (x d o hd e)
theorem Kp.mono {M N : List Addr} {a b : Heap} (x : Kp M a b) (h : ∀ m ∈ M, m ∈ N) : Kp N a b := fun d o hd e => x d o (fun hm => hd (h d hm)) e
theorem Kp.hk {h h' : Heap} (x : Kp [] h h') : HK h h' := fun b o e => x b o (by simp) e
theorem Kp.of_same {a : Addr} {h h' : Heap} (x : Heap.SameBut a h h') : Kp [a] h h' := fun b o hb e => (x.2 b (by simpa using hb)).trans e
def XB (h : Heap) (X : List Addr) : Prop := ∀ x ∈ X, ∃ o, h.get? x = some o
theorem XB.hk {h h' : Heap} {X : List Addr} (x : XB h X) (k : HK h h') : XB h' X := fun a ha => let ⟨o, e⟩ := x a ha; ⟨o, k a o e⟩
theorem XB.fresh {h : Heap} {X : List Addr} (x : XB h X) {a : Addr} (ha : h.get? a = none) : a ∉ X := fun hm => by
 obtain ⟨o, e⟩ := x a hm; rw [ha] at e; cases e
inductive PV where
 | none
 | bool (b : Bool)
 | int (i : Int)
 | str (s : Str)
 | bytes (b : Array UInt8)
 | list (xs : List PV)
 | tuple (xs : List PV)
 | rng (a b : Int)
 | obj (v : Value)
noncomputable abbrev listObj (vs : Array Value) (n : Nat) : Obj := { cls := .type "list", data := .seq vs n }
noncomputable abbrev tupObj (vs : Array Value) (n : Nat) : Obj := { cls := .type "tuple", data := .seq vs n }
mutual
noncomputable def Rep (X : List Addr) (h : Heap) : PV -> Value -> Prop
 | .none, v => v = .none
 | .bool b, v => v = .bool b
 | .int i, v => ∃ t, v = .int i t
 | .str s, v => ∃ t, v = .str s t
 | .bytes b, v => ∃ t, v = .bytes b t
 | .list xs, v => ∃ a n vs, v = .ref a /\ a ∉ X /\ h.get? a = some (listObj vs n) /\ RepL X h xs vs.toList
 | .tuple xs, v => ∃ a n vs, v = .ref a /\ a ∉ X /\ h.get? a = some (tupObj vs n) /\ RepL X h xs vs.toList
 | .rng a b, v => ∃ r t u k, v = .ref r /\ r ∉ X /\ IsRange h r a b 1 t u k
 | .obj v', v => v = v'
noncomputable def RepL (X : List Addr) (h : Heap) : List PV -> List Value -> Prop
 | [], vs => vs = []
 | p :: ps, vs => ∃ v r, vs = v :: r /\ Rep X h p v /\ RepL X h ps r
end
mutual
theorem Rep.kp {X : List Addr} {h h' : Heap} (k : Kp X h h') : ∀ {p : PV} {v : Value}, Rep X h p v -> Rep X h' p v
 | .none, _, x => x
 | .bool _, _, x => x
 | .int _, _, x => x
 | .str _, _, x => x
 | .bytes _, _, x => x
 | .obj _, _, x => x
 | .list xs, _, x => by
  unfold Rep at x ⊢
  obtain ⟨a, n, vs, e, ha, ho, r⟩ := x
  exact ⟨a, n, vs, e, ha, k a _ ha ho, RepL.kp k r⟩
 | .tuple xs, _, x => by
  unfold Rep at x ⊢
  obtain ⟨a, n, vs, e, ha, ho, r⟩ := x
  exact ⟨a, n, vs, e, ha, k a _ ha ho, RepL.kp k r⟩
 | .rng _ _, _, x => by
  unfold Rep at x ⊢
  obtain ⟨r, t, u, z, e, ha, ho⟩ := x
  exact ⟨r, t, u, z, e, ha, k r _ ha ho⟩
theorem RepL.kp {X : List Addr} {h h' : Heap} (k : Kp X h h') : ∀ {ps : List PV} {vs : List Value}, RepL X h ps vs -> RepL X h' ps vs
 | [], _, x => by unfold RepL at x ⊢; exact x
 | p :: ps, _, x => by
  unfold RepL at x ⊢
  obtain ⟨v, r, e, a, b⟩ := x
  exact ⟨v, r, e, Rep.kp k a, RepL.kp k b⟩
end
theorem Rep.hk {X : List Addr} {h h' : Heap} {p : PV} {v : Value} (x : Rep X h p v) (k : HK h h') : Rep X h' p v := Rep.kp (k.kp X) x
theorem RepL.hk {X : List Addr} {h h' : Heap} {p : List PV} {v : List Value} (x : RepL X h p v) (k : HK h h') : RepL X h' p v := RepL.kp (k.kp X) x
mutual
theorem Rep.less {X Y : List Addr} {h : Heap} (k : ∀ a, a ∈ Y -> a ∈ X) : ∀ {p : PV} {v : Value}, Rep X h p v -> Rep Y h p v
 | .none, _, x => x
 | .bool _, _, x => x
 | .int _, _, x => x
 | .str _, _, x => x
 | .bytes _, _, x => x
 | .obj _, _, x => x
 | .list xs, _, x => by
  unfold Rep at x ⊢
  obtain ⟨a, n, vs, e, ha, ho, r⟩ := x
  exact ⟨a, n, vs, e, fun q => ha (k _ q), ho, RepL.less k r⟩
 | .tuple xs, _, x => by
  unfold Rep at x ⊢
  obtain ⟨a, n, vs, e, ha, ho, r⟩ := x
  exact ⟨a, n, vs, e, fun q => ha (k _ q), ho, RepL.less k r⟩
 | .rng _ _, _, x => by
  unfold Rep at x ⊢
  obtain ⟨r, t, u, z, e, ha, ho⟩ := x
  exact ⟨r, t, u, z, e, fun q => ha (k _ q), ho⟩
theorem RepL.less {X Y : List Addr} {h : Heap} (k : ∀ a, a ∈ Y -> a ∈ X) : ∀ {ps : List PV} {vs : List Value}, RepL X h ps vs -> RepL Y h ps vs
 | [], _, x => by unfold RepL at x ⊢; exact x
 | p :: ps, _, x => by
  unfold RepL at x ⊢
  obtain ⟨v, r, e, a, b⟩ := x
  exact ⟨v, r, e, Rep.less k a, RepL.less k b⟩
end
mutual
theorem Rep.more {X Y : List Addr} {h : Heap} (k : ∀ a ∈ Y, a ∈ X \/ h.get? a = Option.none) : ∀ {p : PV} {v : Value}, Rep X h p v -> Rep Y h p v
 | .none, _, x => x
 | .bool _, _, x => x
 | .int _, _, x => x
 | .str _, _, x => x
 | .bytes _, _, x => x
 | .obj _, _, x => x
 | .list xs, _, x => by
  unfold Rep at x ⊢
  obtain ⟨a, n, vs, e, ha, ho, r⟩ := x
  exact ⟨a, n, vs, e, (fun q => (k _ q).elim ha (fun z => nomatch (z.symm.trans ho))), ho, RepL.more k r⟩
 | .tuple xs, _, x => by
  unfold Rep at x ⊢
  obtain ⟨a, n, vs, e, ha, ho, r⟩ := x
  exact ⟨a, n, vs, e, (fun q => (k _ q).elim ha (fun z => nomatch (z.symm.trans ho))), ho, RepL.more k r⟩
 | .rng _ _, _, x => by
  unfold Rep at x ⊢
  obtain ⟨r, t, u, z, e, ha, ho⟩ := x
  exact ⟨r, t, u, z, e, (fun q => (k _ q).elim ha (fun z => nomatch (z.symm.trans ho))), ho⟩
theorem RepL.more {X Y : List Addr} {h : Heap} (k : ∀ a ∈ Y, a ∈ X \/ h.get? a = Option.none) : ∀ {ps : List PV} {vs : List Value}, RepL X h ps vs -> RepL Y h ps vs
 | [], _, x => by unfold RepL at x ⊢; exact x
 | p :: ps, _, x => by
  unfold RepL at x ⊢
  obtain ⟨v, r, e, a, b⟩ := x
  exact ⟨v, r, e, Rep.more k a, RepL.more k b⟩
end
theorem RepL.length {X : List Addr} {h : Heap} : ∀ {ps : List PV} {vs : List Value}, RepL X h ps vs -> vs.length = ps.length
 | [], _, x => by unfold RepL at x; subst x; rfl
 | p :: ps, _, x => by
  unfold RepL at x
  obtain ⟨v, r, e, a, b⟩ := x
  subst e
  simp [RepL.length b]
theorem RepL.get {X : List Addr} {h : Heap} : ∀ {ps : List PV} {vs : List Value}, RepL X h ps vs -> ∀ {i : Nat} {p : PV}, ps[i]? = some p -> ∃ v, vs[i]? = some v /\ Rep X h p v
 | [], _, _, i, p, e => by simp at e
 | q :: ps, _, x, i, p, e => by
  unfold RepL at x
  obtain ⟨v, r, rfl, a, b⟩ := x
  cases i with
  | zero => simp at e; subst e; exact ⟨v, rfl, a⟩
  | succ i => simpa using RepL.get b (by simpa using e)
theorem RepL.append {X : List Addr} {h : Heap} : ∀ {ps : List PV} {vs : List Value} {qs : List PV} {ws : List Value}, RepL X h ps vs -> RepL X h qs ws -> RepL X h (ps ++ qs) (vs ++ ws)
 | [], _, _, _, x, y => by unfold RepL at x; subst x; exact y
 | p :: ps, _, qs, ws, x, y => by
  unfold RepL at x
  obtain ⟨v, r, rfl, a, b⟩ := x
  show RepL X h (p :: (ps ++ qs)) _
  unfold RepL
  exact ⟨v, r ++ ws, rfl, a, RepL.append b y⟩
theorem RepL.cons {X : List Addr} {h : Heap} {p : PV} {v : Value} {ps : List PV} {vs : List Value} (a : Rep X h p v) (b : RepL X h ps vs) : RepL X h (p :: ps) (v :: vs) := by
 unfold RepL; exact ⟨v, vs, rfl, a, b⟩
theorem RepL.nil {X : List Addr} {h : Heap} : RepL X h [] [] := by unfold RepL; rfl
theorem RepL.take {X : List Addr} {h : Heap} : ∀ {ps : List PV} {vs : List Value}, RepL X h ps vs -> ∀ n, RepL X h (ps.take n) (vs.take n)
 | [], _, x, n => by unfold RepL at x; subst x; simpa using RepL.nil
 | p :: ps, _, x, 0 => by simpa using RepL.nil
 | p :: ps, _, x, n + 1 => by
  unfold RepL at x
  obtain ⟨v, r, rfl, a, b⟩ := x
  simpa using RepL.cons a (RepL.take b n)
theorem RepL.drop {X : List Addr} {h : Heap} : ∀ {ps : List PV} {vs : List Value}, RepL X h ps vs -> ∀ n, RepL X h (ps.drop n) (vs.drop n)
 | [], _, x, n => by unfold RepL at x; subst x; simpa using RepL.nil
 | p :: ps, _, x, 0 => by simpa using x
 | p :: ps, _, x, n + 1 => by
  unfold RepL at x
  obtain ⟨v, r, rfl, a, b⟩ := x
  simpa using RepL.drop b n
theorem RepL.set {X : List Addr} {h : Heap} : ∀ {ps : List PV} {vs : List Value}, RepL X h ps vs -> ∀ {i : Nat} {p : PV} {v : Value}, Rep X h p v -> RepL X h (ps.set i p) (vs.set i v)
 | [], _, x, i, p, v, y => by unfold RepL at x; subst x; simpa using RepL.nil
 | q :: ps, _, x, i, p, v, y => by
  unfold RepL at x
  obtain ⟨w, r, rfl, a, b⟩ := x
  cases i with
  | zero => simpa using RepL.cons y b
  | succ i => simpa using RepL.cons a (RepL.set b y)
def Reads (env : Env) (h : Heap) (x : Str) (k : NameKind) (v : Value) : Prop :=
 (k = .local /\ ∃ m, h.Ns env.locals m /\ m x = some v) \/ (k = .cell /\ ∃ c, env.cells.lookup x = some c /\ h.IsCell c (some v))
structure Rd (env : Env) (X : List Addr) (h : Heap) (vals : List (Option PV)) : Prop where
 kind : env.scope.kind = .function
 nodup : (env.scope.names.map (·.1)).Nodup
 rd : ∀ (i : Nat) (x : Str) (k : NameKind) (pv : PV), env.scope.names[i]? = some (x, k) -> vals[i]? = some (some pv) -> ∃ v, Reads env h x k v /\ Rep X h pv v
 xb : XB h X
theorem Reads.hk {env : Env} {h h' : Heap} {x : Str} {k : NameKind} {v : Value} (r : Reads env h x k v) (q : HK h h') : Reads env h' x k v := by
 rcases r with ⟨e, m, n, hm⟩ | ⟨e, c, l, hc⟩
 ·exact .inl ⟨e, m, n.keeps q, hm⟩
 ·exact .inr ⟨e, c, l, hc.keeps q⟩
theorem Rd.hk {env : Env} {X : List Addr} {h h' : Heap} {vals : List (Option PV)} (r : Rd env X h vals) (q : HK h h') : Rd env X h' vals :=
 ⟨r.kind, r.nodup, fun i x k pv e1 e2 => let ⟨v, a, b⟩ := r.rd i x k pv e1 e2; ⟨v, a.hk q, b.hk q⟩, r.xb.hk q⟩
theorem lookup_of_nodup {α : Type} : ∀ {l : List (Str × α)}, (l.map (·.1)).Nodup -> ∀ {i : Nat} {x : Str} {k : α}, l[i]? = some (x, k) -> l.lookup x = some k
 | [], _, i, x, k, e => by simp at e
 | (y, q) :: l, hn, i, x, k, e => by
  rw [List.map_cons, List.nodup_cons] at hn
  cases i with
  | zero => simp at e; obtain ⟨rfl, rfl⟩ := e; simp [List.lookup]
  | succ i =>
   have e' : l[i]? = some (x, k) := by simpa using e
   have hx : x ∈ l.map (·.1) := List.mem_map_of_mem (f := (·.1)) (List.mem_of_getElem? e')
   have : (x == y) = false := by
    cases q : x == y with
    | false => rfl
    | true => exact absurd (beq_iff_eq.mp q ▸ hx) hn.1
   simp only [List.lookup, this]
   exact lookup_of_nodup hn.2 e'
theorem Rd.kindOf {env : Env} {X : List Addr} {h : Heap} {vals : List (Option PV)} (r : Rd env X h vals) {i : Nat} {x : Str} {k : NameKind} (e : env.scope.names[i]? = some (x, k)) : env.kindOf x = some k :=
 lookup_of_nodup r.nodup e
section
variable {prog : Program} {w : World} {A : Around} {E : Value -> Shared -> Prop}
structure Gw (s s' : Shared) : Prop where
 ex : ∃ h' tk, s' = { s with heap := h', toks := tk }
 hk : HK s.heap s'.heap
def Ev (prog : Program) (w : World) (A : Around) (env : Env) (X : List Addr) (h : Heap) (e : Expr) (p : PV) : Prop :=
 ∀ (s : Shared) (Q : Value -> Shared -> Prop) (E : Value -> Shared -> Prop), HK h s.heap -> (∀ v s', Gw s s' -> Rep X s'.heap p v -> Q v s') -> wpAny (model prog w) A (eval e env) Q E s
theorem Gw.keeps {s s' : Shared} (k : Gw s s') : Keeps s s' := by obtain ⟨⟨h', tk, rfl⟩, q⟩ := k; exact ⟨h', tk, rfl, q⟩
theorem Gw.refl (s : Shared) : Gw s s := ⟨⟨s.heap, s.toks, rfl⟩, fun _ _ e => e⟩
theorem Gw.trans {a b c : Shared} (x : Gw a b) (y : Gw b c) : Gw a c := by
 obtain ⟨⟨h, t, rfl⟩, q⟩ := x
 obtain ⟨⟨h', t', rfl⟩, q'⟩ := y
 exact ⟨⟨h', t', rfl⟩, fun _ _ e => q' _ _ (q _ _ e)⟩
theorem Gw.tok (s : Shared) : Gw s { s with toks := s.toks + 1 } := ⟨⟨s.heap, _, rfl⟩, fun _ _ e => e⟩
theorem Gw.toks (s : Shared) (t : Nat) : Gw s { s with toks := t } := ⟨⟨s.heap, _, rfl⟩, fun _ _ e => e⟩
theorem Gw.heap {s : Shared} {h' : Heap} (k : HK s.heap h') (t : Nat) : Gw s { s with heap := h', toks := t } := ⟨⟨h', _, rfl⟩, k⟩
theorem Gw.heap' {s : Shared} {h' : Heap} (k : HK s.heap h') : Gw s { s with heap := h' } := ⟨⟨h', s.toks, rfl⟩, k⟩
theorem Gw.push (s : Shared) (o : Obj) : Gw s { s with heap := s.heap.push o } := ⟨⟨_, s.toks, rfl⟩, fun _ _ e => Heap.get?_push_of_some _ e⟩
variable {env : Env} {X : List Addr} {h : Heap} {vals : List (Option PV)}
theorem Ev.hk {e : Expr} {p : PV} {h' : Heap} (x : Ev prog w A env X h e p) (k : HK h h') : Ev prog w A env X h' e p := fun s Q E q hq => x s Q E (k.trans q) hq
theorem Ev.name (r : Rd env X h vals) (i : Nat) {x : Str} {k : NameKind} {p : PV} {pos : Pos} (hx : env.scope.names[i]? = some (x, k)) (hv : vals[i]? = some (some p)) (hd : (x == ("__debug__" : Str)) = false := by rfl) :
  Ev prog w A env X h (.Name x pos) p := by
 intro s Q E q hq
 obtain ⟨v, a, b⟩ := r.rd i x k p hx hv
 have hk := r.kindOf hx
 refine wpAny_Name ?_ hd
 rcases a with ⟨rfl, m, n, hm⟩ | ⟨rfl, c, l, hc⟩
 ·exact wpAny_loadName_local r.kind hk (n.keeps q) hm (hq _ _ (Gw.refl s) (b.hk q))
 ·exact wpAny_loadName_cell r.kind hk l (hc.keeps q) (hq _ _ (Gw.refl s) (b.hk q))
theorem Ev.int {i : Int} {k : Nat} {pos : Pos} : Ev prog w A env X h (.Constant (.int i) k pos) (.int i) := fun s _ _ _ hq => wpAny_Constant_int (hq _ _ (Gw.tok s) ⟨_, rfl⟩)
theorem Ev.str {x : Str} {k : Nat} {pos : Pos} : Ev prog w A env X h (.Constant (.str x) k pos) (.str x) := fun s _ _ _ hq => Constant_str (hq _ _ (Gw.tok s) ⟨_, rfl⟩)
theorem Ev.cnone {k : Nat} {pos : Pos} : Ev prog w A env X h (.Constant .none k pos) .none := fun s _ _ _ hq => wpAny_pure (hq _ _ (Gw.refl s) rfl)
theorem Ev.cbool {b : Bool} {k : Nat} {pos : Pos} : Ev prog w A env X h (.Constant (.bool b) k pos) (.bool b) := fun s _ _ _ hq => wpAny_pure (hq _ _ (Gw.refl s) rfl)
theorem Ev.bin {l r : Expr} {op : Operator} {pos : Pos} {p q : PV} {z : PV} (x : Ev prog w A env X h l p) (y : Ev prog w A env X h r q)
  (o : ∀ (s : Shared) (Q : Value -> Shared -> Prop) (E : Value -> Shared -> Prop) (a b : Value), HK h s.heap -> Rep X s.heap p a -> Rep X s.heap q b -> (∀ v s', Gw s s' -> Rep X s'.heap z v -> Q v s') -> wpAny (model prog w) A (binaryOp op a b) Q E s) :
  Ev prog w A env X h (.BinOp l op r pos) z := by
 intro s Q E k hq
 refine wpAny_BinOp (x s _ _ k fun a s₁ k₁ r₁ => y s₁ _ _ (k.trans k₁.hk) fun b s₂ k₂ r₂ => o s₂ _ _ a b (k.trans (k₁.hk.trans k₂.hk)) (r₁.hk k₂.hk) r₂ fun v s' k₃ r₃ => hq v s' (k₁.trans (k₂.trans k₃)) r₃)
theorem Ev.add {l r : Expr} {pos : Pos} {a b : Int} (x : Ev prog w A env X h l (.int a)) (y : Ev prog w A env X h r (.int b)) : Ev prog w A env X h (.BinOp l .Add r pos) (.int (a + b)) :=
 Ev.bin x y fun s _ _ _ _ _ ⟨_, e1⟩ ⟨_, e2⟩ hq => by subst e1 e2; exact add_int (hq _ _ (Gw.tok s) ⟨_, rfl⟩)
theorem Ev.sub {l r : Expr} {pos : Pos} {a b : Int} (x : Ev prog w A env X h l (.int a)) (y : Ev prog w A env X h r (.int b)) : Ev prog w A env X h (.BinOp l .Sub r pos) (.int (a - b)) :=
 Ev.bin x y fun s _ _ _ _ _ ⟨_, e1⟩ ⟨_, e2⟩ hq => by subst e1 e2; exact sub_int (hq _ _ (Gw.tok s) ⟨_, rfl⟩)
theorem Ev.mul {l r : Expr} {pos : Pos} {a b : Int} (x : Ev prog w A env X h l (.int a)) (y : Ev prog w A env X h r (.int b)) (hm : IntMulOk a b) : Ev prog w A env X h (.BinOp l .Mult r pos) (.int (a * b)) :=
 Ev.bin x y fun s _ _ _ _ _ ⟨_, e1⟩ ⟨_, e2⟩ hq => by subst e1 e2; exact mul_int (hq _ _ (Gw.tok s) ⟨_, rfl⟩) hm
theorem Ev.fdiv {l r : Expr} {pos : Pos} {a b : Int} (x : Ev prog w A env X h l (.int a)) (y : Ev prog w A env X h r (.int b)) (hb : b ≠ 0) (hp : Builtin.divisionGoesByPylong a b = false) : Ev prog w A env X h (.BinOp l .FloorDiv r pos) (.int (a.fdiv b)) :=
 Ev.bin x y fun s _ _ _ _ _ ⟨_, e1⟩ ⟨_, e2⟩ hq => by subst e1 e2; exact floordiv_int hb (hq _ _ (Gw.tok s) ⟨_, rfl⟩) (.inl hp)
theorem Ev.mod {l r : Expr} {pos : Pos} {a b : Int} (x : Ev prog w A env X h l (.int a)) (y : Ev prog w A env X h r (.int b)) (hb : b ≠ 0) : Ev prog w A env X h (.BinOp l .Mod r pos) (.int (a.fmod b)) :=
 Ev.bin x y fun s _ _ _ _ _ ⟨_, e1⟩ ⟨_, e2⟩ hq => by subst e1 e2; exact mod_int hb (hq _ _ (Gw.tok s) ⟨_, rfl⟩)
theorem Ev.pow {l r : Expr} {pos : Pos} {a n : Int} (x : Ev prog w A env X h l (.int a)) (y : Ev prog w A env X h r (.int n)) (hn : 0 <= n) (hn2 : n <= 1000000) (ha : a.natAbs < 2 ^ 64) : Ev prog w A env X h (.BinOp l .Pow r pos) (.int (a ^ n.toNat)) :=
 Ev.bin x y fun s _ _ _ _ _ ⟨_, e1⟩ ⟨_, e2⟩ hq => by subst e1 e2; exact pow_int_small hn hn2 ha (hq _ _ (Gw.tok s) ⟨_, rfl⟩)
theorem Ev.shl {l r : Expr} {pos : Pos} {a n : Int} (x : Ev prog w A env X h l (.int a)) (y : Ev prog w A env X h r (.int n)) (hn : 0 <= n) (hn2 : n <= 1000000) (ha : a.natAbs < 2 ^ 64) : Ev prog w A env X h (.BinOp l .LShift r pos) (.int (a * 2 ^ n.toNat)) :=
 Ev.bin x y fun s _ _ _ _ _ ⟨_, e1⟩ ⟨_, e2⟩ hq => by subst e1 e2; exact lshift_int_small hn hn2 ha (hq _ _ (Gw.tok s) ⟨_, rfl⟩)
theorem Ev.shr {l r : Expr} {pos : Pos} {a n : Int} (x : Ev prog w A env X h l (.int a)) (y : Ev prog w A env X h r (.int n)) (hn : 0 <= n) : Ev prog w A env X h (.BinOp l .RShift r pos) (.int (a.fdiv (2 ^ n.toNat))) :=
 Ev.bin x y fun s _ _ _ _ _ ⟨_, e1⟩ ⟨_, e2⟩ hq => by subst e1 e2; exact rshift_int hn (hq _ _ (Gw.tok s) ⟨_, rfl⟩)
theorem Ev.band {l r : Expr} {pos : Pos} {a b : Int} (x : Ev prog w A env X h l (.int a)) (y : Ev prog w A env X h r (.int b)) : Ev prog w A env X h (.BinOp l .BitAnd r pos) (.int (Builtin.bitAnd a b)) :=
 Ev.bin x y fun s _ _ _ _ _ ⟨_, e1⟩ ⟨_, e2⟩ hq => by subst e1 e2; exact and_int (hq _ _ (Gw.tok s) ⟨_, rfl⟩)
theorem Ev.bor {l r : Expr} {pos : Pos} {a b : Int} (x : Ev prog w A env X h l (.int a)) (y : Ev prog w A env X h r (.int b)) : Ev prog w A env X h (.BinOp l .BitOr r pos) (.int (Builtin.bitOr a b)) :=
 Ev.bin x y fun s _ _ _ _ _ ⟨_, e1⟩ ⟨_, e2⟩ hq => by subst e1 e2; exact or_int (hq _ _ (Gw.tok s) ⟨_, rfl⟩)
end
noncomputable def own (env : Env) : List Addr := env.locals :: env.cells.map (·.2)
structure Fm (env : Env) (X M : List Addr) (h₀ h : Heap) (vals : List (Option PV)) : Prop extends Rd env X h vals where
 ns : ∃ m, h.Ns env.locals m
 cl : ∀ x, env.kindOf x = some .cell -> ∃ c ov, env.cells.lookup x = some c /\ h.IsCell c ov
 cs : ∀ x c, env.cells.lookup x = some c -> ∃ ov, h.IsCell c ov
 apart : env.cells.Pairwise fun x y => x.2 ≠ y.2
 lc : ∀ x c, env.cells.lookup x = some c -> c ≠ env.locals
 ox : ∀ a ∈ own env, a ∈ X
 keep : Kp M h₀ h
 fresh : ∀ a ∈ own env, h₀.get? a = none
structure Mv (M : List Addr) (s s' : Shared) : Prop where
 ex : ∃ h' tk, s' = { s with heap := h', toks := tk }
 kp : Kp M s.heap s'.heap
theorem Gw.mv {s s' : Shared} (g : Gw s s') (M : List Addr) : Mv M s s' := ⟨g.ex, g.hk.kp M⟩
theorem Mv.refl (M : List Addr) (s : Shared) : Mv M s s := ⟨⟨s.heap, s.toks, rfl⟩, Kp.refl M _⟩
theorem Mv.trans {M : List Addr} {a b c : Shared} (x : Mv M a b) (y : Mv M b c) : Mv M a c := by
 obtain ⟨⟨h, t, rfl⟩, q⟩ := x
 obtain ⟨⟨h', t', rfl⟩, q'⟩ := y
 exact ⟨⟨h', t', rfl⟩, q.trans q'⟩
theorem Mv.mono {M N : List Addr} {a b : Shared} (x : Mv M a b) (h : ∀ m ∈ M, m ∈ N) : Mv N a b := ⟨x.ex, x.kp.mono h⟩
section
variable {env : Env} {X M : List Addr} {h₀ h h' : Heap} {vals : List (Option PV)}
theorem Fm.hk (F : Fm env X M h₀ h vals) (q : HK h h') : Fm env X M h₀ h' vals where
 toRd := F.toRd.hk q
 ns := let ⟨m, e⟩ := F.ns; ⟨m, e.keeps q⟩
 cl := fun x e => let ⟨c, ov, a, b⟩ := F.cl x e; ⟨c, ov, a, b.keeps q⟩
 cs := fun x c e => let ⟨ov, b⟩ := F.cs x c e; ⟨ov, b.keeps q⟩
 apart := F.apart
 lc := F.lc
 ox := F.ox
 keep := F.keep.trans (q.kp M)
 fresh := F.fresh
theorem mem_own_of_lookup {x : Str} {c : Addr} (e : env.cells.lookup x = some c) : c ∈ own env := by
 refine List.mem_cons_of_mem _ (List.mem_map.mpr ⟨(x, c), mem_of_lookup e, rfl⟩)
theorem Fm.other {N : List Addr} (F : Fm env X M h₀ h vals) (q : Kp N h h') (hN : ∀ a ∈ N, a ∉ own env) (hX : ∀ a ∈ N, a ∈ X) (hM : ∀ a ∈ N, a ∈ M \/ h₀.get? a = none) (xb : XB h' X) : Fm env X M h₀ h' vals where
 kind := F.kind
 nodup := F.nodup
 rd := fun i x k pv e1 e2 => by
  obtain ⟨v, a, b⟩ := F.rd i x k pv e1 e2
  refine ⟨v, ?_, Rep.kp (q.mono hX) b⟩
  rcases a with ⟨e, m, n, hm⟩ | ⟨e, c, l, hc⟩
  ·exact .inl ⟨e, m, n.at' fun o ho => q _ o (fun hz => hN _ hz List.mem_cons_self) ho, hm⟩
  ·obtain ⟨o, ho, hd⟩ := hc
   exact .inr ⟨e, c, l, o, q _ o (fun hz => hN _ hz (mem_own_of_lookup l)) ho, hd⟩
 xb := xb
 ns := let ⟨m, e⟩ := F.ns; ⟨m, e.at' fun o ho => q _ o (fun hz => hN _ hz List.mem_cons_self) ho⟩
 cl := fun x e => by
  obtain ⟨c, ov, a, o, ho, hd⟩ := F.cl x e
  exact ⟨c, ov, a, o, q _ o (fun hz => hN _ hz (mem_own_of_lookup a)) ho, hd⟩
 cs := fun x c e => by
  obtain ⟨ov, o, ho, hd⟩ := F.cs x c e
  exact ⟨ov, o, q _ o (fun hz => hN _ hz (mem_own_of_lookup e)) ho, hd⟩
 apart := F.apart
 lc := F.lc
 ox := F.ox
 keep := fun b o hb e => q b o (fun hz => (hM b hz).elim hb fun z => by rw [z] at e; cases e) (F.keep b o hb e)
 fresh := F.fresh
theorem vals_set_get {vals : List (Option PV)} {i j : Nat} {p q : PV} (h : (vals.set i (some p))[j]? = some (some q)) : (j = i /\ q = p) \/ (j ≠ i /\ vals[j]? = some (some q)) := by
 by_cases hij : i = j
 ·subst hij
  rw [List.getElem?_set_self'] at h
  cases hv : vals[i]? with
  | none => rw [hv] at h; simp at h
  | some z => rw [hv] at h; simp at h; exact .inl ⟨rfl, h.symm⟩
 ·rw [List.getElem?_set_ne hij] at h
  exact .inr ⟨fun e => hij e.symm, h⟩
theorem nm {α : Type} {l m : List α} {i : Nat} {r : Option α} (h : l = m) (e : m[i]? = r) : l[i]? = r := h ▸ e
theorem names_inj (hn : (env.scope.names.map (·.1)).Nodup) {i j : Nat} {x : Str} {k k' : NameKind} (e : env.scope.names[i]? = some (x, k)) (e' : env.scope.names[j]? = some (x, k')) : i = j := by
 have a : (env.scope.names.map (·.1))[i]? = some x := by rw [List.getElem?_map, e]; rfl
 have b : (env.scope.names.map (·.1))[j]? = some x := by rw [List.getElem?_map, e']; rfl
 obtain ⟨hi, ei⟩ := List.getElem?_eq_some_iff.mp a
 obtain ⟨hj, ej⟩ := List.getElem?_eq_some_iff.mp b
 exact (List.getElem_inj hn).mp (ei.trans ej.symm)
end
section
variable {prog : Program} {w : World} {A : Around} {E : Value -> Shared -> Prop} {env : Env} {X M : List Addr} {h₀ : Heap} {vals : List (Option PV)} {s : Shared}
theorem store (F : Fm env X M h₀ s.heap vals) (i : Nat) {x : Str} {k : NameKind} (hx : env.scope.names[i]? = some (x, k)) (hk : k = .local \/ k = .cell) {p : PV} {v : Value} (r : Rep X s.heap p v) {Q : Unit -> Shared -> Prop}
  (h : ∀ s', Mv (own env) s s' -> Fm env X M h₀ s'.heap (vals.set i (some p)) -> Q () s') : wpAny (model prog w) A (storeName env x v) Q E s := by
 have hkx := F.toRd.kindOf hx
 rcases hk with rfl | rfl
 ·obtain ⟨m, n⟩ := F.ns
  refine wpAny_storeName_local hkx n (fun h' hn hs => ?_) (by rw [F.kind]; rfl)
  have q : Kp [env.locals] s.heap h' := Kp.of_same hs
  have qo : Kp (own env) s.heap h' := q.mono fun a ha => by simp at ha; subst ha; exact List.mem_cons_self
  have qX : Kp X s.heap h' := qo.mono F.ox
  have xb : XB h' X := fun a ha => by
   by_cases e : a = env.locals
   ·subst e; obtain ⟨o, _, _, ho, _⟩ := hn; exact ⟨o, ho⟩
   ·obtain ⟨o, ho⟩ := F.xb a ha; exact ⟨o, q a o (by simpa using e) ho⟩
  have cellk : ∀ c ov, c ≠ env.locals -> s.heap.IsCell c ov -> h'.IsCell c ov := fun c ov hc ⟨o, ho, hd⟩ => ⟨o, q c o (by simpa using hc) ho, hd⟩
  refine h _ ⟨⟨h', _, rfl⟩, qo⟩ ?_
  exact {
   kind := F.kind
   nodup := F.nodup
   rd := fun j y ky pv e1 e2 => by
    rcases vals_set_get e2 with ⟨rfl, rfl⟩ | ⟨hj, e2⟩
    ·rw [hx] at e1; cases e1
     exact ⟨v, .inl ⟨rfl, _, hn, by simp⟩, Rep.kp qX r⟩
    ·obtain ⟨u, a, b⟩ := F.rd j y ky pv e1 e2
     refine ⟨u, ?_, Rep.kp qX b⟩
     rcases a with ⟨e, m', n', hm⟩ | ⟨e, c, l, hc⟩
     ·have hyx : y ≠ x := fun z => hj (names_inj F.nodup (by rw [<- z]; exact e1) hx)
      refine .inl ⟨e, _, hn, ?_⟩
      have em : m y = some u := by
       obtain ⟨o1, es1, ep1, ho1, hd1, _, hf1⟩ := n'
       obtain ⟨o2, es2, ep2, ho2, hd2, _, hf2⟩ := n
       rw [ho1] at ho2; cases ho2
       rw [hd1] at hd2; cases hd2
       rw [<- hf2, hf1]; exact hm
      simp only [hyx, if_false]; exact em
     ·exact .inr ⟨e, c, l, cellk c _ (F.lc y c l) hc⟩
   xb := xb
   ns := ⟨_, hn⟩
   cl := fun y e => let ⟨c, ov, l, hc⟩ := F.cl y e; ⟨c, ov, l, cellk c ov (F.lc y c l) hc⟩
   cs := fun y c l => let ⟨ov, hc⟩ := F.cs y c l; ⟨ov, cellk c ov (F.lc y c l) hc⟩
   apart := F.apart
   lc := F.lc
   ox := F.ox
   keep := fun b o hb e => qo b o (fun hz => by rw [F.fresh b hz] at e; cases e) (F.keep b o hb e)
   fresh := F.fresh }
 ·obtain ⟨c, ov, l, hc⟩ := F.cl x hkx
  refine wpAny_storeName_cell F.kind hkx l hc (fun h' hv hs => ?_)
  have q : Kp [c] s.heap h' := Kp.of_same hs
  have qo : Kp (own env) s.heap h' := q.mono fun a ha => by simp at ha; subst ha; exact mem_own_of_lookup l
  have qX : Kp X s.heap h' := qo.mono F.ox
  have xb : XB h' X := fun a ha => by
   by_cases e : a = c
   ·subst e; obtain ⟨o, ho, _⟩ := hv; exact ⟨o, ho⟩
   ·obtain ⟨o, ho⟩ := F.xb a ha; exact ⟨o, q a o (by simpa using e) ho⟩
  have nsk : ∀ m, s.heap.Ns env.locals m -> h'.Ns env.locals m := fun m n => n.at' fun o ho => q _ o (by simpa using fun z => F.lc x c l z.symm) ho
  have cellk : ∀ y d ou, y ≠ x -> env.cells.lookup y = some d -> s.heap.IsCell d ou -> h'.IsCell d ou := fun y d ou hy l' ⟨o, ho, hd⟩ => by
   have hdc : d ≠ c := fun z => hy (name_of_addr F.apart (mem_of_lookup l') (by rw [z]; exact mem_of_lookup l))
   exact ⟨o, q d o (by simpa using hdc) ho, hd⟩
  refine h _ ⟨⟨h', s.toks, rfl⟩, qo⟩ ?_
  exact {
   kind := F.kind
   nodup := F.nodup
   rd := fun j y ky pv e1 e2 => by
    rcases vals_set_get e2 with ⟨rfl, rfl⟩ | ⟨hj, e2⟩
    ·rw [hx] at e1; cases e1
     exact ⟨v, .inr ⟨rfl, c, l, hv⟩, Rep.kp qX r⟩
    ·obtain ⟨u, a, b⟩ := F.rd j y ky pv e1 e2
     have hyx : y ≠ x := fun z => hj (names_inj F.nodup (by rw [<- z]; exact e1) hx)
     refine ⟨u, ?_, Rep.kp qX b⟩
     rcases a with ⟨e, m', n', hm⟩ | ⟨e, d, l', hd⟩
     ·exact .inl ⟨e, _, nsk _ n', hm⟩
     ·exact .inr ⟨e, d, l', cellk y d _ hyx l' hd⟩
   xb := xb
   ns := let ⟨m, n⟩ := F.ns; ⟨m, nsk m n⟩
   cl := fun y e => by
    by_cases hy : y = x
    ·subst hy; exact ⟨c, _, l, hv⟩
    ·obtain ⟨d, ou, l', hd⟩ := F.cl y e; exact ⟨d, ou, l', cellk y d ou hy l' hd⟩
   cs := fun y d l' => by
    by_cases hy : y = x
    ·subst hy; rw [l] at l'; cases l'; exact ⟨_, hv⟩
    ·obtain ⟨ou, hd⟩ := F.cs y d l'; exact ⟨ou, cellk y d ou hy l' hd⟩
   apart := F.apart
   lc := F.lc
   ox := F.ox
   keep := fun b o hb e => qo b o (fun hz => by rw [F.fresh b hz] at e; cases e) (F.keep b o hb e)
   fresh := F.fresh }
theorem x_assign (F : Fm env X M h₀ s.heap vals) (i : Nat) {x : Str} {k : NameKind} (hx : env.scope.names[i]? = some (x, k)) (hk : k = .local \/ k = .cell) {p : PV} {value : Expr} {pos' pos : Pos} {rest : List Stmt} {Q : Flow -> Shared -> Prop}
  (e : Ev prog w A env X s.heap value p)
  (h : ∀ s', Mv (own env) s s' -> Fm env X M h₀ s'.heap (vals.set i (some p)) -> wpAny (model prog w) A (execs rest env) Q E s')
  (hs : swapsWith value (some (.Name x pos')) pos.line env = pure false := by rfl) :
  wpAny (model prog w) A (execs (.Assign [.Name x pos'] value pos :: rest) env) Q E s := by
 refine wpAny_execs_cons (wpAny_Assign_Name (e s _ _ (HK.refl _) fun v s₁ g r => ?_) hs)
 exact store (F.hk g.hk) i hx hk r fun s' m F' => h s' ((g.mv _).trans m) F'
theorem x_return {p : PV} {value : Expr} {pos : Pos} {rest : List Stmt} {Q : Flow -> Shared -> Prop} (e : Ev prog w A env X s.heap value p)
  (h : ∀ v s', Gw s s' -> Rep X s'.heap p v -> Q (.ret v) s') : wpAny (model prog w) A (execs (.Return (some value) pos :: rest) env) Q E s :=
 wpAny_execs_cons (wpAny_Return_some (e s _ _ (HK.refl _) fun v s₁ g r => h v s₁ g r))
def Tst (prog : Program) (w : World) (A : Around) (env : Env) (h : Heap) (e : Expr) (b : Bool) : Prop :=
 ∀ (s : Shared) (Q : Bool -> Shared -> Prop) (E : Value -> Shared -> Prop), HK h s.heap -> (∀ s', Gw s s' -> Q b s') -> wpAny (model prog w) A (isTrue e env (eval e env)) Q E s
theorem Tst.hk {h h' : Heap} {e : Expr} {b : Bool} (x : Tst prog w A env h e b) (k : HK h h') : Tst prog w A env h' e b := fun s Q E q hq => x s Q E (k.trans q) hq
noncomputable def onw (prog : Program) (w : World) (A : Around) (env : Env) (rest : List Stmt) (Q : Flow -> Shared -> Prop) (E : Value -> Shared -> Prop) : Flow -> Shared -> Prop
 | .next, s' => wpAny (model prog w) A (execs rest env) Q E s'
 | .brk, s' => Q .brk s'
 | .cont, s' => Q .cont s'
 | .ret v, s' => Q (.ret v) s'
theorem x_cons {st : Stmt} {rest : List Stmt} {Q : Flow -> Shared -> Prop} (h : wpAny (model prog w) A (exec st env) (onw prog w A env rest Q E) E s) : wpAny (model prog w) A (execs (st :: rest) env) Q E s :=
 wpAny_execs_cons (wpAny_mono h (fun f s' q => by cases f <;> exact q) fun _ _ q => q)
theorem x_if {test : Expr} {body orelse rest : List Stmt} {pos : Pos} {b : Bool} {Q : Flow -> Shared -> Prop} (t : Tst prog w A env s.heap test b)
  (h : ∀ s', Gw s s' -> wpAny (model prog w) A (execs (if b then body else orelse) env) (onw prog w A env rest Q E) E s') :
  wpAny (model prog w) A (execs (.If test body orelse pos :: rest) env) Q E s := by
 refine x_cons (wpAny_If (t s _ _ (HK.refl _) fun s' g => ?_))
 have := h s' g
 cases b
 ·exact this
 ·exact this
theorem x_nil {Q : Flow -> Shared -> Prop} (h : Q .next s) : wpAny (model prog w) A (execs [] env) Q E s := wpAny_execs_nil h
def EvL (prog : Program) (w : World) (A : Around) (env : Env) (X : List Addr) (h : Heap) (es : List Expr) (ps : List PV) : Prop :=
 ∀ (pos : Pos) (s : Shared) (Q : List Value -> Shared -> Prop) (E : Value -> Shared -> Prop), HK h s.heap -> (∀ vs s', Gw s s' -> RepL X s'.heap ps vs -> Q vs s') -> wpAny (model prog w) A (spliced (backTo pos (starEach es env))) Q E s
variable {h : Heap}
theorem EvL.nil : EvL prog w A env X h [] [] := fun _ s _ _ _ hq => spliced_nil (hq _ _ (Gw.refl s) RepL.nil)
theorem EvL.cons {e : Expr} {es : List Expr} {p : PV} {ps : List PV} (x : Ev prog w A env X h e p) (y : EvL prog w A env X h es ps) (hs : starEach (e :: es) env = (false, eval e env) :: starEach es env := by rfl) :
  EvL prog w A env X h (e :: es) (p :: ps) := by
 intro pos s Q E k hq
 rw [hs]
 show wpAny _ _ (spliced ((false, eval e env) :: backTo pos (starEach es env))) _ _ _
 refine spliced_cons (x s _ _ k fun v s₁ g r => y pos s₁ _ _ (k.trans g.hk) fun vs s₂ g₂ r₂ => ?_)
 exact hq _ _ (g.trans g₂) (RepL.cons (r.hk g₂.hk) r₂)
def Calls (prog : Program) (w : World) (A : Around) (X : List Addr) (h : Heap) (f : Value) (ps : List PV) (z : PV) : Prop :=
 ∀ (s : Shared) (Q : Value -> Shared -> Prop) (E : Value -> Shared -> Prop) (vs : List Value), HK h s.heap -> RepL X s.heap ps vs -> (∀ v s', Gw s s' -> Rep X s'.heap z v -> Q v s') -> wpAny (model prog w) A (call f vs []) Q E s
noncomputable def Plainly (h : Heap) : Value -> Prop
 | .ref a => ∃ o fd, h.get? a = some o /\ o.data = .func fd
 | _ => True
theorem evalArgs_L {f : Value} {es : List Expr} {ps : List PV} {pos : Pos} {Q : Args -> Shared -> Prop} (x : EvL prog w A env X h es ps) (hp : (backTo pos (starEach es env)).any (·.1) = false) (k : HK h s.heap)
  (hq : ∀ vs s', Gw s s' -> RepL X s'.heap ps vs -> Q ⟨vs, []⟩ s') : wpAny (model prog w) A (evalArgs f true (backTo pos (starEach es env)) []) Q E s := by
 generalize hb : backTo pos (starEach es env) = bt at hp ⊢
 have key := x pos s (fun vs s' => Q ⟨vs, []⟩ s') E k hq
 rw [hb] at key
 match bt, hp, key with
 | [], _, key =>
  unfold evalArgs
  refine wpAny_bind (wpAny_mono key (fun vs s' h' => wpAny_bind (wpAny_pure (wpAny_holding ?_))) fun _ _ x => x)
  exact wpAny_bind (wpAny_pure (wpAny_bind (wpAny_pure (wpAny_pure h'))))
 | (false, y) :: rest, _, key => exact evalArgs_plain key
 | (true, y) :: rest, hp, _ => simp at hp
theorem callWith_machine {f : Value} {first : List Value} {args : List (Bool × Sem Value)} {pos : Pos} {Q : Value -> Shared -> Prop} (hk : keeperOf f = pure .machine) (hp : args.any (·.1) = false)
  (h : wpAny (model prog w) A (evalArgs f true args []) (fun a s₁ => HK s.heap s₁.heap /\ wpAny (model prog w) A (call f (first ++ a.pos) a.kw) Q E s₁) E s) :
  wpAny (model prog w) A (callWith pos f first args []) Q E s := by
 unfold callWith
 refine wpAny_bind (wpAny_holding (wpAny_mono h (fun a s₁ h₁ => wpAny_bind (wpAny_standAt ?_)) fun _ _ x => x))
 simp only [hp, List.any_nil, Bool.or_false, hk]
 refine wpAny_bind (wpAny_pure ?_)
 exact wpAny_bind (wpAny_mono h₁.2 (fun r s₂ hr => wpAny_bind (wpAny_holding (wpAny_point (wpAny_pure hr)))) fun _ _ x => x)
theorem callWith_plain {f : Value} {first : List Value} {args : List (Bool × Sem Value)} {pos : Pos} {Q : Value -> Shared -> Prop} (hp : args.any (·.1) = false) (hf : Plainly s.heap f)
  (h : wpAny (model prog w) A (evalArgs f true args []) (fun a s₁ => HK s.heap s₁.heap /\ wpAny (model prog w) A (call f (first ++ a.pos) a.kw) Q E s₁) E s) :
  wpAny (model prog w) A (callWith pos f first args []) Q E s := by
 cases f with
 | ref a =>
  obtain ⟨o, fd, ho, hd⟩ := hf
  exact callWith_function (o := o) (fd := fd) (wpAny_mono h (fun x s₁ q => ⟨⟨q.1 _ _ ho, hd⟩, q.2⟩) fun _ _ x => x)
 | _ => exact callWith_machine rfl hp h
theorem Ev.call {x : Str} {px pos : Pos} {es : List Expr} {ps : List PV} {f : Value} {z : PV} (hf : Ev prog w A env X h (.Name x px) (.obj f)) (ha : EvL prog w A env X h es ps) (hpl : Plainly h f)
  (hc : Calls prog w A X h f ps z) (hp : ∀ pos, (backTo pos (starEach es env)).any (·.1) = false := by intro _; rfl) : Ev prog w A env X h (.Call (.Name x px) es [] pos) z := by
 intro s Q E k hq
 show wpAny _ _ (eval (.Name x px) env >>= fun f => callWith pos f [] (backTo pos (starEach es env)) []) _ _ _
 refine wpAny_bind (hf s _ _ k fun v s₁ g r => ?_)
 obtain rfl : v = f := r
 refine callWith_plain (hp pos) ?_ (evalArgs_L ha (hp pos) (k.trans g.hk) fun vs s₂ g₂ r₂ => ⟨g₂.hk, ?_⟩)
 ·cases v with
  | ref a => obtain ⟨o, fd, ho, hd⟩ := hpl; exact ⟨o, fd, (k.trans g.hk) _ _ ho, hd⟩
  | _ => trivial
 ·exact hc s₂ _ _ vs ((k.trans g.hk).trans g₂.hk) r₂ fun v s' g₃ r₃ => hq v s' ((g.trans g₂).trans g₃) r₃
end
def GlobIs (h : Heap) (x : Str) (v : Value) : Prop :=
 (∃ mg, h.Ns mainGlobals mg /\ mg x = some v) \/ ∃ mg mb, h.Ns mainGlobals mg /\ mg x = none /\ h.Ns builtinsNs mb /\ mb x = some v
theorem GlobIs.hk {h h' : Heap} {x : Str} {v : Value} (g : GlobIs h x v) (k : HK h h') : GlobIs h' x v := by
 rcases g with ⟨mg, a, b⟩ | ⟨mg, mb, a, b, c, d⟩
 ·exact .inl ⟨mg, a.keeps k, b⟩
 ·exact .inr ⟨mg, mb, a.keeps k, b, c.keeps k, d⟩
section
variable {prog : Program} {w : World} {A : Around} {env : Env} {X : List Addr} {h : Heap} {vals : List (Option PV)}
theorem Ev.glob (r : Rd env X h vals) (i : Nat) {x : Str} {v : Value} {pos : Pos} (hx : env.scope.names[i]? = some (x, .globalImplicit)) (g : GlobIs h x v) (eg : env.globals = mainGlobals := by rfl) (eb : env.builtins = builtinsNs := by rfl)
  (hd : (x == ("__debug__" : Str)) = false := by rfl) : Ev prog w A env X h (.Name x pos) (.obj v) := by
 intro s Q E q hq
 refine Name_function_global r.kind (r.kindOf hx) ?_ hd
 rcases g.hk q with ⟨mg, a, b⟩ | ⟨mg, mb, a, b, c, d⟩
 ·exact loadGlobal_global (eg ▸ a) b (hq _ _ (Gw.refl s) rfl)
 ·exact loadGlobal_builtin (eg ▸ a) b (eb ▸ c) d (hq _ _ (Gw.refl s) rfl)
end
theorem bindL_other {kindOf : Str -> Option NameKind} : ∀ {binds : List (Str × Value)} {m : Str -> Option Value} {x : Str}, (∀ y ∈ binds, y.1 ≠ x) -> bindL kindOf binds m x = m x
 | [], m, x, _ => rfl
 | (n, v) :: r, m, x, h => by
  unfold bindL
  rw [bindL_other fun y hy => h y (List.mem_cons_of_mem _ hy)]
  have : x ≠ n := fun e => h (n, v) List.mem_cons_self e.symm
  split
  ·simp [this]
  ·rfl
theorem bindC_other {kindOf : Str -> Option NameKind} : ∀ {binds : List (Str × Value)} {m : Str -> Option Value} {x : Str}, (∀ y ∈ binds, y.1 ≠ x) -> bindC kindOf binds m x = m x
 | [], m, x, _ => rfl
 | (n, v) :: r, m, x, h => by
  unfold bindC
  rw [bindC_other fun y hy => h y (List.mem_cons_of_mem _ hy)]
  have : x ≠ n := fun e => h (n, v) List.mem_cons_self e.symm
  split
  ·rfl
  ·simp [this]
theorem bindL_at {kindOf : Str -> Option NameKind} : ∀ {binds : List (Str × Value)} {m : Str -> Option Value} {x : Str} {v : Value}, (binds.map (·.1)).Nodup -> (x, v) ∈ binds -> kindOf x = some .local -> bindL kindOf binds m x = some v
 | (n, u) :: r, m, x, v, hn, hm, hk => by
  rw [List.map_cons, List.nodup_cons] at hn
  unfold bindL
  rcases List.mem_cons.mp hm with e | hm
  ·cases e
   rw [bindL_other (fun y hy e => hn.1 (by have := List.mem_map_of_mem (f := (·.1)) hy; rw [e] at this; exact this)), if_pos hk]
   simp
  ·exact bindL_at hn.2 hm hk
theorem bindC_at {kindOf : Str -> Option NameKind} : ∀ {binds : List (Str × Value)} {m : Str -> Option Value} {x : Str} {v : Value}, (binds.map (·.1)).Nodup -> (x, v) ∈ binds -> kindOf x = some .cell -> bindC kindOf binds m x = some v
 | (n, u) :: r, m, x, v, hn, hm, hk => by
  rw [List.map_cons, List.nodup_cons] at hn
  unfold bindC
  rcases List.mem_cons.mp hm with e | hm
  ·cases e
   rw [bindC_other (fun y hy e => hn.1 (by have := List.mem_map_of_mem (f := (·.1)) hy; rw [e] at this; exact this)), if_neg (by rw [hk]; intro z; cases z)]
   simp
  ·exact bindC_at hn.2 hm hk
theorem lookup_some_of_mem {α : Type} : ∀ {l : List (Str × α)} {x : Str} {a : α}, (x, a) ∈ l -> (l.lookup x).isSome = true
 | (y, b) :: l, x, a, h => by
  simp only [List.lookup]
  split
  ·rfl
  ·rename_i q
   rcases List.mem_cons.mp h with e | h
   ·cases e; simp at q
   ·exact lookup_some_of_mem h
theorem cellsFrom_acc : ∀ (names : List (Str × NameKind)) (n : Nat) (acc : List (Str × Addr)) (p : Str × Addr), p ∈ acc -> p ∈ cellsFrom n names acc
 | [], _, _, _, h => h
 | (y, k) :: r, n, acc, p, h => by
  unfold cellsFrom
  split
  ·exact cellsFrom_acc r _ _ p (List.mem_cons_of_mem _ h)
  ·exact cellsFrom_acc r _ _ p h
theorem cellsFrom_mem : ∀ (names : List (Str × NameKind)) (n : Nat) (acc : List (Str × Addr)) (x : Str), (x, NameKind.cell) ∈ names -> ∃ c, (x, c) ∈ cellsFrom n names acc
 | (y, k) :: r, n, acc, x, h => by
  unfold cellsFrom
  rcases List.mem_cons.mp h with e | h
  ·cases e
   exact ⟨n, by rw [if_pos (by rfl)]; exact cellsFrom_acc r _ _ _ List.mem_cons_self⟩
  ·split
   ·exact cellsFrom_mem r _ _ x h
   ·exact cellsFrom_mem r _ _ x h
theorem cellsFrom_nodup : ∀ (names : List (Str × NameKind)) (n : Nat) (acc : List (Str × Addr)), (names.map (·.1)).Nodup -> (acc.map (·.1)).Nodup -> (∀ x ∈ names, x.1 ∉ acc.map (·.1)) -> ((cellsFrom n names acc).map (·.1)).Nodup
 | [], _, _, _, h, _ => h
 | (y, k) :: r, n, acc, hn, ha, hd => by
  rw [List.map_cons, List.nodup_cons] at hn
  unfold cellsFrom
  split
  ·refine cellsFrom_nodup r _ _ hn.2 ?_ ?_
   ·rw [List.map_cons, List.nodup_cons]; exact ⟨hd _ List.mem_cons_self, ha⟩
   ·intro x hx
    rw [List.map_cons, List.mem_cons]
    rintro (e | e)
    ·exact hn.1 (by have := List.mem_map_of_mem (f := (·.1)) hx; rw [e] at this; exact this)
    ·exact hd x (List.mem_cons_of_mem _ hx) e
  ·exact cellsFrom_nodup r _ _ hn.2 ha fun x hx => hd x (List.mem_cons_of_mem _ hx)
theorem lookup_of_mem_nodup {α : Type} {l : List (Str × α)} (hn : (l.map (·.1)).Nodup) {x : Str} {a : α} (h : (x, a) ∈ l) : l.lookup x = some a := by
 obtain ⟨i, hi⟩ := List.mem_iff_getElem?.mp h
 exact lookup_of_nodup hn hi
theorem RepL.mem {X : List Addr} {h : Heap} {ps : List PV} {vs : List Value} (r : RepL X h ps vs) {i : Nat} {p : PV} {v : Value} (e : ps[i]? = some p) (e' : vs[i]? = some v) : Rep X h p v := by
 obtain ⟨u, a, b⟩ := r.get e
 rw [e'] at a; cases a; exact b
noncomputable def startVals (ps : List PV) (n : Nat) : List (Option PV) := ps.map some ++ List.replicate (n - ps.length) none
noncomputable abbrev fnObj (fd : FuncData) : Obj := { cls := .type "function", data := .func fd }
section
variable {prog : Program} {w : World} {A : Around} {s : Shared} {R : Result -> Shared -> Prop}
theorem enter {a : Addr} {fd : FuncData} {body : List Stmt} {vs : List Value} {binds : List (Str × Value)} {X : List Addr} {ps : List PV}
  (hroom : A.depth < recursionLimit) (ho : s.heap.get? a = some (fnObj fd)) (hlim : s.heap.NoLimit) (hcd : s.heap.CodeRec fd.code fd.qualname)
  (hbody : fd.body = .stmts body) (hbind : bindArgs fd ⟨vs, []⟩ = pure binds) (hclo : fd.closure = [])
  (hnm : (fd.scope.names.take binds.length).map (·.1) = binds.map (·.1)) (hkd : ∀ x ∈ fd.scope.names.take binds.length, x.2 = .local \/ x.2 = .cell) (hnd : (fd.scope.names.map (·.1)).Nodup)
  (xb : XB s.heap X) (r : RepL X s.heap ps (binds.map (·.2)))
  (h : ∀ s₁ env, env = callEnvC fd s.heap.objs.size a -> Gw s s₁ -> Fm env (own env ++ X) [] s.heap s₁.heap (startVals ps fd.scope.names.length) ->
   wpAny (model prog w) (A.deeper env) (execs body env) (fun f s' => R (.ok (.ret (match f with | .ret v => v | _ => .none))) s') (fun _ _ => False) s₁)
  (hco : fd.scope.isCoroutine = false := by rfl) (hgen : fd.scope.isGenerator = false := by rfl) (hk : fd.scope.kind = .function := by rfl) :
  codeAny (model prog w) A (.call (.ref a) ⟨vs, []⟩) R s := by
 have hlen : binds.length = ps.length := by have := r.length; simpa using this
 have hndb : (binds.map (·.1)).Nodup := by rw [<- hnm]; exact (List.Nodup.sublist (List.Sublist.map _ (List.take_sublist _ _)) hnd)
 have kinds : ∀ x ∈ binds, ∃ k, (x.1, k) ∈ fd.scope.names.take binds.length /\ fd.scope.names.lookup x.1 = some k /\ (k = .local \/ k = .cell) := fun x hx => by
  have : x.1 ∈ (fd.scope.names.take binds.length).map (·.1) := by rw [hnm]; exact List.mem_map_of_mem (f := (·.1)) hx
  obtain ⟨⟨y, k⟩, hy, e⟩ := List.mem_map.mp this
  dsimp only at e; subst e
  obtain ⟨i, hi⟩ := List.mem_iff_getElem?.mp (List.mem_of_mem_take hy)
  exact ⟨k, hy, lookup_of_nodup hnd hi, hkd _ hy⟩
 refine codeAny_call_cells (fd := fd) hroom ho rfl hlim hcd hbody hbind hclo (fun x hx => ?_) (fun s₁ C => ?_) hco hgen hk
 ·obtain ⟨k, hm, hl, hk' | hk'⟩ := kinds x hx
  ·exact .inl (hk' ▸ hl)
  ·refine .inr ⟨hk' ▸ hl, ?_⟩
   obtain ⟨c, hc⟩ := cellsFrom_mem fd.scope.names (s.heap.objs.size + 1) [] x.1 (List.mem_of_mem_take (hk' ▸ hm))
   exact lookup_some_of_mem hc
 ·obtain ⟨h₁, tk, e₁, keep⟩ := C.done
  have g : Gw s s₁ := ⟨⟨h₁, tk, e₁⟩, by rw [e₁]; exact keep⟩
  generalize henv : callEnvC fd s.heap.objs.size a = env at C
  have eL : env.locals = s.heap.objs.size := by rw [<- henv]; rfl
  have eS : env.scope = fd.scope := by rw [<- henv]; rfl
  have eC : env.cells = cellsFrom (s.heap.objs.size + 1) fd.scope.names [] := by rw [<- henv]; rfl
  have fresh : ∀ x ∈ own env, s.heap.get? x = none := fun x hx => by
   have hge : s.heap.objs.size <= x := by
    rcases List.mem_cons.mp hx with e | hx
    ·rw [e, eL]; exact Nat.le_refl _
    ·obtain ⟨⟨n, c⟩, hm, rfl⟩ := List.mem_map.mp hx
     exact Nat.le_of_lt (eL ▸ C.above n c hm)
   cases q : s.heap.get? x with
   | none => rfl
   | some o => exact absurd (Heap.lt_size q) (Nat.not_lt.mpr hge)
  have kd : ∀ x, env.kindOf x = fd.scope.names.lookup x := fun x => by show env.scope.names.lookup x = _; rw [eS]
  have F : Fm env (own env ++ X) [] s.heap s₁.heap (startVals ps fd.scope.names.length) := {
   kind := by rw [eS]; exact hk
   nodup := by rw [eS]; exact hnd
   rd := fun i x k pv e1 e2 => by
    rw [eS] at e1
    have hi : i < ps.length := by
     apply Classical.byContradiction
     intro hge
     unfold startVals at e2
     rw [List.getElem?_append_right (by simpa using hge)] at e2
     rw [List.getElem?_replicate] at e2
     split at e2 <;> simp at e2
    have e3 : ps[i]? = some pv := by
     unfold startVals at e2
     rw [List.getElem?_append_left (by simpa using hi), List.getElem?_map] at e2
     cases z : ps[i]? with
     | none => rw [z] at e2; simp at e2
     | some q => rw [z] at e2; simp at e2; rw [e2]
    have et : (fd.scope.names.take binds.length)[i]? = some (x, k) := by rw [List.getElem?_take, if_pos (by lia)]; exact e1
    have en : (binds.map (·.1))[i]? = some x := by rw [<- hnm, List.getElem?_map, et]; rfl
    rw [List.getElem?_map] at en
    cases hb : binds[i]? with
    | none => rw [hb] at en; simp at en
    | some b =>
     obtain ⟨y, v⟩ := b
     rw [hb] at en
     have ey : y = x := by simpa using en
     subst ey
     have hmem := List.mem_of_getElem? hb
     have hl : env.kindOf y = some k := by rw [kd]; exact lookup_of_nodup hnd e1
     have rv : Rep X s.heap pv v := r.mem e3 (by rw [List.getElem?_map, hb]; rfl)
     have rv' : Rep (own env ++ X) s₁.heap pv v := (Rep.more (fun a ha => (List.mem_append.mp ha).elim (fun z => .inr (fresh a z)) .inl) rv).hk g.hk
     refine ⟨v, ?_, rv'⟩
     rcases hkd _ (List.mem_of_getElem? et) with hk' | hk'
     ·dsimp only at hk'; subst hk'
      exact .inl ⟨rfl, _, C.toInCall.ns, bindL_at hndb hmem hl⟩
     ·dsimp only at hk'; subst hk'
      obtain ⟨c, hc⟩ := cellsFrom_mem fd.scope.names (s.heap.objs.size + 1) [] y (List.mem_of_getElem? e1)
      obtain ⟨c', hc'⟩ := Option.isSome_iff_exists.mp (lookup_some_of_mem hc)
      have hc'' : env.cells.lookup y = some c' := by rw [eC]; exact hc'
      have cc := C.cell y c' hc''
      rw [bindC_at hndb hmem hl] at cc
      exact .inr ⟨rfl, c', hc'', cc⟩
   xb := fun x hx => by
    rcases List.mem_append.mp hx with hx | hx
    ·rcases List.mem_cons.mp hx with e | hx
     ·obtain ⟨o, _, _, ho, _⟩ := C.toInCall.ns; exact ⟨o, e ▸ ho⟩
     ·obtain ⟨⟨n, c⟩, hm, rfl⟩ := List.mem_map.mp hx
      have hl : env.cells.lookup n = some c := lookup_of_mem_nodup (by rw [eC]; exact cellsFrom_nodup _ _ _ hnd (by simp) (by simp)) hm
      obtain ⟨o, ho, _⟩ := C.cell n c hl
      exact ⟨o, ho⟩
    ·obtain ⟨o, ho⟩ := xb x hx; exact ⟨o, g.hk x o ho⟩
   ns := ⟨_, C.toInCall.ns⟩
   cl := fun x e => by
    rw [kd] at e
    have hm : (x, NameKind.cell) ∈ fd.scope.names := mem_of_lookup e
    obtain ⟨c, hc⟩ := cellsFrom_mem fd.scope.names (s.heap.objs.size + 1) [] x hm
    obtain ⟨c', hc'⟩ := Option.isSome_iff_exists.mp (lookup_some_of_mem hc)
    exact ⟨c', _, by rw [eC]; exact hc', C.cell x c' (by rw [eC]; exact hc')⟩
   cs := fun x c e => ⟨_, C.cell x c e⟩
   apart := C.apart
   lc := fun x c e => Nat.ne_of_gt (eL ▸ C.above x c (mem_of_lookup e))
   ox := fun x hx => List.mem_append_left _ hx
   keep := fun b o _ e => g.hk b o e
   fresh := fresh }
  exact wpAny_mono (h s₁ env henv.symm g F) (fun f s' q => q) fun _ _ q => q.elim
end
inductive Items : PV -> List PV -> Prop
 | list (xs : List PV) : Items (.list xs) xs
 | tuple (xs : List PV) : Items (.tuple xs) xs
 | rng (a b : Int) (ha : -(2 ^ 62) <= a) (ha' : a < 2 ^ 62) (hb : -(2 ^ 62) <= b) (hb' : b < 2 ^ 62) : Items (.rng a b) ((List.range (b - a).toNat).map fun (i : Nat) => PV.int (a + (i : Int)))
 | str (x : Str) : Items (.str x) (x.cps.toList.map fun c => .str ⟨#[c]⟩)
 | bytes (b : Array UInt8) : Items (.bytes b) (b.toList.map fun c => .int (c.toNat : Int))
section
variable {prog : Program} {w : World} {A : Around} {E : Value -> Shared -> Prop} {s : Shared} {X : List Addr}
theorem walks_bytes (hh : A.handled = none) (I : Addr) (b : Array UInt8) (t : Tok) :
  Walks prog w A I [I] [I] b.size (fun i v => ∃ c u, b[i]? = some c /\ v = .int ((c : UInt8).toNat : Int) u) (fun i h => PySem.W.KBw.IsBytesIter h I b t i) where
 sub := fun _ hb => hb
 frame := fun _ _ _ st hk => let ⟨o, ho, r⟩ := st; ⟨o, hk I (by simp) o ho, r⟩
 item := fun i s Q E hi st hQ => PySem.W.KBw.next_item st (c := b[i]) (by simp [hi]) fun h' st' hs' => hQ _ h' _ ⟨b[i], _, by simp [hi], rfl⟩ st' fun c o hc e => hs'.extBut c o (fun z => hc (by simp [z])) e
 done := fun s Q E st hQ => PySem.W.KBw.next_end hh st (by simp) fun h' he' => hQ h' s.toks fun c o hc e => he' c o (fun z => hc (by simp [z])) e
 self := fun _ _ _ _ st hQ => PySem.W.KBw.pyIter_self st hQ
theorem fresh_size (h : Heap) : h.get? h.objs.size = none := by
 cases q : h.get? h.objs.size with
 | none => rfl
 | some o => exact absurd (Heap.lt_size q) (Nat.lt_irrefl _)
theorem iter_of {p : PV} {its : List PV} (hi : Items p its) {v : Value} (r : Rep X s.heap p v) {Q : Value -> Shared -> Prop}
  (hQ : ∀ (I : Addr) (fp : List Addr) (n : Nat) (P : Nat -> Value -> Prop) (St : Nat -> Heap -> Prop) (s₂ : Shared), Gw s s₂ -> n = its.length -> (∀ A' : Around, A'.handled = none -> Walks prog w A' I fp [I] n P St) -> St 0 s₂.heap -> (∃ o, s₂.heap.get? I = some o) ->
   (∀ i u, i < n -> P i u -> ∃ q, its[i]? = some q /\ Rep X s.heap q u) -> s.heap.get? I = none -> (∀ b ∈ fp, b = I \/ (b ∉ X /\ ∃ o, s.heap.get? b = some o)) -> (∀ b ∈ fp, b < s₂.heap.objs.size) -> (∀ i h, St i h -> ∃ o, h.get? I = some o) -> Q (.ref I) s₂) :
  wpAny (model prog w) A (pyIter v) Q E s := by
 have fr := fresh_size s.heap
 cases hi with
 | list =>
  unfold Rep at r
  obtain ⟨a, n, vs, rfl, ha, ho, rl⟩ := r
  have hl : s.heap.IsList a vs := ⟨_, ho, rfl, n, rfl⟩
  have hne : a ≠ s.heap.objs.size := Nat.ne_of_lt (Heap.lt_size ho)
  refine wpAny_pyIter_list hl (hQ _ [s.heap.objs.size, a] vs.size _ _ _ (Gw.push s _) ?_ (fun A' hA => Walks.list hA s.heap.objs.size a hne vs) ⟨⟨_, Heap.get?_push_size _ rfl, rfl, rfl⟩, hl.push _⟩ ⟨_, Heap.get?_push_size _ rfl⟩ ?_ fr ?_ ?_ ?_)
  ·have := rl.length; simpa using this
  ·intro i u _ hu
   have : vs.toList[i]? = some u := by simpa using hu
   have hlt : i < its.length := by
    have h1 := rl.length
    have h2 := (List.getElem?_eq_some_iff.mp this).1
    lia
   exact ⟨_, List.getElem?_eq_getElem hlt, rl.mem (List.getElem?_eq_getElem hlt) this⟩
  ·intro b hb
   simp at hb
   rcases hb with rfl | rfl
   ·exact .inl rfl
   ·exact .inr ⟨ha, _, ho⟩
  ·intro b hb
   simp at hb
   show b < (s.heap.push _).objs.size
   rw [Heap.size_push]
   rcases hb with rfl | rfl
   ·exact Nat.lt_succ_self _
   ·exact Nat.lt_succ_of_lt (Heap.lt_size ho)
  ·rintro i h ⟨⟨o, ho, _⟩, _⟩; exact ⟨o, ho⟩
 | tuple =>
  unfold Rep at r
  obtain ⟨a, n, vs, rfl, ha, ho, rl⟩ := r
  have hl : s.heap.IsTuple a vs := ⟨_, ho, rfl, n, rfl⟩
  have hne : a ≠ s.heap.objs.size := Nat.ne_of_lt (Heap.lt_size ho)
  refine wpAny_pyIter_tuple hl (hQ _ [s.heap.objs.size, a] vs.size _ _ _ (Gw.push s _) ?_ (fun A' hA => Walks.tuple hA s.heap.objs.size a hne vs) ⟨⟨_, Heap.get?_push_size _ rfl, rfl, rfl⟩, ⟨_, Heap.get?_push_of_some _ ho, rfl, n, rfl⟩⟩ ⟨_, Heap.get?_push_size _ rfl⟩ ?_ fr ?_ ?_ ?_)
  ·have := rl.length; simpa using this
  ·intro i u _ hu
   have : vs.toList[i]? = some u := by simpa using hu
   have hlt : i < its.length := by
    have h1 := rl.length
    have h2 := (List.getElem?_eq_some_iff.mp this).1
    lia
   exact ⟨_, List.getElem?_eq_getElem hlt, rl.mem (List.getElem?_eq_getElem hlt) this⟩
  ·intro b hb
   simp at hb
   rcases hb with rfl | rfl
   ·exact .inl rfl
   ·exact .inr ⟨ha, _, ho⟩
  ·intro b hb
   simp at hb
   show b < (s.heap.push _).objs.size
   rw [Heap.size_push]
   rcases hb with rfl | rfl
   ·exact Nat.lt_succ_self _
   ·exact Nat.lt_succ_of_lt (Heap.lt_size ho)
  ·rintro i h ⟨⟨o, ho, _⟩, _⟩; exact ⟨o, ho⟩
 | rng a b ha ha' hb hb' =>
  unfold Rep at r
  obtain ⟨rr, t, u, k, rfl, hr, ho⟩ := r
  have hsz : Builtin.Range.rangeSize a b 1 = ((b - a).toNat : Int) := by
   unfold Builtin.Range.rangeSize
   rw [if_pos (by decide)]
   split
   ·rw [Int.ediv_one]; lia
   ·lia
  have hfit : ∀ x : Int, -(2 ^ 63) <= x -> x < 2 ^ 63 -> Builtin.Range.rangeFitsLong x = true := fun x h1 h2 => by
   unfold Builtin.Range.rangeFitsLong
   rw [Bool.and_eq_true]
   exact ⟨decide_eq_true h1, decide_eq_true h2⟩
  have hsmall : Builtin.Range.small a b 1 = true := by
   unfold Builtin.Range.small
   rw [hsz, hfit a (by lia) (by lia), hfit b (by lia) (by lia), hfit 1 (by decide) (by decide), hfit ((b - a).toNat : Int) (by lia) (by lia), if_pos (by decide), hfit (b + (1 - 1)) (by lia) (by lia)]
   simp
  refine wpAny_pyIter_range ho hsmall (hQ _ [s.heap.objs.size] (b - a).toNat _ _ _ (Gw.push s _) (by simp) (fun A' hA => Walks.range hA s.heap.objs.size a 1 (b - a).toNat) ?_ ⟨_, Heap.get?_push_size _ rfl⟩ ?_ fr ?_ ?_ ?_)
  ·show IsRangeIter (s.heap.push _) _ _ _ _
   rw [hsz]
   have : a + ((0 : Nat) : Int) * 1 = a := by simp
   rw [this]
   have : (((b - a).toNat : Int) - ((0 : Nat) : Int)) = ((b - a).toNat : Int) := by simp
   rw [this]
   exact Heap.get?_push_size _ rfl
  ·rintro i u' hi' ⟨t', rfl⟩
   refine ⟨.int (a + (i : Int)), ?_, t', by rw [Int.mul_one]⟩
   rw [List.getElem?_map, List.getElem?_range hi']; rfl
  ·intro c hc; simp at hc; exact .inl hc
  ·intro c hc
   simp at hc; subst hc
   show _ < (s.heap.push _).objs.size
   rw [Heap.size_push]; exact Nat.lt_succ_self _
  ·intro i h q; exact ⟨_, q⟩
 | str x =>
  unfold Rep at r
  obtain ⟨t, rfl⟩ := r
  have tail : ∀ (o : Obj) (nm : String), o = { cls := .type nm, data := .fields #[.str x t, .int 0 0] } -> (∀ A' : Around, A'.handled = none -> Walks prog w A' s.heap.objs.size [s.heap.objs.size] [s.heap.objs.size] x.cps.size (SignAt x) (fun i h => h.IsStrIter s.heap.objs.size nm x t i)) ->
    Q (.ref s.heap.objs.size) { s with heap := s.heap.push o } := by
   rintro o nm rfl W
   refine hQ _ _ x.cps.size _ _ _ (Gw.push s _) (by simp) W ⟨_, Heap.get?_push_size _ rfl, rfl, rfl⟩ ⟨_, Heap.get?_push_size _ rfl⟩ ?_ fr ?_ ?_ ?_
   ·rintro i u hi' ⟨c, u', hc, rfl⟩
    refine ⟨.str ⟨#[c]⟩, ?_, u', rfl⟩
    rw [List.getElem?_map]
    have : x.cps.toList[i]? = some c := by simpa using hc
    rw [this]; rfl
   ·intro c hc; simp at hc; exact .inl hc
   ·intro c hc
    simp at hc; subst hc
    show _ < (s.heap.push _).objs.size
    rw [Heap.size_push]; exact Nat.lt_succ_self _
   ·rintro i h ⟨o, ho, _⟩; exact ⟨o, ho⟩
  cases ha : x.cps.all (· < 128)
  ·exact wpAny_pyIter_wide ha (tail _ _ rfl fun A' hA => Walks.strWide hA _ x t)
  ·exact wpAny_pyIter_ascii ha (tail _ _ rfl fun A' hA => Walks.strAscii hA _ x t)
 | bytes b =>
  unfold Rep at r
  obtain ⟨t, rfl⟩ := r
  refine PySem.W.KBw.pyIter_bytes (hQ _ [s.heap.objs.size] b.size _ _ _ (Gw.push s _) (by simp) (fun A' hA => walks_bytes hA s.heap.objs.size b t) ⟨_, Heap.get?_push_size _ rfl, rfl, rfl⟩ ⟨_, Heap.get?_push_size _ rfl⟩ ?_ fr ?_ ?_ ?_)
  ·rintro i u hi' ⟨c, u', hc, rfl⟩
   refine ⟨.int (c.toNat : Int), ?_, u', rfl⟩
   rw [List.getElem?_map]
   have : b.toList[i]? = some c := by simpa using hc
   rw [this]; rfl
  ·intro c hc; simp at hc; exact .inl hc
  ·intro c hc
   simp at hc; subst hc
   show _ < (s.heap.push _).objs.size
   rw [Heap.size_push]; exact Nat.lt_succ_self _
  ·rintro i h ⟨o, ho, _⟩; exact ⟨o, ho⟩
theorem Fm.drop {env : Env} {X M : List Addr} {h₀ h h' : Heap} {vals : List (Option PV)} {I : Addr} (F : Fm env (I :: X) M h₀ h vals) (q : Kp [I] h h') (hI : I ∉ X) (hox : ∀ a ∈ own env, a ∈ X) (hM : h₀.get? I = none) : Fm env X M h₀ h' vals :=
 have hIo : I ∉ own env := fun z => hI (hox I z)
 have ne : ∀ a ∈ own env, a ∉ [I] := fun a ha z => by simp at z; exact hIo (z ▸ ha)
 have q' : Kp (I :: X) h h' := q.mono (by simp)
 {kind := F.kind
  nodup := F.nodup
  rd := fun i x k pv e1 e2 => by
   obtain ⟨v, a, b⟩ := F.rd i x k pv e1 e2
   refine ⟨v, ?_, Rep.less (fun a ha => List.mem_cons_of_mem _ ha) (Rep.kp q' b)⟩
   rcases a with ⟨e, m, n, hm⟩ | ⟨e, c, l, hc⟩
   ·exact .inl ⟨e, m, n.at' fun o ho => q _ o (ne _ List.mem_cons_self) ho, hm⟩
   ·obtain ⟨o, ho, hd⟩ := hc
    exact .inr ⟨e, c, l, o, q _ o (ne _ (mem_own_of_lookup l)) ho, hd⟩
  xb := fun a ha => by
   obtain ⟨o, ho⟩ := F.xb a (List.mem_cons_of_mem _ ha)
   exact ⟨o, q a o (by simp; rintro rfl; exact hI ha) ho⟩
  ns := let ⟨m, e⟩ := F.ns; ⟨m, e.at' fun o ho => q _ o (ne _ List.mem_cons_self) ho⟩
  cl := fun x e => by
   obtain ⟨c, ov, a, o, ho, hd⟩ := F.cl x e
   exact ⟨c, ov, a, o, q _ o (ne _ (mem_own_of_lookup a)) ho, hd⟩
  cs := fun x c e => by
   obtain ⟨ov, o, ho, hd⟩ := F.cs x c e
   exact ⟨ov, o, q _ o (ne _ (mem_own_of_lookup e)) ho, hd⟩
  apart := F.apart
  lc := F.lc
  ox := hox
  keep := fun b o hb e => q b o (by simp; rintro rfl; rw [hM] at e; cases e) (F.keep b o hb e)
  fresh := F.fresh }
theorem Fm.hold {env : Env} {X M : List Addr} {h₀ h₁ h : Heap} {vals : List (Option PV)} {I : Addr} (F : Fm env X M h₀ h₁ vals) (k : HK h₁ h) (hI : h₁.get? I = none) (hex : ∃ o, h.get? I = some o) : Fm env (I :: X) M h₀ h vals :=
 {F.hk k with
  rd := fun i x kd pv e1 e2 => by
   obtain ⟨v, a, b⟩ := F.rd i x kd pv e1 e2
   exact ⟨v, a.hk k, (Rep.more (fun a ha => (List.mem_cons.mp ha).elim (fun e => .inr (e ▸ hI)) .inl) b).hk k⟩
  xb := fun a ha => (List.mem_cons.mp ha).elim (fun e => e ▸ hex) fun z => (F.hk k).xb a z
  ox := fun a ha => List.mem_cons_of_mem _ (F.ox a ha) }
noncomputable def turnQ (prog : Program) (w : World) (A : Around) (env : Env) (rest : List Stmt) (Q : Flow -> Shared -> Prop) (E : Value -> Shared -> Prop) (K : Shared -> Prop) : Flow -> Shared -> Prop
 | .next, s => K s
 | .cont, s => K s
 | .brk, s => wpAny (model prog w) A (execs rest env) Q E s
 | .ret v, s => Q (.ret v) s
variable {env : Env}
theorem x_for {p : PV} {its : List PV} {target iter : Expr} {body rest : List Stmt} {pos : Pos} {Q : Flow -> Shared -> Prop} (hh : A.handled = none) (N : List Addr) (hN : ∀ b ∈ N, b ∈ X) (xb : XB s.heap X)
  (ev : Ev prog w A env X s.heap iter p) (hi : Items p its) (Inv : Addr -> Nat -> Shared -> Prop)
  (h0 : ∀ I s₁, Gw s s₁ -> s.heap.get? I = none -> (∃ o, s₁.heap.get? I = some o) -> Inv I 0 s₁)
  (stable : ∀ I i s₁ s₂, s.heap.get? I = none -> Inv I i s₁ -> Mv [I] s₁ s₂ -> (∃ o, s₂.heap.get? I = some o) -> Inv I i s₂)
  (turn : ∀ I i q v s₁ E', s.heap.get? I = none -> its[i]? = some q -> Inv I i s₁ -> Rep (I :: X) s₁.heap q v -> (∃ o, s₁.heap.get? I = some o) ->
   wpAny (model prog w) A (assign target env v) (fun _ s₂ => wpAny (model prog w) A (execs body env) (turnQ prog w A env rest Q E fun s₃ => Mv N s₁ s₃ /\ Inv I (i + 1) s₃) E' s₂) E' s₁)
  (fin : ∀ I s₁ s₂, s.heap.get? I = none -> Inv I its.length s₁ -> Mv [I] s₁ s₂ -> wpAny (model prog w) A (execs rest env) Q E s₂)
  (hs : ∀ x, foldedSetIterable iter env x = pure x := by intro _; rfl) (ht : ∀ it v, letOwnedTupleGo target it v = pure () := by intro _ _; rfl) :
  wpAny (model prog w) A (execs (.For target iter body [] pos :: rest) env) Q E s := by
 refine x_cons (wpAny_For (ev s _ _ (HK.refl _) fun v s₁ g r => ?_) hs)
 refine iter_of hi r fun I fp n P St s₂ g₂ hn W hst hex hP hfr hfp hlt hStI => ?_
 have hfr0 : s.heap.get? I = none := by
  cases q : s.heap.get? I with
  | none => rfl
  | some o => rw [g.hk _ _ q] at hfr; cases hfr
 have hIX : I ∉ X := fun hx => by obtain ⟨o, e⟩ := xb I hx; rw [hfr0] at e; cases e
 have hIN : I ∉ N := fun hx => hIX (hN I hx)
 have W := W A hh
 refine codeAny_forLoop (fun k sx => ∃ i, k = n + 1 - i /\ i <= n /\ St i sx.heap /\ Inv I i sx /\ Mv (I :: N) s₂ sx) ?_ (n + 1) ⟨0, rfl, Nat.zero_le _, hst, h0 I s₂ (g.trans g₂) hfr0 hex, Mv.refl _ _⟩ (ht _)
 rintro k sx ⟨i, rfl, hle, hsti, hinv, hmv⟩
 by_cases hlt' : i < n
 ·refine W.item i sx _ _ hlt' hsti fun u h' tk hPu hst' hk => ?_
  have mv1 : Mv [I] sx { sx with heap := h', toks := tk } := ⟨⟨h', tk, rfl⟩, hk⟩
  obtain ⟨q, hq, hrep⟩ := hP i u hlt' hPu
  have hex' := hStI _ _ hst'
  have rep : Rep (I :: X) h' q u := by
   have r1 : Rep (I :: X) s₁.heap q u := Rep.more (fun a ha => (List.mem_cons.mp ha).elim (fun e => .inr (e ▸ hfr)) .inl) hrep
   refine Rep.kp (fun b o hb e => ?_) r1
   have hbI : b ≠ I := fun z => hb (z ▸ List.mem_cons_self)
   have hbN : b ∉ I :: N := fun z => (List.mem_cons.mp z).elim hbI fun z => hb (List.mem_cons_of_mem _ (hN b z))
   exact hk b o (by simpa using hbI) (hmv.kp b o hbN (g₂.hk b o e))
  refine wpAny_mono (turn I i q u _ _ hfr0 hq (stable I i _ _ hfr0 hinv mv1 hex') rep hex') (fun _ s₄ h₄ => wpAny_mono h₄ (fun f s₅ h₅ => ?_) fun _ _ z => z) fun _ _ z => z
  have step : Mv N { sx with heap := h', toks := tk } s₅ /\ Inv I (i + 1) s₅ -> ∃ m, m < n + 1 - i /\ ∃ j, m = n + 1 - j /\ j <= n /\ St j s₅.heap /\ Inv I j s₅ /\ Mv (I :: N) s₂ s₅ := fun ⟨m5, i5⟩ => by
   refine ⟨n + 1 - (i + 1), by lia, i + 1, rfl, hlt', W.frame _ _ _ hst' fun b hb o e => m5.kp b o (fun z => ?_) e, i5, (hmv.trans (mv1.mono (by simp))).trans (m5.mono fun m hm => List.mem_cons_of_mem _ hm)⟩
   rcases hfp b hb with rfl | ⟨hbX, _⟩
   ·exact hIN z
   ·exact hbX (hN b z)
  cases f with
  | next => exact step h₅
  | cont => exact step h₅
  | brk => exact h₅
  | ret u => exact h₅
 ·have hin : i = n := by lia
  subst hin
  refine W.done sx _ _ hsti fun h' tk hk => ?_
  have mv1 : Mv [I] sx { sx with heap := h', toks := tk } := ⟨⟨h', tk, rfl⟩, hk⟩
  refine wpAny_execs_nil ?_
  exact fin I _ _ hfr0 (hn ▸ hinv) mv1
end
section
variable {prog : Program} {w : World} {A : Around} {env : Env} {X : List Addr} {h : Heap}
theorem RepL.one {X : List Addr} {h : Heap} {p : PV} {vs : List Value} (r : RepL X h [p] vs) : ∃ v, vs = [v] /\ Rep X h p v := by
 unfold RepL at r
 obtain ⟨v, r', rfl, a, b⟩ := r
 unfold RepL at b
 exact ⟨v, by rw [b], a⟩
theorem RepL.two {X : List Addr} {h : Heap} {p q : PV} {vs : List Value} (r : RepL X h [p, q] vs) : ∃ v u, vs = [v, u] /\ Rep X h p v /\ Rep X h q u := by
 unfold RepL at r
 obtain ⟨v, r', rfl, a, b⟩ := r
 obtain ⟨u, rfl, c⟩ := RepL.one b
 exact ⟨v, u, rfl, a, c⟩
theorem c_len {xs : List PV} (hl : (xs.length : Int) < 2 ^ 63) : Calls prog w A X h (.builtin "len") [.list xs] (.int xs.length) := by
 intro s Q E vs k r hq
 obtain ⟨v, rfl, r1⟩ := r.one
 unfold Rep at r1
 obtain ⟨a, n, vs, rfl, ha, ho, rl⟩ := r1
 have hsz : vs.size = xs.length := by simpa using rl.length
 refine call_len_list ⟨_, ho, rfl, n, rfl⟩ (by rw [hsz]; exact hl) (hq _ _ (Gw.toks s _) ?_)
 unfold Rep; exact ⟨_, by rw [hsz]⟩
theorem c_range1 (xb : XB h X) {n : Int} : Calls prog w A X h (.type "range") [.int n] (.rng 0 n) := by
 intro s Q E vs k r hq
 obtain ⟨v, rfl, t, rfl⟩ := r.one
 refine call_range_1 (hq _ _ ⟨⟨_, _, rfl⟩, fun _ _ e => Heap.get?_push_of_some _ e⟩ ?_)
 unfold Rep; exact ⟨_, _, _, _, rfl, (xb.hk k).fresh (fresh_size _), IsRange.new _ _ _ _ _ _ _⟩
theorem c_range2 (xb : XB h X) {a b : Int} : Calls prog w A X h (.type "range") [.int a, .int b] (.rng a b) := by
 intro s Q E vs k r hq
 obtain ⟨v, u, rfl, ⟨t, rfl⟩, ⟨t', rfl⟩⟩ := r.two
 refine call_range_2 (hq _ _ ⟨⟨_, _, rfl⟩, fun _ _ e => Heap.get?_push_of_some _ e⟩ ?_)
 unfold Rep; exact ⟨_, _, _, _, rfl, (xb.hk k).fresh (fresh_size _), IsRange.new _ _ _ _ _ _ _⟩
theorem c_chr {i : Int} (h0 : 0 <= i) (h1 : i <= 1114111) : Calls prog w A X h (.builtin "chr") [.int i] (.str ⟨#[i.toNat]⟩) := by
 intro s Q E vs k r hq
 obtain ⟨v, rfl, t, rfl⟩ := r.one
 exact chr_of_range h0 h1 (hq _ _ (Gw.tok s) ⟨_, rfl⟩)
theorem c_ord {c : Nat} : Calls prog w A X h (.builtin "ord") [.str ⟨#[c]⟩] (.int c) := by
 intro s Q E vs k r hq
 obtain ⟨v, rfl, t, rfl⟩ := r.one
 exact P.ord_of_char (hq _ _ (Gw.tok s) ⟨_, rfl⟩)
theorem Ev.sub' {value slice : Expr} {pos : Pos} {p q z : PV} (x : Ev prog w A env X h value p) (y : Ev prog w A env X h slice q)
  (o : ∀ (s : Shared) (Q : Value -> Shared -> Prop) (E : Value -> Shared -> Prop) (a b : Value), HK h s.heap -> Rep X s.heap p a -> Rep X s.heap q b -> (∀ v s', Gw s s' -> Rep X s'.heap z v -> Q v s') -> wpAny (model prog w) A (subscriptTail value slice a b) Q E s) :
  Ev prog w A env X h (.Subscript value slice pos) z := by
 intro s Q E k hq
 exact Subscript_ (x s _ _ k fun a s₁ k₁ r₁ => y s₁ _ _ (k.trans k₁.hk) fun b s₂ k₂ r₂ => o s₂ _ _ a b (k.trans (k₁.hk.trans k₂.hk)) (r₁.hk k₂.hk) r₂ fun v s' k₃ r₃ => hq v s' (k₁.trans (k₂.trans k₃)) r₃)
theorem Ev.item {value slice : Expr} {pos : Pos} {xs : List PV} {i : Int} {z : PV} (x : Ev prog w A env X h value (.list xs)) (y : Ev prog w A env X h slice (.int i)) (h0 : 0 <= i) (h1 : i < 2 ^ 63) (hz : xs[i.toNat]? = some z)
  (hs : ∀ o i, subscripted slice false o i = operate [o, i] (getItem o i) := by intro _ _; rfl) : Ev prog w A env X h (.Subscript value slice pos) z :=
 Ev.sub' x y fun s Q E a b k ra rb hq => by
  unfold Rep at ra
  obtain ⟨ad, n, vs, rfl, ha, ho, rl⟩ := ra
  obtain ⟨t, rfl⟩ := rb
  obtain ⟨v, hv, rv⟩ := rl.get hz
  have hL : s.heap.IsList ad vs := ⟨_, ho, rfl, n, rfl⟩
  exact tail_any hL.typeIs slot_list_getitem.lookup (wpAny_getItem_list hL h0 h1 (by simpa using hv) (hq _ _ (Gw.refl s) rv)) (hs _ _)
theorem Ev.itemT {value slice : Expr} {pos : Pos} {xs : List PV} {i : Int} {z : PV} (x : Ev prog w A env X h value (.tuple xs)) (y : Ev prog w A env X h slice (.int i)) (h0 : 0 <= i) (h1 : i < 2 ^ 63) (hz : xs[i.toNat]? = some z)
  (hs : ∀ o i, subscripted slice false o i = operate [o, i] (getItem o i) := by intro _ _; rfl) : Ev prog w A env X h (.Subscript value slice pos) z :=
 Ev.sub' x y fun s Q E a b k ra rb hq => by
  unfold Rep at ra
  obtain ⟨ad, n, vs, rfl, ha, ho, rl⟩ := ra
  obtain ⟨t, rfl⟩ := rb
  obtain ⟨v, hv, rv⟩ := rl.get hz
  have hL : IsTup s.heap ad vs := ⟨_, ho, rfl, n, rfl⟩
  have hlt : i.toNat < vs.size := by have := (List.getElem?_eq_some_iff.mp hv).1; simpa using this
  have hvs : vs = vs.toList.toArray := by simp
  rw [hvs] at hL
  refine item_tupleT (j := i.toNat) hL (by lia) h1 ?_ (by simpa using hv) (hq _ _ (Gw.refl s) rv) (hs _ _)
  exact seqIndex_of h0 (by rw [Array.length_toList]; lia)
theorem Ev.sign {value slice : Expr} {pos : Pos} {x : Str} {i : Int} {c : Nat} (hx : Ev prog w A env X h value (.str x)) (y : Ev prog w A env X h slice (.int i)) (h0 : 0 <= i) (h1 : i < 2 ^ 63) (hc : x.cps[i.toNat]? = some c)
  (hs : ∀ o i, subscripted slice false o i = operate [o, i] (getItem o i) := by intro _ _; rfl) : Ev prog w A env X h (.Subscript value slice pos) (.str ⟨#[c]⟩) :=
 Ev.sub' hx y fun s Q E a b k ra rb hq => by
  obtain ⟨t, rfl⟩ := ra
  obtain ⟨u, rfl⟩ := rb
  refine tail_any (typeIs_str s x t) F.slot_str_getitem.lookup (P.getItem_str (c := c) ?_ ?_ (hq _ _ (Gw.tok s) ⟨_, rfl⟩)) (hs _ _)
  ·simp; lia
  ·have hlt := (Array.getElem?_eq_some_iff.mp hc).1
   rw [seqIndex_of (n := x.length) h0 (by show i < (x.cps.size : Int); lia)]; exact hc
theorem Ev.neg {e : Expr} {pos : Pos} {a : Int} (x : Ev prog w A env X h e (.int a)) : Ev prog w A env X h (.UnaryOp .USub e pos) (.int (-a)) := by
 intro s Q E k hq
 show wpAny _ _ (eval e env >>= fun v => standAt pos >>= fun _ => holding [v] (unaryOp .USub v)) _ _ _
 refine wpAny_bind (x s _ _ k fun v s₁ g r => wpAny_bind (wpAny_standAt (wpAny_holding ?_)))
 obtain ⟨t, rfl⟩ := r
 exact neg_int (hq _ _ (g.trans (Gw.tok _)) ⟨_, rfl⟩)
theorem Ev.cat {l r : Expr} {pos : Pos} {a b : Str} (x : Ev prog w A env X h l (.str a)) (y : Ev prog w A env X h r (.str b)) (hl : (a ++ b).length <= sizeLine) : Ev prog w A env X h (.BinOp l .Add r pos) (.str (a ++ b)) :=
 Ev.bin x y fun s _ _ _ _ _ ⟨_, e1⟩ ⟨_, e2⟩ hq => by
  subst e1 e2
  refine P.add_str ?_
  by_cases ha : a.length == 0
  ·rw [if_pos ha]
   have : a ++ b = b := by
    have h0 : a.cps = #[] := by have := beq_iff_eq.mp ha; exact Array.eq_empty_of_size_eq_zero this
    have : a = Str.empty := by cases a; simp_all [Str.empty]
    rw [this]; exact Str.empty_append b
   exact hq _ _ (Gw.refl s) ⟨_, by rw [this]⟩
  ·rw [if_neg ha]
   by_cases hb : b.length == 0
   ·rw [if_pos hb]
    have : a ++ b = a := by
     have h0 : b.cps = #[] := by have := beq_iff_eq.mp hb; exact Array.eq_empty_of_size_eq_zero this
     apply Str.ext'
     rw [Str.cps_append, h0]; simp
    exact hq _ _ (Gw.refl s) ⟨_, by rw [this]⟩
   ·rw [if_neg hb]
    exact ⟨hl, hq _ _ (Gw.tok s) ⟨_, rfl⟩⟩
theorem Ev.cmp {l r : Expr} {op : CmpOp} {pos : Pos} {p q : PV} {b : Bool} (x : Ev prog w A env X h l p) (y : Ev prog w A env X h r q)
  (o : ∀ (s : Shared) (Q : Value -> Shared -> Prop) (E : Value -> Shared -> Prop) (u v : Value), HK h s.heap -> Rep X s.heap p u -> Rep X s.heap q v -> (∀ s', Gw s s' -> Q (.bool b) s') -> wpAny (model prog w) A (compareOp op u v) Q E s)
  (hm : behindInMarks op r = false := by rfl) : Ev prog w A env X h (.Compare l [op] [r] pos) (.bool b) := by
 intro s Q E k hq
 exact wpAny_Compare1 (x s _ _ k fun u s₁ k₁ r₁ => y s₁ _ _ (k.trans k₁.hk) fun v s₂ k₂ r₂ => o s₂ _ _ u v (k.trans (k₁.hk.trans k₂.hk)) (r₁.hk k₂.hk) r₂ fun s' k₃ => hq _ s' (k₁.trans (k₂.trans k₃)) rfl) hm
theorem Tst.cmp {l r : Expr} {op : CmpOp} {pos : Pos} {p q : PV} {b : Bool} (x : Ev prog w A env X h l p) (y : Ev prog w A env X h r q)
  (o : ∀ (s : Shared) (Q : Value -> Shared -> Prop) (E : Value -> Shared -> Prop) (u v : Value), HK h s.heap -> Rep X s.heap p u -> Rep X s.heap q v -> (∀ s', Gw s s' -> Q (.bool b) s') -> wpAny (model prog w) A (compareOp op u v) Q E s)
  (hm : behindInMarks op r = false := by rfl) : Tst prog w A env h (.Compare l [op] [r] pos) b := by
 intro s Q E k hq
 exact wpAny_isTrue_Compare1 (x s _ _ k fun u s₁ k₁ r₁ => y s₁ _ _ (k.trans k₁.hk) fun v s₂ k₂ r₂ => o s₂ _ _ u v (k.trans (k₁.hk.trans k₂.hk)) (r₁.hk k₂.hk) r₂ fun s' k₃ => wpAny_truthy_bool (hq s' (k₁.trans (k₂.trans k₃)))) hm
def IntCmp (prog : Program) (w : World) (A : Around) (op : CmpOp) (f : Int -> Int -> Bool) : Prop :=
 ∀ (s : Shared) (Q : Value -> Shared -> Prop) (E : Value -> Shared -> Prop) (a b : Int) (t u : Tok), Q (.bool (f a b)) s -> wpAny (model prog w) A (compareOp op (.int a t) (.int b u)) Q E s
theorem i_eq : IntCmp prog w A .Eq (fun a b => a == b) := fun _ _ _ _ _ _ _ q => eq_int q
theorem i_ne : IntCmp prog w A .NotEq (fun a b => a != b) := fun _ _ _ _ _ _ _ q => ne_int q
theorem i_lt : IntCmp prog w A .Lt (fun a b => decide (a < b)) := fun _ _ _ _ _ _ _ q => lt_int q
theorem i_ge : IntCmp prog w A .GtE (fun a b => decide (b <= a)) := fun _ _ _ _ _ _ _ q => ge_int q
theorem Tst.ints {l r : Expr} {op : CmpOp} {f : Int -> Int -> Bool} {pos : Pos} {a b : Int} (c : IntCmp prog w A op f) (x : Ev prog w A env X h l (.int a)) (y : Ev prog w A env X h r (.int b)) (hm : behindInMarks op r = false := by rfl) :
  Tst prog w A env h (.Compare l [op] [r] pos) (f a b) :=
 Tst.cmp x y (fun s _ _ _ _ _ ⟨_, e1⟩ ⟨_, e2⟩ hq => by subst e1 e2; exact c _ _ _ _ _ _ _ (hq s (Gw.refl s))) hm
theorem Ev.ints {l r : Expr} {op : CmpOp} {f : Int -> Int -> Bool} {pos : Pos} {a b : Int} (c : IntCmp prog w A op f) (x : Ev prog w A env X h l (.int a)) (y : Ev prog w A env X h r (.int b)) (hm : behindInMarks op r = false := by rfl) :
  Ev prog w A env X h (.Compare l [op] [r] pos) (.bool (f a b)) :=
 Ev.cmp x y (fun s _ _ _ _ _ ⟨_, e1⟩ ⟨_, e2⟩ hq => by subst e1 e2; exact c _ _ _ _ _ _ _ (hq s (Gw.refl s))) hm
theorem Ev.ifExp {t b e : Expr} {pos : Pos} {c : Bool} {z : PV} (ht : Tst prog w A env h t c) (hb : c = true -> Ev prog w A env X h b z) (he : c = false -> Ev prog w A env X h e z) : Ev prog w A env X h (.IfExp t b e pos) z := by
 intro s Q E k hq
 show wpAny _ _ (isTrue t env (eval t env) >>= fun c => if c = true then eval b env else eval e env) _ _ _
 refine wpAny_bind (ht s _ _ k fun s' g => ?_)
 cases c with
 | true => exact hb rfl s' _ _ (k.trans g.hk) fun v s'' g' r => hq v s'' (g.trans g') r
 | false => exact he rfl s' _ _ (k.trans g.hk) fun v s'' g' r => hq v s'' (g.trans g') r
end
noncomputable def Flat : PV -> Prop
 | .none => True
 | .bool _ => True
 | .int _ => True
 | .str _ => True
 | .bytes _ => True
 | .obj (.ref _) => True
 | _ => False
noncomputable def toPV : Value -> PV
 | .none => .none
 | .bool b => .bool b
 | .int i _ => .int i
 | .str s _ => .str s
 | .bytes b _ => .bytes b
 | v => .obj v
theorem toPV_of {X : List Addr} {h : Heap} {q : PV} {v : Value} (f : Flat q) (r : Rep X h q v) : toPV v = q := by
 cases q with
 | none => obtain rfl : v = .none := r; rfl
 | bool b => obtain rfl : v = .bool b := r; rfl
 | int i => obtain ⟨t, rfl⟩ : ∃ t, v = .int i t := r; rfl
 | str x => obtain ⟨t, rfl⟩ : ∃ t, v = .str x t := r; rfl
 | bytes x => obtain ⟨t, rfl⟩ : ∃ t, v = .bytes x t := r; rfl
 | obj u =>
  obtain rfl : v = u := r
  cases v with
  | ref a => rfl
  | _ => exact False.elim f
 | _ => exact False.elim f
theorem Rep.flat {X Y : List Addr} {h h' : Heap} {q : PV} {v : Value} (f : Flat q) (r : Rep X h q v) : Rep Y h' q v := by
 cases q with
 | list _ => exact False.elim f
 | tuple _ => exact False.elim f
 | rng _ _ => exact False.elim f
 | _ => exact r
def IterL (prog : Program) (w : World) (A : Around) (env : Env) (X : List Addr) (h : Heap) (iter : Expr) (its : List PV) : Prop :=
 ∀ (s : Shared) (Q : Value -> Shared -> Prop) (E : Value -> Shared -> Prop), HK h s.heap -> (∀ v s₁, Gw s s₁ -> (∀ (Q' : Value -> Shared -> Prop) (E' : Value -> Shared -> Prop), (∀ (I : Addr) (fp : List Addr) (n : Nat) (P : Nat -> Value -> Prop) (St : Nat -> Heap -> Prop) (s₂ : Shared), Gw s₁ s₂ -> n = its.length -> (∀ A' : Around, A'.handled = none -> Walks prog w A' I fp [I] n P St) -> St 0 s₂.heap -> (∃ o, s₂.heap.get? I = some o) ->
   (∀ i u, i < n -> P i u -> ∃ q, its[i]? = some q /\ Rep X s₁.heap q u) -> s₁.heap.get? I = none -> (∀ b ∈ fp, b < s₂.heap.objs.size) -> (∀ i h, St i h -> ∃ o, h.get? I = some o) -> Q' (.ref I) s₂) -> wpAny (model prog w) A (pyIter v) Q' E' s₁) -> Q v s₁) -> wpAny (model prog w) A (eval iter env) Q E s
section
variable {prog : Program} {w : World} {A : Around} {E : Value -> Shared -> Prop} {env : Env} {X : List Addr} {h : Heap}
theorem walks_lim {I : Addr} {fp wr : List Addr} {n : Nat} {P : Nat -> Value -> Prop} {St : Nat -> Heap -> Prop} (W : Walks prog w A I fp wr n P St) : Walks prog w A I fp wr n (fun i v => i < n /\ P i v) St where
 sub := W.sub
 frame := W.frame
 item := fun i s Q E hi st hQ => W.item i s Q E hi st fun v h' tk hP => hQ v h' tk ⟨hi, hP⟩
 done := W.done
 self := W.self
def TstAll (prog : Program) (w : World) (A : Around) (env : Env) (h : Heap) (ifs : List Expr) (b : Bool) : Prop :=
 ∀ (s : Shared) (Q : Bool -> Shared -> Prop) (E : Value -> Shared -> Prop), HK h s.heap -> (∀ s', Gw s s' -> Q b s') ->
  wpAny (model prog w) A (forIn ifs true fun c r => if r = true then do let ok <- isTrue c env (eval c env); pure (ForInStep.yield ok) else pure (ForInStep.yield r)) Q E s
theorem TstAll.nil : TstAll prog w A env h [] true := fun s _ _ _ hq => wpAny_pure (hq s (Gw.refl s))
theorem TstAll.one {c : Expr} {b : Bool} (t : Tst prog w A env h c b) : TstAll prog w A env h [c] b := by
 intro s Q E k hq
 rw [List.forIn_cons]
 rw [if_pos rfl]
 refine wpAny_bind (wpAny_bind (t s _ _ k fun s' g => wpAny_pure ?_))
 exact wpAny_pure (hq s' g)
theorem closure_of {scope : Scope} : ∀ {names : List (Str × NameKind)} {acc : List (Str × Addr)}, (∀ x, (x, NameKind.free) ∈ names -> ∃ c, env.cells.lookup x = some c) ->
  ∃ cl, (forIn names acc fun p cs => if p.2 == .free then do let a <- cellOf env p.1; pure (ForInStep.yield ((p.1, a) :: cs)) else pure (ForInStep.yield cs)) = (pure cl : Sem _) /\
   (∀ p ∈ cl, p ∈ acc \/ ((p.1, NameKind.free) ∈ names /\ env.cells.lookup p.1 = some p.2)) /\ (∀ p ∈ acc, p ∈ cl) /\ ∀ x, (x, NameKind.free) ∈ names -> ∃ c, (x, c) ∈ cl
 | [], acc, _ => ⟨acc, rfl, fun _ hp => .inl hp, fun _ hp => hp, fun _ hx => nomatch hx⟩
 | (y, k) :: r, acc, hf => by
  rw [List.forIn_cons]
  by_cases hk : k = .free
  ·subst hk
   obtain ⟨c, hc⟩ := hf y List.mem_cons_self
   have e1 : cellOf env y = pure c := by unfold cellOf; rw [hc]
   obtain ⟨cl, e, h1, h2, h3⟩ := closure_of (scope := scope) (names := r) (acc := (y, c) :: acc) (fun x hx => hf x (List.mem_cons_of_mem _ hx))
   refine ⟨cl, ?_, fun p hp => ?_, fun p hp => h2 p (List.mem_cons_of_mem _ hp), fun x hx => ?_⟩
   ·rw [if_pos (show ((y, NameKind.free).2 == NameKind.free) = true from rfl)]
    show ((cellOf env y >>= fun a => (pure (ForInStep.yield ((y, a) :: acc)) : Sem _)) >>= _) = _
    rw [e1]
    exact e
   ·rcases h1 p hp with z | ⟨z, z'⟩
    ·rcases List.mem_cons.mp z with rfl | z
     ·exact .inr ⟨List.mem_cons_self, hc⟩
     ·exact .inl z
    ·exact .inr ⟨List.mem_cons_of_mem _ z, z'⟩
   ·rcases List.mem_cons.mp hx with z | z
    ·cases z; exact ⟨c, h2 _ List.mem_cons_self⟩
    ·exact h3 x z
  ·obtain ⟨cl, e, h1, h2, h3⟩ := closure_of (scope := scope) (names := r) (acc := acc) (fun x hx => hf x (List.mem_cons_of_mem _ hx))
   refine ⟨cl, ?_, fun p hp => (h1 p hp).imp id fun z => ⟨List.mem_cons_of_mem _ z.1, z.2⟩, h2, fun x hx => ?_⟩
   ·rw [if_neg (by simpa using hk)]
    exact e
   ·rcases List.mem_cons.mp hx with z | z
    ·cases z; exact absurd rfl hk
    ·exact h3 x z
noncomputable def cvals (n li : Nat) (jm : List (Nat × Nat)) (vals : List (Option PV)) (q : PV) : List (Option PV) :=
 (List.range n).map fun i => if i = li then some q else match jm.lookup i with
  | some j => (vals[j]?).getD none
  | none => none
theorem cvals_get {n li : Nat} {jm : List (Nat × Nat)} {vals : List (Option PV)} {q p : PV} {i : Nat} (e : (cvals n li jm vals q)[i]? = some (some p)) : (i = li /\ p = q) \/ (i ≠ li /\ ∃ j, jm.lookup i = some j /\ vals[j]? = some (some p)) := by
 unfold cvals at e
 rw [List.getElem?_map] at e
 cases hr : (List.range n)[i]? with
 | none => rw [hr] at e; simp at e
 | some k =>
  have hk : k = i := by have := List.getElem?_eq_some_iff.mp hr; simpa using this.2.symm
  subst hk
  rw [hr] at e
  simp only [Option.map_some, Option.some.injEq] at e
  by_cases hl : k = li
  ·rw [if_pos hl] at e; exact .inl ⟨hl, (Option.some.inj e).symm⟩
  ·rw [if_neg hl] at e
   refine .inr ⟨hl, ?_⟩
   cases hj : jm.lookup k with
   | none => rw [hj] at e; cases e
   | some j =>
    rw [hj] at e
    dsimp only at e
    refine ⟨j, rfl, ?_⟩
    cases hv : vals[j]? with
    | none => rw [hv] at e; cases e
    | some z => rw [hv] at e; exact congrArg some e
theorem relabel_names {scope : Scope} {i : Nat} {x : Str} {k : NameKind} (e : (relabel scope env).names[i]? = some (x, k)) :
  ∃ k', scope.names[i]? = some (x, k') /\ ((k' = k /\ ¬ (k' = .free /\ env.scope.kind = .function /\ env.kindOf x = some .cell)) \/ (k' = .free /\ k = .cell /\ env.kindOf x = some .cell)) := by
 unfold relabel at e
 rw [List.getElem?_map] at e
 cases hs : scope.names[i]? with
 | none => rw [hs] at e; simp at e
 | some y =>
  obtain ⟨y, k'⟩ := y
  rw [hs] at e
  simp only [Option.map_some, Option.some.injEq] at e
  by_cases hc : (k' == NameKind.free && env.scope.kind == .function && env.kindOf y == some .cell) = true
  ·rw [if_pos hc] at e
   cases e
   simp only [Bool.and_eq_true, beq_iff_eq] at hc
   exact ⟨k', rfl, .inr ⟨hc.1.1, rfl, hc.2⟩⟩
  ·rw [if_neg hc] at e
   cases e
   refine ⟨k, rfl, .inl ⟨rfl, fun z => hc ?_⟩⟩
   simp only [Bool.and_eq_true, beq_iff_eq]
   exact ⟨⟨z.1, z.2.1⟩, z.2.2⟩
noncomputable def compOk (cn en : List (Str × NameKind)) (has : List Bool) (li : Nat) (x : Str) (jm : List (Nat × Nat)) : Bool :=
 decide (cn[li]? = some (x, .local)) && decide ((cn.map (·.1)).Nodup) && cn.all (fun y => decide (y.2 ≠ .cell)) &&
 ((List.range cn.length).all fun i => match cn[i]? with
  | some (y, .free) => (match jm.lookup i with
   | some j => decide (en[j]? = some (y, .cell)) && decide (has[j]? = some true)
   | none => false)
  | _ => true) &&
 (jm.all fun z => match cn[z.1]? with
  | some (_, .free) => true
  | _ => false)
theorem mem_of_lookupN {α : Type} : ∀ {l : List (Nat × α)} {i : Nat} {j : α}, l.lookup i = some j -> (i, j) ∈ l
 | [], _, _, h => by simp at h
 | (a, b) :: l, i, j, h => by
  simp only [List.lookup] at h
  split at h
  ·rename_i q; cases h; rw [beq_iff_eq.mp q]; exact List.mem_cons_self
  ·exact List.mem_cons_of_mem _ (mem_of_lookupN h)
structure CompOk (cn en : List (Str × NameKind)) (vals : List (Option PV)) (li : Nat) (x : Str) (jm : List (Nat × Nat)) : Prop where
 hli : cn[li]? = some (x, .local)
 hnd : (cn.map (·.1)).Nodup
 hnc : ∀ y ∈ cn, y.2 ≠ .cell
 hfree : ∀ i y, cn[i]? = some (y, .free) -> ∃ j p, jm.lookup i = some j /\ en[j]? = some (y, .cell) /\ vals[j]? = some (some p)
 hjm : ∀ i j, jm.lookup i = some j -> ∃ y, cn[i]? = some (y, .free)
theorem CompOk.of {cn en : List (Str × NameKind)} {vals : List (Option PV)} {has : List Bool} {li : Nat} {x : Str} {jm : List (Nat × Nat)} (h : compOk cn en has li x jm = true) (hv : vals.map Option.isSome = has) : CompOk cn en vals li x jm := by
 unfold compOk at h
 simp only [Bool.and_eq_true, List.all_eq_true, decide_eq_true_eq] at h
 obtain ⟨⟨⟨⟨h1, h2⟩, h3⟩, h4⟩, h5⟩ := h
 refine ⟨h1, h2, h3, fun i y e => ?_, fun i j e => ?_⟩
 ·have := h4 i (List.mem_range.mpr (List.getElem?_eq_some_iff.mp e).1)
  rw [e] at this
  dsimp only at this
  cases hj : jm.lookup i with
  | none => rw [hj] at this; cases this
  | some j =>
   rw [hj] at this
   simp only [Bool.and_eq_true, decide_eq_true_eq] at this
   have h6 := this.2
   rw [<- hv, List.getElem?_map] at h6
   cases hq : vals[j]? with
   | none => rw [hq] at h6; cases h6
   | some o =>
    rw [hq] at h6
    cases o with
    | none => cases h6
    | some p => exact ⟨j, p, rfl, this.1, hq⟩
 ·have := h5 _ (mem_of_lookupN e)
  dsimp only at this
  cases hc : cn[i]? with
  | none => rw [hc] at this; cases this
  | some z =>
   obtain ⟨y, k⟩ := z
   rw [hc] at this
   cases k <;> first | exact ⟨y, rfl⟩ | cases this
noncomputable def relN (names : List (Str × NameKind)) : List (Str × NameKind) := names.map fun y => if y.2 = .free then (y.1, .cell) else y
theorem comp_coreL {s : Shared} {vals : List (Option PV)} (r : Rd env X h vals) (hh : A.handled = none) {elt iter : Expr} {x : Str} {px pos pos' : Pos} {ifs : List Expr} {scope : Scope} {its : List PV} {li : Nat} {jm : List (Nat × Nat)} (f : PV -> PV) (pr : PV -> Bool) {use : Option (Value -> Sem Unit)} {Q : Value -> Shared -> Prop}
  (ok : CompOk scope.names env.scope.names vals li x jm) (hkind : scope.kind = .function)
  (ev : IterL prog w A env X h iter its) (hfl : ∀ q ∈ its, Flat q) (hn : its.length <= sizeLine) (hff : ∀ q ∈ its, pr q = true -> Flat (f q))
  (tests : ∀ q ∈ its, ∀ (en : Env) (h' : Heap), en.scope.names = relN scope.names -> en.globals = env.globals -> en.builtins = env.builtins -> HK h h' -> Rd en X h' (cvals scope.names.length li jm vals q) -> TstAll prog w A en h' ifs (pr q))
  (elts : ∀ q ∈ its, pr q = true -> ∀ (en : Env) (h' : Heap), en.scope.names = relN scope.names -> en.globals = env.globals -> en.builtins = env.builtins -> HK h h' -> Rd en X h' (cvals scope.names.length li jm vals q) -> Ev prog w A en X h' elt (f q))
  (k : HK h s.heap)
  (post : ∀ D C s' m', Gw s s' -> s.heap.get? C = none -> D ≠ C -> s'.heap.Ns C m' -> (∀ Y, D ∉ Y -> ∀ h₃, HK s'.heap h₃ \/ Kp [C] s'.heap h₃ -> Rep Y h₃ (.list ((its.filter pr).map f)) (.ref D)) -> D ∉ X -> s.heap.get? D = none -> compPost (model prog w) A E use Q (.ref D) C (.ok .next) s')
  (hs : ∀ x, foldedSetIterable iter env x = pure x := by intro _; rfl) :
  wpAny (model prog w) A (comprehension (.ListComp elt [⟨.Name x px, iter, ifs, 0⟩] scope pos) scope env pos' (newList []) false (eval iter env) use) Q E s := by
 obtain ⟨hli, hnd, hnc, hfree', hjm'⟩ := ok
 have hfree : ∀ y, (y, NameKind.free) ∈ scope.names -> env.kindOf y = some .cell /\ ∃ c, env.cells.lookup y = some c := fun y hy => by
  obtain ⟨i, hi⟩ := List.mem_iff_getElem?.mp hy
  obtain ⟨j, pv, e1, e2, e3⟩ := hfree' i y hi
  refine ⟨r.kindOf e2, ?_⟩
  obtain ⟨v, hv, _⟩ := r.rd j y .cell pv e2 e3
  rcases hv with ⟨z, _⟩ | ⟨_, c, hc, _⟩
  ·cases z
  ·exact ⟨c, hc⟩
 have hjm : ∀ i j, jm.lookup i = some j -> ∃ y, scope.names[i]? = some (y, .free) /\ env.scope.names[j]? = some (y, .cell) := fun i j e => by
  obtain ⟨y, hy⟩ := hjm' i j e
  obtain ⟨j', pv, e1, e2, e3⟩ := hfree' i y hy
  rw [e] at e1; cases e1
  exact ⟨y, hy, e2⟩
 have hrel : ∀ {cl : List (Str × Addr)} (C : Addr), (compEnvC scope cl C env).scope.names = relN scope.names := fun C => by
  show (relabel scope env).names = _
  unfold relabel relN
  refine List.map_congr_left fun y hy => ?_
  obtain ⟨y, kk⟩ := y
  dsimp only
  by_cases hk : kk = .free
  ·subst hk
   rw [if_pos, if_pos rfl]
   simp only [Bool.and_eq_true, beq_iff_eq]
   exact ⟨⟨trivial, r.kind⟩, (hfree y hy).1⟩
  ·rw [if_neg, if_neg hk]
   simp [hk]
 obtain ⟨cl, ecl, hcl, _, hcl3⟩ := closure_of (env := env) (scope := scope) (names := scope.names) (acc := []) (fun y hy => (hfree y hy).2)
 have hclos : closureFor scope env = pure cl := by
  have e0 : closureFor scope env = ((forIn scope.names ([] : List (Str × Addr)) fun p cs => if p.2 == .free then do let a <- cellOf env p.1; pure (ForInStep.yield ((p.1, a) :: cs)) else pure (ForInStep.yield cs)) >>= fun cs => (pure cs : Sem _)) := rfl
  rw [e0, ecl]; rfl
 have hclk : ∀ y c, env.cells.lookup y = some c -> (y, NameKind.free) ∈ scope.names -> cl.lookup y = some c := fun y c hc hy => by
  obtain ⟨c', hc'⟩ := hcl3 y hy
  obtain ⟨d, hd⟩ := Option.isSome_iff_exists.mp (lookup_some_of_mem hc')
  rcases hcl _ (mem_of_lookup hd) with z | ⟨_, z⟩
  ·cases z
  ·dsimp only at z; rw [hc] at z; cases z; exact hd
 have hxl : scope.names.lookup x = some .local := lookup_of_nodup hnd hli
 have rdC : ∀ C (h' : Heap) (m : Str -> Option Value) (q : PV) (v : Value), HK h h' -> h'.Ns C m -> m x = some v -> Rep X h' q v -> Rd (compEnvC scope cl C env) X h' (cvals scope.names.length li jm vals q) := fun C h' m q v hk' ns hm rv => {
   kind := hkind
   nodup := by
    show (((relabel scope env).names).map (·.1)).Nodup
    have : (relabel scope env).names.map (·.1) = scope.names.map (·.1) := by
     unfold relabel
     rw [List.map_map]
     refine List.map_congr_left fun y _ => ?_
     obtain ⟨y, k⟩ := y
     dsimp only [Function.comp]
     split <;> rfl
    rw [this]; exact hnd
   rd := fun i y ky pv e1 e2 => by
    obtain ⟨k', e3, hk3⟩ := relabel_names e1
    rcases cvals_get e2 with ⟨rfl, rfl⟩ | ⟨_, j, hj, hvj⟩
    ·rw [hli] at e3; cases e3
     rcases hk3 with ⟨rfl, _⟩ | ⟨z, _⟩
     ·exact ⟨v, .inl ⟨rfl, m, ns, hm⟩, rv⟩
     ·cases z
    ·obtain ⟨z, f1, f2⟩ := hjm i j hj
     rw [e3] at f1; cases f1
     obtain ⟨u, ru, rep⟩ := r.rd j y .cell pv f2 hvj
     have hmem := List.mem_of_getElem? e3
     rcases hk3 with ⟨_, hn'⟩ | ⟨_, rfl, _⟩
     ·exact absurd ⟨rfl, r.kind, (hfree y hmem).1⟩ hn'
     ·rcases ru with ⟨z, _⟩ | ⟨_, c, hc, hcell⟩
      ·cases z
      ·exact ⟨u, .inr ⟨rfl, c, hclk y c hc hmem, hcell.keeps hk'⟩, rep.hk hk'⟩
   xb := r.xb.hk hk' }
 refine wpAny_comprehension_free (use := use) rfl hs hclos hkind (fun y hy hl => ?_) (ev s _ _ k fun v s₁ g rv => ?_)
 ·obtain ⟨i, hi'⟩ := List.mem_iff_getElem?.mp hy
  rw [lookup_of_nodup hnd hi', hl]
 ·refine rv _ _ fun I fp n P St s₂ g₂ hn' W hst hex hP hfr hlt hStI => ?_
  have old : ∀ h₃ : Heap, (∀ b o, b ∉ [I] -> s₂.heap.get? b = some o -> h₃.get? b = some o) -> HK h h₃ := fun h₃ q b o e => by
   have e1 := (k.trans g.hk) b o e
   exact q b o (by simp; rintro rfl; rw [hfr] at e1; cases e1) (g₂.hk b o e1)
  have itm : ∀ i v, (i < n /\ P i v) -> ∃ q, q ∈ its /\ toPV v = q /\ ∀ h', Rep X h' q v := fun i v ⟨hlt, hPv⟩ => by
   obtain ⟨q, hq', rq⟩ := hP i v hlt hPv
   have hm := List.mem_of_getElem? hq'
   exact ⟨q, hm, toPV_of (hfl q hm) rq, fun h' => rq.flat (hfl q hm)⟩
  refine comp_block_walkC (wr := [I]) (RR := fun acc C => compPost (model prog w) A E use Q acc C) (walks_lim (W A hh)) (hn' ▸ hn) (fun v => pr (toPV v)) (fun v y => Rep X h (f (toPV v)) y) hnc hkind hxl hst hlt ⟨?_, ?_⟩ ?_
  ·intro C i v s₃ m₃ E' hC hPv ns hm hk3 _
   obtain ⟨q, hm', et, rq⟩ := itm i v hPv
   have hk' := old s₃.heap hk3
   refine tests q hm' _ s₃.heap (hrel C) rfl rfl hk' (rdC C s₃.heap m₃ q v hk' ns hm (rq _)) s₃ _ _ (HK.refl _) fun s' g' => ⟨?_, g'.keeps⟩
   rw [et]
  ·intro C i v s₃ m₃ E' hC hPv hp ns hm hk3 _
   obtain ⟨q, hm', et, rq⟩ := itm i v hPv
   have hk' := old s₃.heap hk3
   have hp' : pr q = true := by have := hp; rw [et] at this; exact this
   refine elts q hm' hp' _ s₃.heap (hrel C) rfl rfl hk' (rdC C s₃.heap m₃ q v hk' ns hm (rq _)) s₃ _ _ (HK.refl _) fun y s' g' ry => ⟨?_, g'.keeps⟩
   rw [et]; exact ry.flat (hff q hm' hp')
  ·intro D C h' tk m' ys vs hD hC hDC hnC _ hpl hlen hPj hF hk3
   have hk' : HK s₁.heap h' := fun b o e => hk3 b o (by simp; rintro rfl; rw [hfr] at e; cases e) (g₂.hk b o e)
   have hD1 : s₁.heap.get? D = none := by
    cases z : s₁.heap.get? D with
    | none => rfl
    | some o => rw [g₂.hk _ _ z] at hD; cases hD
   have hvs : ∀ l : List PV, ∀ us : List Value, us.length = l.length -> (∀ (j : Nat) (u : Value), us[j]? = some u -> ∃ q : PV, l[j]? = some q /\ Flat q /\ toPV u = q) -> us.map toPV = l := by
    intro l
    induction l with
    | nil => intro us hl _; cases us with | nil => rfl | cons _ _ => simp at hl
    | cons q l ih =>
     intro us hl hu
     cases us with
     | nil => simp at hl
     | cons u us =>
      obtain ⟨q', e1, _, e2⟩ := hu 0 u rfl
      have : q = q' := by simpa using e1
      subst this
      rw [List.map_cons, e2, ih us (by simpa using hl) fun j u' hj => by
       obtain ⟨q'', a, b, c⟩ := hu (j + 1) u' (by simpa using hj)
       exact ⟨q'', by simpa using a, b, c⟩]
   have emap : vs.map toPV = its := hvs its vs (hlen.trans hn') fun j u hj => by
    obtain ⟨hlt', hPu⟩ := hPj j u hj
    obtain ⟨q, a, b⟩ := hP j u hlt' hPu
    exact ⟨q, a, hfl q (List.mem_of_getElem? a), toPV_of (hfl q (List.mem_of_getElem? a)) b⟩
   have key : ∀ (Y : List Addr) (h₃ : Heap) (us : List Value) (zs : List Value), Paired (fun v y => Rep X h (f (toPV v)) y) us zs -> (∀ u ∈ us, Flat (f (toPV u))) -> RepL Y h₃ (us.map fun u => f (toPV u)) zs := by
    intro Y h₃ us zs hp
    induction hp with
    | nil => intro _; exact RepL.nil
    | cons a _ ih => intro hu; exact RepL.cons (Rep.flat (hu _ List.mem_cons_self) a) (ih fun u hu' => hu u (List.mem_cons_of_mem _ hu'))
   obtain ⟨nn, hobj⟩ := hpl
   have hD0 : s.heap.get? D = none := by
    cases z : s.heap.get? D with
    | none => rfl
    | some o => rw [g.hk _ _ z] at hD1; cases hD1
   have hC0 : s.heap.get? C = none := by
    cases z : s.heap.get? C with
    | none => rfl
    | some o => rw [g₂.hk _ _ (g.hk _ _ z)] at hC; cases hC
   obtain ⟨⟨h₂, t₂, e₂⟩, _⟩ := g₂
   refine post D C _ m' ⟨?_, g.hk.trans hk'⟩ hC0 hDC hnC (fun Y hY h₃ hk₃ => ?_) (((r.xb.hk k).hk g.hk).fresh hD1) hD0
   ·obtain ⟨⟨h₁, t₁, e₁⟩, _⟩ := g
    subst e₂ e₁
    exact ⟨h', tk, rfl⟩
   ·unfold Rep
    have hobj' : h₃.get? D = some (listObj ys nn) := hk₃.elim (fun q => q _ _ hobj) fun q => q _ _ (by simpa using hDC) hobj
    refine ⟨D, nn, ys, rfl, hY, hobj', ?_⟩
    have e1 : (its.filter pr).map f = (vs.filter fun v => pr (toPV v)).map fun u => f (toPV u) := by
     rw [<- emap, List.filter_map, List.map_map]; rfl
    rw [e1]
    refine key _ _ _ _ hF fun u hu => ?_
    obtain ⟨hu1, hu2⟩ := List.mem_filter.mp hu
    have : toPV u ∈ its := by rw [<- emap]; exact List.mem_map_of_mem hu1
    exact hff _ this hu2
theorem evL_comp {s : Shared} {vals : List (Option PV)} (r : Rd env X h vals) (hh : A.handled = none) {elt iter : Expr} {x : Str} {px pos : Pos} {ifs : List Expr} {scope : Scope} {its : List PV} (li : Nat) (jm : List (Nat × Nat)) (f : PV -> PV) (pr : PV -> Bool) {Q : Value -> Shared -> Prop}
  (ok : CompOk scope.names env.scope.names vals li x jm) (hkind : scope.kind = .function)
  (ev : IterL prog w A env X h iter its) (hfl : ∀ q ∈ its, Flat q) (hn : its.length <= sizeLine) (hff : ∀ q ∈ its, pr q = true -> Flat (f q))
  (tests : ∀ q ∈ its, ∀ (en : Env) (h' : Heap), en.scope.names = relN scope.names -> en.globals = env.globals -> en.builtins = env.builtins -> HK h h' -> Rd en X h' (cvals scope.names.length li jm vals q) -> TstAll prog w A en h' ifs (pr q))
  (elts : ∀ q ∈ its, pr q = true -> ∀ (en : Env) (h' : Heap), en.scope.names = relN scope.names -> en.globals = env.globals -> en.builtins = env.builtins -> HK h h' -> Rd en X h' (cvals scope.names.length li jm vals q) -> Ev prog w A en X h' elt (f q))
  (k : HK h s.heap) (hq : ∀ D s', Gw s s' -> s.heap.get? D = none -> (∀ Y, D ∉ Y -> Rep Y s'.heap (.list ((its.filter pr).map f)) (.ref D)) -> Q (.ref D) s')
  (hs : ∀ x, foldedSetIterable iter env x = pure x := by intro _; rfl) :
  wpAny (model prog w) A (eval (.ListComp elt [⟨.Name x px, iter, ifs, 0⟩] scope pos) env) Q E s := by
 rw [eval_ListComp]
 refine comp_coreL r hh f pr ok hkind ev hfl hn hff tests elts k (fun D C s' m' g hC hDC hns rep hDX hD0 => ⟨m', hns, fun h' sb => ?_⟩) hs
 have kc : Kp [C] s'.heap h' := Kp.of_same sb
 obtain ⟨⟨h₁, t₁, e₁⟩, g2⟩ := g
 refine hq D _ ⟨?_, fun b o e => kc b o ?_ (g2 b o e)⟩ hD0 fun Y hY => rep Y hY h' (.inr kc)
 ·subst e₁; exact ⟨h', t₁, rfl⟩
 ·simp only [List.mem_singleton]; rintro rfl; rw [hC] at e; cases e
theorem IterL.of {iter : Expr} {p : PV} {its : List PV} (ev : Ev prog w A env X h iter p) (hi : Items p its) : IterL prog w A env X h iter its := fun s Q E k hq =>
 ev s _ _ k fun v s₁ g rv => hq v s₁ g fun Q' E' hI => iter_of hi rv fun I fp n P St s₂ g₂ hn W hst hex hP hfr _ hlt hStI => hI I fp n P St s₂ g₂ hn W hst hex hP hfr hlt hStI
theorem comp_core {s : Shared} {vals : List (Option PV)} (r : Rd env X h vals) (hh : A.handled = none) {elt iter : Expr} {x : Str} {px pos pos' : Pos} {ifs : List Expr} {scope : Scope} {p : PV} {its : List PV} {li : Nat} {jm : List (Nat × Nat)} (f : PV -> PV) (pr : PV -> Bool) {use : Option (Value -> Sem Unit)} {Q : Value -> Shared -> Prop}
  (ok : CompOk scope.names env.scope.names vals li x jm) (hkind : scope.kind = .function)
  (ev : Ev prog w A env X h iter p) (hi : Items p its) (hfl : ∀ q ∈ its, Flat q) (hn : its.length <= sizeLine) (hff : ∀ q ∈ its, pr q = true -> Flat (f q))
  (tests : ∀ q ∈ its, ∀ (en : Env) (h' : Heap), en.scope.names = relN scope.names -> en.globals = env.globals -> en.builtins = env.builtins -> HK h h' -> Rd en X h' (cvals scope.names.length li jm vals q) -> TstAll prog w A en h' ifs (pr q))
  (elts : ∀ q ∈ its, pr q = true -> ∀ (en : Env) (h' : Heap), en.scope.names = relN scope.names -> en.globals = env.globals -> en.builtins = env.builtins -> HK h h' -> Rd en X h' (cvals scope.names.length li jm vals q) -> Ev prog w A en X h' elt (f q))
  (k : HK h s.heap)
  (post : ∀ D C s' m', Gw s s' -> s.heap.get? C = none -> D ≠ C -> s'.heap.Ns C m' -> (∀ Y, D ∉ Y -> ∀ h₃, HK s'.heap h₃ \/ Kp [C] s'.heap h₃ -> Rep Y h₃ (.list ((its.filter pr).map f)) (.ref D)) -> D ∉ X -> s.heap.get? D = none -> compPost (model prog w) A E use Q (.ref D) C (.ok .next) s')
  (hs : ∀ x, foldedSetIterable iter env x = pure x := by intro _; rfl) :
  wpAny (model prog w) A (comprehension (.ListComp elt [⟨.Name x px, iter, ifs, 0⟩] scope pos) scope env pos' (newList []) false (eval iter env) use) Q E s :=
 comp_coreL r hh f pr ok hkind (IterL.of ev hi) hfl hn hff tests elts k post hs
theorem Ev.comp {vals : List (Option PV)} (r : Rd env X h vals) (hh : A.handled = none) {elt iter : Expr} {x : Str} {px pos : Pos} {ifs : List Expr} {scope : Scope} {p : PV} {its : List PV} (li : Nat) (jm : List (Nat × Nat)) (f : PV -> PV) (pr : PV -> Bool)
  (ok : CompOk scope.names env.scope.names vals li x jm) (hkind : scope.kind = .function)
  (ev : Ev prog w A env X h iter p) (hi : Items p its) (hfl : ∀ q ∈ its, Flat q) (hn : its.length <= sizeLine) (hff : ∀ q ∈ its, pr q = true -> Flat (f q))
  (tests : ∀ q ∈ its, ∀ (en : Env) (h' : Heap), en.scope.names = relN scope.names -> en.globals = env.globals -> en.builtins = env.builtins -> HK h h' -> Rd en X h' (cvals scope.names.length li jm vals q) -> TstAll prog w A en h' ifs (pr q))
  (elts : ∀ q ∈ its, pr q = true -> ∀ (en : Env) (h' : Heap), en.scope.names = relN scope.names -> en.globals = env.globals -> en.builtins = env.builtins -> HK h h' -> Rd en X h' (cvals scope.names.length li jm vals q) -> Ev prog w A en X h' elt (f q))
  (hs : ∀ x, foldedSetIterable iter env x = pure x := by intro _; rfl) :
  Ev prog w A env X h (.ListComp elt [⟨.Name x px, iter, ifs, 0⟩] scope pos) (.list ((its.filter pr).map f)) := by
 intro s Q E k hq
 rw [eval_ListComp]
 refine comp_core r hh f pr ok hkind ev hi hfl hn hff tests elts k (fun D C s' m' g hC hDC hns rep hDX _ => ⟨m', hns, fun h' sb => ?_⟩) hs
 have kc : Kp [C] s'.heap h' := Kp.of_same sb
 obtain ⟨⟨h₁, t₁, e₁⟩, g2⟩ := g
 refine hq _ _ ⟨?_, fun b o e => kc b o ?_ (g2 b o e)⟩ (rep X hDX h' (.inr kc))
 ·subst e₁; exact ⟨h', t₁, rfl⟩
 ·simp only [List.mem_singleton]; rintro rfl; rw [hC] at e; cases e
theorem x_assignC {s : Shared} {M : List Addr} {h₀ : Heap} {vals : List (Option PV)} (F : Fm env X M h₀ s.heap vals) (hh : A.handled = none) {elt iter : Expr} {x y : Str} {px py pos spos : Pos} {ifs : List Expr} {scope : Scope} {p : PV} {its : List PV} {rest : List Stmt} {Q : Flow -> Shared -> Prop} (yi : Nat) (hy : env.scope.names[yi]? = some (y, .local)) (li : Nat) (jm : List (Nat × Nat)) (f : PV -> PV) (pr : PV -> Bool)
  (ok : CompOk scope.names env.scope.names vals li x jm) (hkind : scope.kind = .function)
  (ev : Ev prog w A env X s.heap iter p) (hi : Items p its) (hfl : ∀ q ∈ its, Flat q) (hn : its.length <= sizeLine) (hff : ∀ q ∈ its, pr q = true -> Flat (f q))
  (tests : ∀ q ∈ its, ∀ (en : Env) (h' : Heap), en.scope.names = relN scope.names -> en.globals = env.globals -> en.builtins = env.builtins -> HK s.heap h' -> Rd en X h' (cvals scope.names.length li jm vals q) -> TstAll prog w A en h' ifs (pr q))
  (elts : ∀ q ∈ its, pr q = true -> ∀ (en : Env) (h' : Heap), en.scope.names = relN scope.names -> en.globals = env.globals -> en.builtins = env.builtins -> HK s.heap h' -> Rd en X h' (cvals scope.names.length li jm vals q) -> Ev prog w A en X h' elt (f q))
  (next : ∀ s', Mv (own env) s s' -> Fm env X M h₀ s'.heap (vals.set yi (some (.list ((its.filter pr).map f)))) -> wpAny (model prog w) A (execs rest env) Q E s')
  (hsw : swapsWith (.ListComp elt [⟨.Name x px, iter, ifs, 0⟩] scope pos) (some (.Name y py)) spos.line env = pure true)
  (hM : M = [] := by rfl)
  (hs : ∀ x, foldedSetIterable iter env x = pure x := by intro _; rfl) :
  wpAny (model prog w) A (execs (.Assign [.Name y py] (.ListComp elt [⟨.Name x px, iter, ifs, 0⟩] scope pos) spos :: rest) env) Q E s := by
 subst hM
 refine wpAny_execs_cons ?_
 rw [exec_Assign_Name_used _ _ _ _ hsw]
 refine wpAny_bind (wpAny_standAt (wpAny_bind ?_))
 show wpAny _ A (do let _ <- comprehension (.ListComp elt [⟨.Name x px, iter, ifs, 0⟩] scope pos) scope env _ (newList []) false (eval iter env) (some (assign (.Name y py) env))) _ _ s
 refine wpAny_bind (wpAny_mono (comp_core (use := some (assign (.Name y py) env)) (Q := fun _ s' => wpAny (model prog w) A (execs rest env) Q E s') F.toRd hh f pr ok hkind ev hi hfl hn hff tests elts (HK.refl _) (fun D C s' m' g hC hDC hns rep hDX hD0 => ?_) hs) (fun _ s' hq => wpAny_pure (wpAny_pure hq)) fun _ _ e => e)
 have hCX : C ∉ X := F.xb.fresh hC
 have F' : Fm env (C :: X) [] h₀ s'.heap vals := F.hold g.hk hC (let ⟨o, _, _, ho, _⟩ := hns; ⟨o, ho⟩)
 refine wpAny_assign_Name (store F' yi hy (.inl rfl) (rep (C :: X) (by simpa using ⟨hDC, hDX⟩) s'.heap (.inl (HK.refl _))) fun s₂ m₂ F₂ => ?_)
 have hCo : C ∉ own env := fun z => hCX (F.ox _ z)
 refine ⟨m', hns.at' fun o ho => m₂.kp _ o hCo ho, fun h₃ sb => ?_⟩
 have kc : Kp [C] s₂.heap h₃ := Kp.of_same sb
 have h0 : h₀.get? C = none := by
  cases q : h₀.get? C with
  | none => rfl
  | some o => rw [F.keep C o (by simp) q] at hC; cases hC
 obtain ⟨⟨h₄, t₄, e₄⟩, k₄⟩ := (g.mv (own env)).trans m₂
 subst e₄
 refine next _ ⟨⟨h₃, t₄, rfl⟩, fun b o hb e => kc b o ?_ (k₄ b o hb e)⟩ (F₂.drop kc hCX F.ox h0)
 simp only [List.mem_singleton]; rintro rfl; rw [hC] at e; cases e
end
section
variable {prog : Program} {w : World} {A : Around} {E : Value -> Shared -> Prop} {s : Shared} {X M : List Addr} {env : Env} {h₀ h : Heap} {vals : List (Option PV)}
theorem Fm.fresh_own {I : Addr} (F : Fm env X M h₀ s.heap vals) (hI : s.heap.get? I = none) : I ∉ X := F.xb.fresh hI
theorem a_name (F : Fm env X M h₀ s.heap vals) (i : Nat) {x : Str} {k : NameKind} {pos : Pos} (hx : env.scope.names[i]? = some (x, k)) (hk : k = .local \/ k = .cell) {p : PV} {v : Value} (r : Rep X s.heap p v) {Q : Unit -> Shared -> Prop}
  (hq : ∀ s', Mv (own env) s s' -> Fm env X M h₀ s'.heap (vals.set i (some p)) -> Q () s') : wpAny (model prog w) A (assign (.Name x pos) env v) Q E s :=
 wpAny_assign_Name (store F i hx hk r hq)
theorem x_forF {p : PV} {its : List PV} {iter : Expr} {x : Str} {px : Pos} {kx : NameKind} {body rest : List Stmt} {pos : Pos} {Q : Flow -> Shared -> Prop} (hh : A.handled = none) (F : Fm env X M h₀ s.heap vals) (ti : Nat) (hx : env.scope.names[ti]? = some (x, kx)) (hk : kx = .local \/ kx = .cell)
  (ev : Ev prog w A env X s.heap iter p) (hi : Items p its) (vs : Nat -> List (Option PV)) (hv0 : vs 0 = vals)
  (turn : ∀ I i q s₁ E', its[i]? = some q -> Fm env (I :: X) M h₀ s₁.heap ((vs i).set ti (some q)) ->
   wpAny (model prog w) A (execs body env) (turnQ prog w A env rest Q E fun s₃ => Mv (own env) s₁ s₃ /\ Fm env (I :: X) M h₀ s₃.heap (vs (i + 1))) E' s₁)
  (fin : ∀ s₂, Mv (own env) s s₂ -> Fm env X M h₀ s₂.heap (vs its.length) -> wpAny (model prog w) A (execs rest env) Q E s₂)
  (hs : ∀ x, foldedSetIterable iter env x = pure x := by intro _; rfl) (hM : M = [] := by rfl) :
  wpAny (model prog w) A (execs (.For (.Name x px) iter body [] pos :: rest) env) Q E s := by
 subst hM
 refine x_for hh (own env) F.ox F.xb ev hi (fun I i s₁ => Fm env (I :: X) [] h₀ s₁.heap (vs i) /\ Mv (I :: own env) s s₁) ?_ ?_ ?_ ?_ hs
 ·intro I s₁ g hI hex
  exact ⟨hv0 ▸ F.hold g.hk hI hex, g.mv _⟩
 ·rintro I i s₁ s₂ hI ⟨F₁, m₁⟩ m hex
  have hIX := F.fresh_own hI
  refine ⟨F₁.other m.kp (fun a ha z => ?_) (by simp) (fun a ha => ?_) (fun a ha => ?_), m₁.trans (m.mono (by simp))⟩
  ·simp at ha; subst ha; exact hIX (F.ox _ z)
  ·simp at ha; subst ha
   right
   cases q : h₀.get? a with
   | none => rfl
   | some o => rw [F.keep a o (by simp) q] at hI; cases hI
  ·rcases List.mem_cons.mp ha with e | ha'
   ·exact e ▸ hex
   ·obtain ⟨o, ho⟩ := F₁.xb a (List.mem_cons_of_mem _ ha')
    exact ⟨o, m.kp a o (by simp; intro z; exact hIX (z ▸ ha')) ho⟩
 ·rintro I i q v s₁ E' hI hq ⟨F₁, m₁⟩ rv hex
  refine a_name F₁ ti hx hk rv fun s₂ m₂ F₂ => ?_
  refine wpAny_mono (turn I i q s₂ E' hq F₂) (fun f s₃ q₃ => ?_) fun _ _ z => z
  cases f with
  | next => exact ⟨m₂.trans q₃.1, q₃.2, (m₁.trans ((m₂.trans q₃.1).mono fun a ha => List.mem_cons_of_mem _ ha))⟩
  | cont => exact ⟨m₂.trans q₃.1, q₃.2, (m₁.trans ((m₂.trans q₃.1).mono fun a ha => List.mem_cons_of_mem _ ha))⟩
  | brk => exact q₃
  | ret v => exact q₃
 ·rintro I s₁ s₂ hI ⟨F₁, m₁⟩ m
  have hIX := F.fresh_own hI
  have h0 : h₀.get? I = none := by
   cases q : h₀.get? I with
   | none => rfl
   | some o => rw [F.keep I o (by simp) q] at hI; cases hI
  refine fin s₂ ?_ (F₁.drop m.kp hIX F.ox h0)
  have mm : Mv (I :: own env) s s₂ := m₁.trans (m.mono (by simp))
  exact ⟨mm.ex, fun b o hb e => mm.kp b o (fun z => (List.mem_cons.mp z).elim (fun z' => by rw [z', hI] at e; cases e) hb) e⟩
@[irreducible] def GM (prog : Program) (w : World) (A : Around) (v : Value) (name : Str) (pl : Sem Bool) (id : String) (s : Shared) : Prop :=
 ∀ (Q : Value × List Value -> Shared -> Prop) (E : Value -> Shared -> Prop), Q (.builtin id, [v]) s -> wpAny (model prog w) A (getMethod v name pl) Q E s
theorem GM.out {v : Value} {name : Str} {pl : Sem Bool} {id : String} (g : GM prog w A v name pl id s) : ∀ (Q : Value × List Value -> Shared -> Prop) (E : Value -> Shared -> Prop), Q (.builtin id, [v]) s -> wpAny (model prog w) A (getMethod v name pl) Q E s := by
 unfold GM at g; exact g
theorem GM.of {v : Value} {T : String} {name : Str} {id : String} {pl : Sem Bool} (hT : s.TypeIs v T) (pa : PlainAttrs T) (slot : Slot T name id) (hty : typeOf (.builtin id) = pure (.type "method_descriptor"))
  (hd : ∀ a, v = .ref a -> ∃ o, s.heap.get? a = some o /\ o.dict = none) : GM prog w A v name pl id s := by
 unfold GM; exact fun Q E h => getMethod_builtin hT pa slot hty hd h
theorem GM.str {x : Str} {t : Tok} {name : Str} {id : String} {pl : Sem Bool} (slot : Slot "str" name id) (hty : typeOf (.builtin id) = pure (.type "method_descriptor")) : GM prog w A (.str x t) name pl id s :=
 GM.of (typeIs_str s x t) F.plainAttrs_str slot hty (fun _ z => nomatch z)
theorem GM.list {a : Addr} {vs : Array Value} {n : Nat} {name : Str} {id : String} {pl : Sem Bool} (ho : s.heap.get? a = some (listObj vs n)) (slot : Slot "list" name id) (hty : typeOf (.builtin id) = pure (.type "method_descriptor")) : GM prog w A (.ref a) name pl id s :=
 GM.of (Heap.IsList.typeIs ⟨_, ho, rfl, n, rfl⟩) F.plainAttrs_list slot hty (fun _ z => by cases z; exact ⟨_, ho, rfl⟩)
theorem Ev.meth {o : Expr} {name : Str} {apos pos : Pos} {args : List Expr} {p : PV} {ps : List PV} {z : PV} {id : String} {pl : Sem Bool} (eo : Ev prog w A env X h o p) (ea : EvL prog w A env X h args ps)
  (gm : ∀ (s : Shared) (v : Value), HK h s.heap -> Rep X s.heap p v -> GM prog w A v name pl id s)
  (hc : ∀ (s : Shared) (Q : Value -> Shared -> Prop) (E : Value -> Shared -> Prop) (v : Value) (vs : List Value), HK h s.heap -> Rep X s.heap p v -> RepL X s.heap ps vs -> (∀ v s', Gw s s' -> Rep X s'.heap z v -> Q v s') -> wpAny (model prog w) A (PySem.call (.builtin id) (v :: vs) []) Q E s)
  (hp : ∀ pos, (backTo pos (starEach args env)).any (·.1) = false := by intro _; rfl)
  (he : eval (.Call (.Attribute o name apos) args [] pos) env = (do
   let ov <- eval o env
   standAt apos.atName
   let (f, first) <- holding [ov] (getMethod ov name pl)
   callWith pos f first (backTo pos (starEach args env)) []) := by rfl) :
  Ev prog w A env X h (.Call (.Attribute o name apos) args [] pos) z := by
 intro s Q E k hq
 refine MethodCall_ (eo s _ _ k fun v s₁ g r => (gm s₁ v (k.trans g.hk) r).out _ _ ?_) he
 refine callWith_plain (hp pos) trivial (evalArgs_L ea (hp pos) (k.trans g.hk) fun vs s₂ g₂ r₂ => ⟨g₂.hk, ?_⟩)
 exact hc s₂ _ _ v vs ((k.trans g.hk).trans g₂.hk) (r.hk g₂.hk) r₂ fun v' s' g₃ r₃ => hq v' s' ((g.trans g₂).trans g₃) r₃
theorem strs_are {X : List Addr} {h : Heap} : ∀ {ys : List Str} {vs : List Value}, RepL X h (ys.map .str) vs -> StrsAre vs ys
 | [], vs, r => by unfold RepL at r; dsimp only [List.map] at r; subst r; exact .nil
 | y :: ys, vs, r => by
  rw [List.map_cons] at r
  unfold RepL at r
  obtain ⟨v, r', rfl, ⟨t, rfl⟩, b⟩ := r
  exact .cons y t (strs_are b)
theorem Ev.join {o : Expr} {apos pos : Pos} {e : Expr} {x : Str} {ys : List Str} {pl : Sem Bool} (eo : Ev prog w A env X h o (.str x)) (ea : Ev prog w A env X h e (.list (ys.map .str))) (hok : (ys.map (·.length)).sum + ys.length * x.length <= 16777216)
  (hse : starEach [e] env = [(false, eval e env)] := by rfl)
  (he : eval (.Call (.Attribute o "join" apos) [e] [] pos) env = (do
   let ov <- eval o env
   standAt apos.atName
   let (f, first) <- holding [ov] (getMethod ov "join" pl)
   callWith pos f first (backTo pos (starEach [e] env)) []) := by rfl) :
  Ev prog w A env X h (.Call (.Attribute o "join" apos) [e] [] pos) (.str (Txt.join x ys)) := by
 refine Ev.meth (id := "str.join") (pl := pl) eo (EvL.cons ea EvL.nil hse) (fun s v k r => ?_) (fun s Q E v vs k r rl hq => ?_) (fun pos => by rw [hse]; rfl) he
 ·obtain ⟨t, rfl⟩ := r
  exact GM.str F.slot_str_join F.type_str_join
 ·obtain ⟨t, rfl⟩ := r
  obtain ⟨u, rfl, r1⟩ := rl.one
  unfold Rep at r1
  obtain ⟨a, n, vs, rfl, ha, ho, rl'⟩ := r1
  have hl : s.heap.IsList a vs := ⟨_, ho, rfl, n, rfl⟩
  have hst : StrsAre vs.toList ys := strs_are rl'
  refine join_list (x := x) (t := t) (D := a) (items := vs) (ys := ys) hl hst hok ?_
  intro t' k'
  exact hq _ _ (Gw.toks s _) ⟨_, rfl⟩
end
section
variable {prog : Program} {w : World} {A : Around} {E : Value -> Shared -> Prop} {s : Shared} {X M : List Addr} {env : Env} {h₀ h : Heap} {vals : List (Option PV)}
theorem Ev.cast {e : Expr} {p q : PV} (x : Ev prog w A env X h e p) (hq : p = q) : Ev prog w A env X h e q := hq ▸ x
theorem Calls.cast {f : Value} {ps qs : List PV} {p q : PV} (x : Calls prog w A X h f ps p) (hp : ps = qs) (hq : p = q) : Calls prog w A X h f qs q := hq ▸ hp ▸ x
theorem Items.rng0 {n : Int} (h0 : 0 <= n) (h1 : n < 2 ^ 62) : Items (.rng 0 n) ((List.range n.toNat).map fun (i : Nat) => PV.int i) := by
 have := Items.rng 0 n (by decide) (by decide) (by lia) h1
 have e : ((List.range (n - 0).toNat).map fun (i : Nat) => PV.int (0 + (i : Int))) = ((List.range n.toNat).map fun (i : Nat) => PV.int i) := by
  rw [Int.sub_zero]; refine List.map_congr_left fun i _ => ?_; rw [Int.zero_add]
 rwa [e] at this
theorem Items.rngN {n : Nat} (h1 : (n : Int) < 2 ^ 62) : Items (.rng 0 n) ((List.range n).map fun (i : Nat) => PV.int i) := Items.rng0 (n := n) (by lia) h1
theorem Rd.forget (i : Nat) (r : Rd env X h vals) : Rd env X h (vals.set i none) :=
 ⟨r.kind, r.nodup, fun j x k pv e1 e2 => r.rd j x k pv e1 (by
  by_cases hij : i = j
  ·subst hij; rw [List.getElem?_set_self'] at e2
   cases hv : vals[i]? with
   | none => rw [hv] at e2; simp at e2
   | some z => rw [hv] at e2; simp at e2
  ·rwa [List.getElem?_set_ne hij] at e2), r.xb⟩
theorem Fm.forget (i : Nat) (F : Fm env X M h₀ h vals) : Fm env X M h₀ h (vals.set i none) := { F with toRd := F.toRd.forget i }
theorem Mv.out {s s' : Shared} (m : Mv (own env) s s') (F : Fm env X [] s.heap s'.heap vals) : Gw s s' := ⟨m.ex, F.keep.hk⟩
noncomputable abbrev txt (cs : List Nat) : Str := ⟨cs.toArray⟩
noncomputable abbrev ones (cs : List Nat) : List Str := cs.map fun c => ⟨#[c]⟩
theorem join_ones : ∀ cs : List Nat, Txt.join "" (ones cs) = txt cs := by
 intro cs
 show Builtin.Str.glued _ _ = _
 rw [StrLaws.glued_eq_join]
 induction cs with
 | nil => rfl
 | cons c cs ih =>
  cases cs with
  | nil => rfl
  | cons d cs =>
   show (⟨#[c]⟩ : Str) ++ _ ++ Str.join _ (ones (d :: cs)) = _
   rw [ih]
   apply Str.ext'
   rw [Str.cps_append, Str.cps_append]
   show #[c] ++ #[] ++ (d :: cs).toArray = _
   simp
theorem txt_append (a b : List Nat) : txt a ++ txt b = txt (a ++ b) := by
 apply Str.ext'
 rw [Str.cps_append]; simp
theorem sum_ones {ys : List Str} (h : ∀ y ∈ ys, y.length = 1) : (ys.map (·.length)).sum = ys.length := by
 induction ys with
 | nil => rfl
 | cons y ys ih => rw [List.map_cons, List.sum_cons, ih fun z hz => h z (List.mem_cons_of_mem _ hz), h y List.mem_cons_self, List.length_cons]; lia
theorem Ev.join1 {apos pos : Pos} {k : Nat} {kp : Pos} {e : Expr} {cs : List Nat} {pl : Sem Bool} (ea : Ev prog w A env X h e (.list ((ones cs).map .str))) (hok : cs.length <= 16777216)
  (hse : starEach [e] env = [(false, eval e env)] := by rfl)
  (he : eval (.Call (.Attribute (.Constant (.str "") k kp) "join" apos) [e] [] pos) env = (do
   let ov <- eval (.Constant (.str "") k kp) env
   standAt apos.atName
   let (f, first) <- holding [ov] (getMethod ov "join" pl)
   callWith pos f first (backTo pos (starEach [e] env)) []) := by rfl) :
  Ev prog w A env X h (.Call (.Attribute (.Constant (.str "") k kp) "join" apos) [e] [] pos) (.str (txt cs)) := by
 refine (Ev.join (x := "") (ys := ones cs) (pl := pl) Ev.str ea ?_ hse he).cast (by rw [join_ones])
 rw [sum_ones (fun y hy => by obtain ⟨i, _, rfl⟩ := List.mem_map.mp hy; rfl), List.length_map]
 show cs.length + cs.length * 0 <= _
 lia
end
theorem ints_are {X : List Addr} {h : Heap} : ∀ {ns : List Int} {vs : List Value}, RepL X h (ns.map .int) vs -> IntsAre vs ns
 | [], vs, r => by unfold RepL at r; dsimp only [List.map] at r; subst r; exact .nil
 | y :: ys, vs, r => by
  rw [List.map_cons] at r
  unfold RepL at r
  obtain ⟨v, r', rfl, ⟨t, rfl⟩, b⟩ := r
  exact .cons y t (ints_are b)
theorem rep_ints {X : List Addr} {h : Heap} : ∀ {ns : List Int} {vs : List Value}, IntsAre vs ns -> RepL X h (ns.map .int) vs
 | [], _, r => by cases r; exact RepL.nil
 | y :: ys, _, r => by cases r with | cons _ t r' => exact RepL.cons ⟨t, rfl⟩ (rep_ints r')
section
variable {prog : Program} {w : World} {A : Around} {E : Value -> Shared -> Prop} {s : Shared} {X M : List Addr} {env : Env} {h₀ h : Heap} {vals : List (Option PV)}
theorem arr_list (vs : Array Value) : vs.toList.toArray = vs := by simp
theorem rep_new {xs : List PV} {vs : Array Value} {n : Nat} {a : Addr} (ha : a ∉ X) (ho : h.get? a = some (listObj vs n)) (r : RepL X h xs vs.toList) : Rep X h (.list xs) (.ref a) := by
 unfold Rep; exact ⟨a, n, vs, rfl, ha, ho, r⟩
theorem rep_newT {xs : List PV} {vs : Array Value} {n : Nat} {a : Addr} (ha : a ∉ X) (ho : h.get? a = some (tupObj vs n)) (r : RepL X h xs vs.toList) : Rep X h (.tuple xs) (.ref a) := by
 unfold Rep; exact ⟨a, n, vs, rfl, ha, ho, r⟩
theorem Ev.catL {l r : Expr} {pos : Pos} {xs ys : List PV} (xb : XB h X) (x : Ev prog w A env X h l (.list xs)) (y : Ev prog w A env X h r (.list ys)) (hsz : xs.length + ys.length <= sizeLine) : Ev prog w A env X h (.BinOp l .Add r pos) (.list (xs ++ ys)) :=
 Ev.bin x y fun s Q E a b k ra rb hq => by
  unfold Rep at ra rb
  obtain ⟨a, n, vs, rfl, ha, ho, rl⟩ := ra
  obtain ⟨b, n2, ws, rfl, hb, ho2, rl2⟩ := rb
  have h1 : vs.size = xs.length := by simpa using rl.length
  have h2 : ws.size = ys.length := by simpa using rl2.length
  refine concat_meets ⟨_, ho, rfl⟩ ⟨_, ho2, rfl⟩ noFill_list_add seq_list_add PySem.F.slot_list_add PySem.F.entry_list_add (PySem.F.args_list_add_2 _ _) (list_addW a b vs ws n n2 none none #[] #[] (by rw [h1, h2]; exact hsz)) ⟨ho, ho2, ?_⟩
  refine hq _ _ (Gw.push s _) (rep_new ((xb.hk k).fresh (fresh_size _)) (Heap.get?_push_size _ rfl) ?_)
  rw [Array.toList_append]
  exact (rl.append rl2).hk (Gw.push s _).hk
def EvP (prog : Program) (w : World) (A : Around) (env : Env) (h : Heap) (e : Option Expr) (p : Option Int) : Prop :=
 ∀ (s : Shared) (Q : Value -> Shared -> Prop) (E : Value -> Shared -> Prop), HK h s.heap -> (∀ v s', Gw s s' -> IsPart v p -> Q v s') -> wpAny (model prog w) A (evalPart e env) Q E s
theorem EvP.none : EvP prog w A env h none none := fun s _ _ _ hq => wpAny_pure (hq _ _ (Gw.refl s) .none)
theorem EvP.some {e : Expr} {i : Int} (x : Ev prog w A env X h e (.int i)) : EvP prog w A env h (some e) (some i) := fun s Q E k hq => x s Q E k fun v s' g ⟨t, e⟩ => hq v s' g (e ▸ .int i t)
theorem Ev.sliceL {value : Expr} {lower upper : Option Expr} {p pos : Pos} {xs ys : List PV} {lo hi : Option Int} (xb : XB h X) (x : Ev prog w A env X h value (.list xs)) (l : EvP prog w A env h lower lo) (u : EvP prog w A env h upper hi)
  (hsz : xs.length <= sizeLine) (hp : ∀ (X : List Addr) (h : Heap) (vs : Array Value), RepL X h xs vs.toList -> RepL X h ys (slicePick vs lo hi none).toList)
  (hl : ∀ o r, letTemporaryGo value o r = pure () := by intro _ _; rfl) :
  Ev prog w A env X h (.Subscript value (.Slice lower upper none p) pos) (.list ys) := by
 intro s Q E k hq
 refine wpAny_Subscript_list_slice (x s _ _ k fun o s₁ g₁ r₁ => l s₁ _ _ (k.trans g₁.hk) fun vl s₂ g₂ p₂ => u s₂ _ _ ((k.trans g₁.hk).trans g₂.hk) fun vu s₃ g₃ p₃ => ?_) hl
 have r₃ := (r₁.hk g₂.hk).hk g₃.hk
 unfold Rep at r₃
 obtain ⟨a, n, vs, rfl, ha, ho, rl⟩ := r₃
 have h1 : vs.size = xs.length := by simpa using rl.length
 refine ⟨a, vs, lo, hi, rfl, ⟨_, ho, rfl, n, rfl⟩, h1 ▸ hsz, p₂, p₃, ?_⟩
 have k3 := ((k.trans g₁.hk).trans g₂.hk).trans g₃.hk
 refine hq _ _ (((g₁.trans g₂).trans g₃).trans ⟨⟨_, s₃.toks, rfl⟩, fun b o e => Heap.get?_push_of_some _ (Heap.get?_push_of_some _ e)⟩) (rep_new ((xb.hk k3).fresh ?_) (by rw [<- Heap.size_push]; exact Heap.get?_push_size _ rfl) ?_)
 ·cases q : s₃.heap.get? (s₃.heap.objs.size + 1) with
  | none => rfl
  | some o => exact absurd (Heap.lt_size q) (Nat.not_lt.mpr (Nat.le_succ _))
 ·exact hp X _ vs (rl.hk fun b o e => Heap.get?_push_of_some _ (Heap.get?_push_of_some _ e))
theorem slice_run {xs : List PV} {a b : Nat} (hb : b <= xs.length) (hab : a <= b) : ∀ (X : List Addr) (h : Heap) (vs : Array Value), RepL X h xs vs.toList -> RepL X h ((xs.drop a).take (b - a)) (slicePick vs (some a) (some b) none).toList := fun X h vs r => by
 have h1 : vs.size = xs.length := by simpa using r.length
 rw [slicePick_run vs a b (by lia) hab]
 exact (r.drop a).take _
theorem slice_from {xs : List PV} {a : Nat} : ∀ (X : List Addr) (h : Heap) (vs : Array Value), RepL X h xs vs.toList -> RepL X h (xs.drop a) (slicePick vs (some a) none none).toList := fun X h vs r => by
 rw [slicePick_from' vs a]
 exact r.drop a
theorem slice_upto {xs : List PV} {b : Nat} : ∀ (X : List Addr) (h : Heap) (vs : Array Value), RepL X h xs vs.toList -> RepL X h (xs.take b) (slicePick vs none (some b) none).toList := fun X h vs r => by
 rw [slicePick_upto' vs b]
 exact r.take b
theorem Ev.tup {es : List Expr} {ps : List PV} {k : Nat} {pos : Pos} (xb : XB h X) (x : EvL prog w A env X h es ps) (hsz : ps.length <= sizeLine := by decide) : Ev prog w A env X h (.Tuple es k pos) (.tuple ps) := by
 intro s Q E k hq
 refine Tuple_ (x pos s _ _ k fun vs s₁ g r => wpAny_newTuple (hq _ _ (g.trans (Gw.push s₁ _)) (rep_newT (((xb.hk k).hk g.hk).fresh (fresh_size _)) (Heap.get?_push_size _ rfl) ?_)) (r.length ▸ hsz))
 exact r.hk (Gw.push s₁ _).hk
theorem Ev.lst {es : List Expr} {ps : List PV} {pos : Pos} (xb : XB h X) (x : EvL prog w A env X h es ps) (hsz : ps.length <= sizeLine := by decide) : Ev prog w A env X h (.List es pos) (.list ps) := by
 intro s Q E k hq
 refine List_ (x pos s _ _ k fun vs s₁ g r => wpAny_newList (hq _ _ (g.trans (Gw.push s₁ _)) (rep_new (((xb.hk k).hk g.hk).fresh (fresh_size _)) (Heap.get?_push_size _ rfl) ?_)) (r.length ▸ hsz))
 exact r.hk (Gw.push s₁ _).hk
theorem c_max2 (hh : A.handled = none) {a b : Int} : Calls prog w A X h (.builtin "max") [.int a, .int b] (.int (if b > a then b else a)) := by
 intro s Q E vs k r hq
 obtain ⟨v, u, rfl, ⟨t, rfl⟩, ⟨t', rfl⟩⟩ := r.two
 refine max_two_ints hh fun h' tk hk => ?_
 refine hq _ _ (Gw.heap hk tk) ?_
 unfold Rep
 by_cases c : b > a
 ·rw [if_pos c]; exact ⟨_, by rw [if_pos c]⟩
 ·rw [if_neg c]; exact ⟨_, by rw [if_neg c]⟩
theorem c_list_seq (xb : XB h X) {p : PV} {xs : List PV} (hp : p = .list xs \/ p = .tuple xs) (hsz : xs.length <= sizeLine) : Calls prog w A X h (.type "list") [p] (.list xs) := by
 intro s Q E vs k r hq
 obtain ⟨v, rfl, r1⟩ := r.one
 rcases hp with rfl | rfl <;> unfold Rep at r1 <;> obtain ⟨a, n, vs, rfl, ha, ho, rl⟩ := r1
 all_goals
  have h1 : vs.size = xs.length := by simpa using rl.length
 ·refine call_list_seq (T := "list") a (.inl rfl) ho rfl rfl (fun h' c' hk he => ?_) (h1 ▸ hsz)
  exact hq _ _ (Gw.heap' hk) (rep_new ((xb.hk k).fresh (fresh_size _)) he (rl.hk hk))
 ·refine call_list_seq (T := "tuple") a (.inr rfl) ho rfl rfl (fun h' c' hk he => ?_) (h1 ▸ hsz)
  exact hq _ _ (Gw.heap' hk) (rep_new ((xb.hk k).fresh (fresh_size _)) he (rl.hk hk))
theorem rng_small {a b : Int} (ha : -(2 ^ 62) <= a) (ha' : a < 2 ^ 62) (hb : -(2 ^ 62) <= b) (hb' : b < 2 ^ 62) : Builtin.Range.small a b 1 = true := by
 have hsz : Builtin.Range.rangeSize a b 1 = ((b - a).toNat : Int) := by
  unfold Builtin.Range.rangeSize
  rw [if_pos (by decide)]
  split
  ·rw [Int.ediv_one]; lia
  ·lia
 have hfit : ∀ x : Int, -(2 ^ 63) <= x -> x < 2 ^ 63 -> Builtin.Range.rangeFitsLong x = true := fun x h1 h2 => by
  unfold Builtin.Range.rangeFitsLong
  rw [Bool.and_eq_true]
  exact ⟨decide_eq_true h1, decide_eq_true h2⟩
 unfold Builtin.Range.small
 rw [hsz, hfit a (by lia) (by lia), hfit b (by lia) (by lia), hfit 1 (by decide) (by decide), hfit ((b - a).toNat : Int) (by lia) (by lia), if_pos (by decide), hfit (b + (1 - 1)) (by lia) (by lia)]
 simp
theorem c_list_rng (xb : XB h X) (hh : A.handled = none) {a : Int} {n : Nat} (hn : n <= 2 ^ 24) (ha : 0 <= a) (ha' : a < 2 ^ 60) : Calls prog w A X h (.type "list") [.rng a (a + n)] (.list ((List.range n).map fun (i : Nat) => .int (a + i))) := by
 intro s Q E vs k r hq
 obtain ⟨v, rfl, r1⟩ := r.one
 unfold Rep at r1
 obtain ⟨r, t, u, z, rfl, hr, hR⟩ := r1
 refine call_list_range (n := n) hh hR ?_ ?_ hn fun h' tk acc' c' hk he hi => ?_
 ·exact rng_small (by lia) (by lia) (by lia) (by lia)
 ·unfold Builtin.Range.rangeSize
  rw [if_pos (by decide)]
  by_cases c : a < a + n
  ·rw [if_pos c, Int.ediv_one]; lia
  ·rw [if_neg c]; lia
 ·refine hq _ _ (Gw.heap hk tk) (rep_new ((xb.hk k).fresh (fresh_size _)) he ?_)
  have key : ∀ (m : Nat) (l : List Value) (f : Nat -> Int), l.length = m -> (∀ (j : Nat) (v : Value), l[j]? = some v -> ∃ t, v = Value.int (f j) t) -> IntsAre l ((List.range m).map f) := by
   intro m
   induction m with
   | zero => intro l f hl _; cases l with | nil => exact .nil | cons _ _ => simp at hl
   | succ m ih =>
    intro l f hl hj
    cases l with
    | nil => simp at hl
    | cons v l =>
     obtain ⟨t, rfl⟩ := hj 0 v rfl
     rw [List.range_succ_eq_map, List.map_cons, List.map_map]
     exact .cons _ t (ih l (f ∘ Nat.succ) (by simpa using hl) fun j v hv => hj (j + 1) v (by simpa using hv))
  have e1 := rep_ints (X := X) (h := h') (key n acc'.toList (fun i => a + i) (by simpa using hi.1) fun j v hj => by
   have := hi.2 j v (by simpa using hj)
   simpa using this)
  rw [List.map_map] at e1
  exact e1
end
def Ls (X : List Addr) (h : Heap) (a : Addr) (ps : List PV) : Prop := ∃ vs n, h.get? a = some (listObj vs n) /\ RepL X h ps vs.toList
def Lw (X : List Addr) (h : Heap) (a : Addr) (ps : List PV) : Prop := ∃ vs, h.IsList a vs /\ RepL X h ps vs.toList
section
variable {prog : Program} {w : World} {A : Around} {E : Value -> Shared -> Prop} {s : Shared} {X M : List Addr} {env : Env} {h₀ h h' : Heap} {vals : List (Option PV)} {a : Addr} {ps : List PV}
theorem Ls.lw (x : Ls X h a ps) : Lw X h a ps := let ⟨vs, n, e, r⟩ := x; ⟨vs, ⟨_, e, rfl, n, rfl⟩, r⟩
theorem Ls.kp {N : List Addr} (x : Ls X h a ps) (k : Kp N h h') (hN : ∀ b ∈ N, b ∈ X) (ha : a ∉ N) : Ls X h' a ps :=
 let ⟨vs, n, e, r⟩ := x; ⟨vs, n, k a _ ha e, RepL.kp (k.mono hN) r⟩
theorem Lw.kp {N : List Addr} (x : Lw X h a ps) (k : Kp N h h') (hN : ∀ b ∈ N, b ∈ X) (ha : a ∉ N) : Lw X h' a ps :=
 let ⟨vs, ⟨o, e, q⟩, r⟩ := x; ⟨vs, ⟨o, k a _ ha e, q⟩, RepL.kp (k.mono hN) r⟩
theorem Ls.hk (x : Ls X h a ps) (k : HK h h') : Ls X h' a ps := let ⟨vs, n, e, r⟩ := x; ⟨vs, n, k a _ e, r.hk k⟩
theorem Lw.hk (x : Lw X h a ps) (k : HK h h') : Lw X h' a ps := let ⟨vs, ⟨o, e, q⟩, r⟩ := x; ⟨vs, ⟨o, k a _ e, q⟩, r.hk k⟩
theorem Ls.rep {Y : List Addr} (x : Ls X h a ps) (hY : ∀ b ∈ Y, b ∈ X) (ha : a ∉ Y) : Rep Y h (.list ps) (.ref a) := let ⟨_, _, e, r⟩ := x; rep_new ha e (r.less hY)
theorem Ev.itemW {value slice : Expr} {pos : Pos} {i : Int} {z : PV} (l : Lw X h a ps) (x : Ev prog w A env X h value (.obj (.ref a))) (y : Ev prog w A env X h slice (.int i)) (h0 : 0 <= i) (h1 : i < 2 ^ 63) (hz : ps[i.toNat]? = some z)
  (hs : ∀ o i, subscripted slice false o i = operate [o, i] (getItem o i) := by intro _ _; rfl) : Ev prog w A env X h (.Subscript value slice pos) z :=
 Ev.sub' x y fun s Q E u b k ra rb hq => by
  obtain rfl : u = .ref a := ra
  obtain ⟨t, rfl⟩ := rb
  obtain ⟨vs, hL, rl⟩ := l.hk k
  obtain ⟨v, hv, rv⟩ := rl.get hz
  exact tail_any hL.typeIs slot_list_getitem.lookup (wpAny_getItem_list hL h0 h1 (by simpa using hv) (hq _ _ (Gw.refl s) rv)) (hs _ _)
theorem x_newlist (F : Fm env X M h₀ s.heap vals) (i : Nat) {x : Str} {k : NameKind} (hx : env.scope.names[i]? = some (x, k)) (hk : k = .local \/ k = .cell) {es : List Expr} {pl pos' pos : Pos} {rest : List Stmt} {Q : Flow -> Shared -> Prop} (hM : M = [])
  (e : EvL prog w A env X s.heap es ps) (hsz : ps.length <= sizeLine)
  (next : ∀ a s', a ∉ X -> s.heap.get? a = none -> h₀.get? a = none -> Mv (own env) s s' -> Fm env (a :: X) M h₀ s'.heap (vals.set i (some (.obj (.ref a)))) -> Ls (a :: X) s'.heap a ps -> wpAny (model prog w) A (execs rest env) Q E s')
  (hs : swapsWith (.List es pl) (some (.Name x pos')) pos.line env = pure false := by rfl) :
  wpAny (model prog w) A (execs (.Assign [.Name x pos'] (.List es pl) pos :: rest) env) Q E s := by
 subst hM
 refine wpAny_execs_cons (wpAny_Assign_Name (List_ (e pl s _ _ (HK.refl _) fun vs s₁ g r => wpAny_newList ?_ (r.length ▸ hsz))) hs)
 have hfr : s₁.heap.get? s₁.heap.objs.size = none := fresh_size _
 have hfs : s.heap.get? s₁.heap.objs.size = none := by
  cases q : s.heap.get? s₁.heap.objs.size with
  | none => rfl
  | some o => rw [g.hk _ _ q] at hfr; cases hfr
 have h0 : h₀.get? s₁.heap.objs.size = none := by
  cases q : h₀.get? s₁.heap.objs.size with
  | none => rfl
  | some o => rw [F.keep _ o (by simp) q] at hfs; cases hfs
 have F₁ := (F.hk g.hk).hold (Gw.push s₁ (listObj vs.toArray 0)).hk hfr ⟨_, Heap.get?_push_size _ rfl⟩
 have hao : s₁.heap.objs.size ∉ own env := fun z => F.xb.fresh hfs (F.ox _ z)
 refine store F₁ i hx hk (p := .obj (.ref s₁.heap.objs.size)) rfl fun s' m F' => next _ s' (F.xb.fresh hfs) hfs h0 (((g.trans (Gw.push s₁ _)).mv _).trans m) F' ?_
 have hr : RepL (s₁.heap.objs.size :: X) s₁.heap ps vs := RepL.more (fun b hb => (List.mem_cons.mp hb).elim (fun e => .inr (e ▸ hfr)) .inl) r
 exact ⟨vs.toArray, 0, m.kp _ _ hao (Heap.get?_push_size _ rfl), by
  have := RepL.kp (m.kp.mono F₁.ox) (hr.hk (Gw.push s₁ (listObj vs.toArray 0)).hk)
  simpa using this⟩
theorem Fm.turn {h' : Heap} (F : Fm env X M h₀ h vals) (q : Heap.SameBut a h h') (ha : a ∈ X) (hao : a ∉ own env) (hM : a ∈ M \/ h₀.get? a = none) (hex : ∃ o, h'.get? a = some o) : Fm env X M h₀ h' vals :=
 F.other (Kp.of_same q) (by simpa using hao) (by simpa using ha) (by simpa using hM) fun b hb => by
  by_cases e : b = a
  ·exact e ▸ hex
  ·obtain ⟨o, ho⟩ := F.xb b hb; exact ⟨o, Kp.of_same q b o (by simpa using e) ho⟩
theorem x_append (F : Fm env X M h₀ s.heap vals) (l : Ls X s.heap a ps) (ha : a ∈ X) (hao : a ∉ own env) (hM : a ∈ M \/ h₀.get? a = none) (hsz : ps.length <= sizeLine) {o e : Expr} {p : PV} {apos pos epos : Pos} {rest : List Stmt} {Q : Flow -> Shared -> Prop} {pl : Sem Bool}
  (x : Ev prog w A env X s.heap o (.obj (.ref a))) (y : Ev prog w A env X s.heap e p)
  (next : ∀ s', Mv [a] s s' -> Fm env X M h₀ s'.heap vals -> Ls X s'.heap a (ps ++ [p]) -> wpAny (model prog w) A (execs rest env) Q E s')
  (hse : starEach [e] env = [(false, eval e env)] := by rfl)
  (he : eval (.Call (.Attribute o "append" apos) [e] [] pos) env = (do
   let ov <- eval o env
   standAt apos.atName
   let (f, first) <- holding [ov] (getMethod ov "append" pl)
   callWith pos f first (backTo pos (starEach [e] env)) []) := by rfl)
  (hi : interactive env = false := by rfl) (hs : swapsWith (.Call (.Attribute o "append" apos) [e] [] pos) none epos.line env = pure false := by rfl) :
  wpAny (model prog w) A (execs (.Expr (.Call (.Attribute o "append" apos) [e] [] pos) epos :: rest) env) Q E s := by
 refine wpAny_execs_cons (wpAny_Expr_any (MethodCall_ (x s _ _ (HK.refl _) fun v s₁ g r => ?_) he) hi hs)
 obtain rfl : v = .ref a := r
 obtain ⟨vs, n, ho, rl⟩ := l
 refine (GM.list (g.hk _ _ ho) PySem.F.slot_list_append PySem.F.type_list_append).out _ _ ?_
 have hp : (backTo pos (starEach [e] env)).any (·.1) = false := by rw [hse]; rfl
 refine callWith_plain hp trivial (evalArgs_L (EvL.cons y EvL.nil hse) hp g.hk fun us s₂ g₂ r₂ => ⟨g₂.hk, ?_⟩)
 obtain ⟨u, rfl, ru⟩ := r₂.one
 have k2 := g.hk.trans g₂.hk
 have hl : vs.size = ps.length := by simpa using rl.length
 refine append_at (k2 _ _ ho) (fun h' sb hd => ?_) (hl ▸ hsz)
 have ks : Kp [a] s₂.heap h' := Kp.of_same sb
 refine next _ ⟨?_, fun b ob hb e => ks b ob hb (k2 b ob e)⟩ ((F.hk k2).turn sb ha hao hM ⟨_, hd⟩) ⟨_, _, hd, ?_⟩
 ·obtain ⟨⟨h1, t1, e1⟩, _⟩ := g.trans g₂; subst e1; exact ⟨h', t1, rfl⟩
 ·have kX : Kp X s₂.heap h' := ks.mono (by simpa using ha)
  have := ((rl.hk k2).append (RepL.cons ru RepL.nil))
  simpa using RepL.kp kX this
theorem x_setL (F : Fm env X M h₀ s.heap vals) (l : Lw X s.heap a ps) (ha : a ∈ X) (hao : a ∉ own env) (hM : a ∈ M \/ h₀.get? a = none) {o ie e : Expr} {i : Int} {p : PV} {tpos pos : Pos} {rest : List Stmt} {Q : Flow -> Shared -> Prop}
  (x : Ev prog w A env X s.heap o (.obj (.ref a))) (yi : Ev prog w A env X s.heap ie (.int i)) (y : Ev prog w A env X s.heap e p) (h0 : 0 <= i) (h1 : i < 2 ^ 63) (h2 : i < ps.length)
  (next : ∀ s', Mv [a] s s' -> Fm env X M h₀ s'.heap vals -> Lw X s'.heap a (ps.set i.toNat p) -> wpAny (model prog w) A (execs rest env) Q E s')
  (hs : swapsWith e (some (.Subscript o ie tpos)) pos.line env = pure false := by rfl) :
  wpAny (model prog w) A (execs (.Assign [.Subscript o ie tpos] e pos :: rest) env) Q E s := by
 refine wpAny_execs_cons (wpAny_Assign_Subscript (y s _ _ (HK.refl _) fun v s₁ g r => x s₁ _ _ g.hk fun ov s₂ g₂ r₂ => yi s₂ _ _ (g.hk.trans g₂.hk) fun iv s₃ g₃ r₃ => ?_) hs)
 obtain rfl : ov = .ref a := r₂
 obtain ⟨t, rfl⟩ := r₃
 have k3 := (g.hk.trans g₂.hk).trans g₃.hk
 obtain ⟨vs, hL, rl⟩ := l.hk k3
 have hl : vs.size = ps.length := by simpa using rl.length
 refine wpAny_setItem_list hL h0 h1 (by lia) fun h' hL' sb => ?_
 have ks : Kp [a] s₃.heap h' := Kp.of_same sb
 have kX : Kp X s₃.heap h' := ks.mono (by simpa using ha)
 refine next _ ⟨?_, fun b ob hb e => ks b ob hb (k3 b ob e)⟩ ((F.hk k3).turn sb ha hao hM (let ⟨o, e, _⟩ := hL'; ⟨o, e⟩)) ⟨_, hL', ?_⟩
 ·obtain ⟨⟨h4, t4, e4⟩, _⟩ := (g.trans g₂).trans g₃; subst e4; exact ⟨h', t4, rfl⟩
 ·rw [Array.toList_setIfInBounds]
  exact RepL.kp kX (rl.set ((r.hk g₂.hk).hk g₃.hk))
end
section
variable {prog : Program} {w : World} {A : Around} {E : Value -> Shared -> Prop} {s : Shared} {X M : List Addr} {env : Env} {h₀ h h' : Heap} {vals : List (Option PV)} {a : Addr} {ps : List PV}
theorem x_forR {p : PV} {its : List PV} {iter : Expr} {x : Str} {px : Pos} {kx : NameKind} {body rest : List Stmt} {pos : Pos} {Q : Flow -> Shared -> Prop} (hh : A.handled = none) (F : Fm env X M h₀ s.heap vals) (ti : Nat) (hx : env.scope.names[ti]? = some (x, kx)) (hk : kx = .local \/ kx = .cell)
  (N : List Addr) (hN : ∀ b ∈ N, b ∈ X) (hMs : ∀ b ∈ M, ∃ o, s.heap.get? b = some o) (R : Addr -> Nat -> Heap -> Prop)
  (ev : Ev prog w A env X s.heap iter p) (hi : Items p its) (vs : Nat -> List (Option PV)) (hv0 : vs 0 = vals)
  (hR0 : ∀ I h, HK s.heap h -> s.heap.get? I = none -> R I 0 h)
  (hRk : ∀ I i h h', s.heap.get? I = none -> Kp (I :: own env) h h' -> R I i h -> R I i h')
  (turn : ∀ I i q s₁ E', s.heap.get? I = none -> its[i]? = some q -> Fm env (I :: X) M h₀ s₁.heap ((vs i).set ti (some q)) -> R I i s₁.heap ->
   wpAny (model prog w) A (execs body env) (turnQ prog w A env rest Q E fun s₃ => Mv (own env ++ N) s₁ s₃ /\ Fm env (I :: X) M h₀ s₃.heap (vs (i + 1)) /\ R I (i + 1) s₃.heap) E' s₁)
  (fin : ∀ I s₂, s.heap.get? I = none -> Mv (own env ++ N) s s₂ -> Fm env X M h₀ s₂.heap (vs its.length) -> R I its.length s₂.heap -> wpAny (model prog w) A (execs rest env) Q E s₂)
  (hs : ∀ x, foldedSetIterable iter env x = pure x := by intro _; rfl) :
  wpAny (model prog w) A (execs (.For (.Name x px) iter body [] pos :: rest) env) Q E s := by
 have hMI : ∀ I, s.heap.get? I = none -> I ∉ M := fun I hI z => by obtain ⟨o, ho⟩ := hMs I z; rw [hI] at ho; cases ho
 have h0I : ∀ I, s.heap.get? I = none -> h₀.get? I = none := fun I hI => by
  cases q : h₀.get? I with
  | none => rfl
  | some o => rw [F.keep I o (hMI I hI) q] at hI; cases hI
 refine x_for hh (own env ++ N) (fun b hb => (List.mem_append.mp hb).elim (F.ox b) (hN b)) F.xb ev hi (fun I i s₁ => Fm env (I :: X) M h₀ s₁.heap (vs i) /\ Mv (I :: (own env ++ N)) s s₁ /\ R I i s₁.heap) ?_ ?_ ?_ ?_ hs
 ·intro I s₁ g hI hex
  exact ⟨hv0 ▸ F.hold g.hk hI hex, g.mv _, hR0 I _ g.hk hI⟩
 ·rintro I i s₁ s₂ hI ⟨F₁, m₁, r₁⟩ m hex
  have hIX := F.fresh_own hI
  refine ⟨F₁.other m.kp (fun a ha z => ?_) (by simp) (fun a ha => ?_) (fun a ha => ?_), m₁.trans (m.mono (by simp)), hRk I i _ _ hI (m.kp.mono (by simp)) r₁⟩
  ·simp at ha; subst ha; exact hIX (F.ox _ z)
  ·simp at ha; subst ha
   exact .inr (h0I a hI)
  ·rcases List.mem_cons.mp ha with e | ha'
   ·exact e ▸ hex
   ·obtain ⟨o, ho⟩ := F₁.xb a (List.mem_cons_of_mem _ ha')
    exact ⟨o, m.kp a o (by simp; intro z; exact hIX (z ▸ ha')) ho⟩
 ·rintro I i q v s₁ E' hI hq ⟨F₁, m₁, r₁⟩ rv hex
  refine a_name F₁ ti hx hk rv fun s₂ m₂ F₂ => ?_
  refine wpAny_mono (turn I i q s₂ E' hI hq F₂ (hRk I i _ _ hI (m₂.kp.mono (by simp; exact fun _ h => .inr h)) r₁)) (fun f s₃ q₃ => ?_) fun _ _ z => z
  have m₂' : Mv (own env ++ N) s₁ s₂ := m₂.mono fun a ha => List.mem_append_left _ ha
  cases f with
  | next => exact ⟨m₂'.trans q₃.1, q₃.2.1, (m₁.trans ((m₂'.trans q₃.1).mono fun a ha => List.mem_cons_of_mem _ ha)), q₃.2.2⟩
  | cont => exact ⟨m₂'.trans q₃.1, q₃.2.1, (m₁.trans ((m₂'.trans q₃.1).mono fun a ha => List.mem_cons_of_mem _ ha)), q₃.2.2⟩
  | brk => exact q₃
  | ret v => exact q₃
 ·rintro I s₁ s₂ hI ⟨F₁, m₁, r₁⟩ m
  have hIX := F.fresh_own hI
  refine fin I s₂ hI ?_ (F₁.drop m.kp hIX F.ox (h0I I hI)) (hRk I _ _ _ hI (m.kp.mono (by simp)) r₁)
  have mm : Mv (I :: (own env ++ N)) s s₂ := m₁.trans (m.mono (by simp))
  exact ⟨mm.ex, fun b o hb e => mm.kp b o (fun z => (List.mem_cons.mp z).elim (fun z' => by rw [z', hI] at e; cases e) hb) e⟩
end
noncomputable abbrev pw : Program := PySem.Challenge.pw_op0165_01
noncomputable def topS (p : Program) (i : Nat) : Stmt := p.main.body.getD i (.Pass ⟨0, 0, 0, 0⟩)
noncomputable def inS (st : Stmt) (i : Nat) : Stmt := match st with
 | .ClassDef _ _ _ b _ _ _ _ _ _ _ => b.getD i (.Pass ⟨0, 0, 0, 0⟩)
 | _ => .Pass ⟨0, 0, 0, 0⟩
noncomputable def fdOf (st : Stmt) (qual : Str) (cd : Addr) (mod dflt kwd : Value) : FuncData := match st with
 | .FunctionDef n a b _ _ _ sc _ _ _ => { name := n, qualname := qual ++ n, params := a, body := .stmts b, scope := sc, globals := 3, closure := [], defaults := dflt, kwdefaults := kwd, doc := .none, pyModule := mod, code := .ref cd, builtins := 0 }
 | _ => default
noncomputable def bodyOf (st : Stmt) : List Stmt := match st with
 | .FunctionDef _ _ b _ _ _ _ _ _ _ => b
 | _ => []
noncomputable abbrev mLaw : Value := .str "law_op0165_01" 2125
noncomputable abbrev mQ : Value := .str "cpy313.email.quoprimime" 1362
noncomputable abbrev mB : Value := .str "binascii" 1898
noncomputable abbrev m64 : Value := .str "cpy313.base64" 1932
noncomputable abbrev mG : Value := .str "cpy313.graphlib" 1943
noncomputable def fd_unquote (p : Program) : FuncData := fdOf (topS p 14) Str.empty 65 mQ .none .none
noncomputable def fd_quote (p : Program) : FuncData := fdOf (topS p 15) Str.empty 72 mQ .none .none
noncomputable def fd_unquote_match (p : Program) : FuncData := fdOf (topS p 19) Str.empty 84 mQ .none .none
noncomputable def fd_header_decode (p : Program) : FuncData := fdOf (topS p 20) Str.empty 91 mQ .none .none
noncomputable def fd_buffer (p : Program) : FuncData := fdOf (topS p 22) Str.empty 98 mB .none .none
noncomputable def fd_truth (p : Program) : FuncData := fdOf (topS p 23) Str.empty 105 mB .none .none
noncomputable def fd_b2a (p : Program) : FuncData := fdOf (topS p 25) Str.empty 113 mB .none (.ref 107)
noncomputable def fd_b64encode (p : Program) : FuncData := fdOf (topS p 27) Str.empty 121 m64 (.ref 115) .none
noncomputable def fd_ni_init (p : Program) : FuncData := fdOf (inS (topS p 31) 1) "_NodeInfo." 136 mG .none .none
noncomputable def fd_ts_init (p : Program) : FuncData := fdOf (inS (topS p 33) 0) "TopologicalSorter." 173 mG (.ref 167) .none
noncomputable def fd_get_nodeinfo (p : Program) : FuncData := fdOf (inS (topS p 33) 1) "TopologicalSorter." 180 mG .none .none
noncomputable def fd_add (p : Program) : FuncData := fdOf (inS (topS p 33) 2) "TopologicalSorter." 187 mG .none .none
noncomputable def fd_prepare (p : Program) : FuncData := fdOf (inS (topS p 33) 3) "TopologicalSorter." 192 mG .none .none
noncomputable def fd_get_ready (p : Program) : FuncData := fdOf (inS (topS p 33) 4) "TopologicalSorter." 199 mG .none .none
noncomputable def fd_is_active (p : Program) : FuncData := fdOf (inS (topS p 33) 5) "TopologicalSorter." 206 mG .none .none
noncomputable def fd_done (p : Program) : FuncData := fdOf (inS (topS p 33) 7) "TopologicalSorter." 220 mG .none .none
noncomputable def fd_find_cycle (p : Program) : FuncData := fdOf (inS (topS p 33) 8) "TopologicalSorter." 227 mG .none .none
noncomputable def fd_drawn (p : Program) : FuncData := fdOf (topS p 35) Str.empty 246 mLaw .none .none
noncomputable def fd_by_hand (p : Program) : FuncData := fdOf (topS p 36) Str.empty 251 mLaw .none .none
noncomputable def fd_plan (p : Program) : FuncData := fdOf (topS p 37) Str.empty 256 mLaw .none .none
noncomputable def fd_needs (p : Program) : FuncData := fdOf (topS p 38) Str.empty 261 mLaw .none .none
noncomputable def fd_encoded (p : Program) : FuncData := fdOf (topS p 39) Str.empty 266 mLaw .none .none
noncomputable def fd_read (p : Program) : FuncData := fdOf (topS p 40) Str.empty 271 mLaw .none .none
noncomputable def fd_put (p : Program) : FuncData := fdOf (topS p 41) Str.empty 276 mLaw .none .none
noncomputable def fd_run (p : Program) : FuncData := fdOf (topS p 42) Str.empty 281 mLaw .none .none
noncomputable def fd_tab (p : Program) : FuncData := fdOf (topS p 43) Str.empty 286 mLaw .none .none
noncomputable def fd_law (p : Program) : FuncData := fdOf (topS p 44) Str.empty 293 mLaw .none .none
def FnAt (h : Heap) (a : Addr) (fd : FuncData) : Prop := h.get? a = some (fnObj fd) /\ h.CodeRec fd.code fd.qualname
theorem FnAt.hk {h h' : Heap} {a : Addr} {fd : FuncData} (x : FnAt h a fd) (k : HK h h') : FnAt h' a fd := ⟨k _ _ x.1, x.2.keeps k⟩
noncomputable def hexd (n : Nat) : Nat := if n < 10 then 48 + n else 55 + n
noncomputable def qText (o : Nat) : List Nat := [61, hexd (o / 16), hexd (o % 16)]
noncomputable def qArr : Array Value := ((List.range 256).map fun i => Value.str (txt (qText i)) (330 + 4 * i)).toArray
noncomputable def b64s : List Nat := [65,66,67,68,69,70,71,72,73,74,75,76,77,78,79,80,81,82,83,84,85,86,87,88,89,90,97,98,99,100,101,102,103,104,105,106,107,108,109,110,111,112,113,114,115,116,117,118,119,120,121,122,48,49,50,51,52,53,54,55,56,57,43,47]
noncomputable def b64Arr : Array UInt8 := (b64s.map fun n => n.toUInt8).toArray
noncomputable def reCode : List Int := [14, 8, 1, 3, 3, 1, 1, 61, 0, 16, 61, 24, 16, 2, 2, 13, 11, 9, 0, 67043328, 126, 126, 0, 0, 0, 0, 0, 1, 1]
noncomputable def reObj : Obj := { cls := .type "re.Pattern", data := .fields #[.str "=[a-fA-F0-9]{2}" 290, .int 256 322, .int 0 0, .none, .none, .ref 42, .int 0 0] }
noncomputable def niCls : ClassData := { name := "_NodeInfo", qualname := "_NodeInfo", bases := [.type "object"], mro := [.ref 141, .type "object"], ns := 140, hasDict := false, slotNames := ["node", "npredecessors", "successors"] }
noncomputable def tsCls : ClassData := { name := "TopologicalSorter", qualname := "TopologicalSorter", bases := [.type "object"], mro := [.ref 238, .type "object"], ns := 237 }
noncomputable def slotD (n : Str) (t : Tok) (i : Int) : Obj := { cls := .type "member_descriptor", data := .fields #[.str n t, .ref 141, .builtin "proto.slot", .builtin "proto.slot#set", .int i 0] }
noncomputable def entN (P : Params) (n : Str) (t : Tok) (v : Value) : DictEntry := ⟨PyData.keyHash P n, .str n t, v⟩
noncomputable def niObj : Obj := { cls := .type "type", data := .cls { name := "_NodeInfo", qualname := "_NodeInfo", bases := [.type "object"], mro := [.ref 141, .type "object"], ns := 140, hasDict := false, slotNames := ["node", "npredecessors", "successors"] }, slots := #[none, none, some (.str "_NodeInfo" 1951), some (.str "_NodeInfo" 1959), some (.builtin "object.__new__"), some (.bool false)] }
noncomputable def tsObj : Obj := { cls := .type "type", data := .cls { name := "TopologicalSorter", qualname := "TopologicalSorter", bases := [.type "object"], mro := [.ref 238, .type "object"], ns := 237 }, slots := #[none, none, some (.str "TopologicalSorter" 2006), some (.str "TopologicalSorter" 2014), some (.builtin "object.__new__"), some (.bool true)] }
noncomputable def niNs (P : Params) : Obj := { cls := .type "dict", data := .dict #[entN P "__module__" 1958 (.str "cpy313.graphlib" 1943), entN P "__firstlineno__" 1962 (.int 79 1961), entN P "__slots__" 1966 (.ref 130), entN P "__init__" 1974 (.ref 137), entN P "__static_attributes__" 1978 (.ref 138), entN P "node" 1980 (.ref 142), entN P "npredecessors" 1982 (.ref 143), entN P "successors" 1984 (.ref 144), entN P "__doc__" 1985 .none] 5 }
noncomputable def tsNs (P : Params) : Obj := { cls := .type "dict", data := .dict #[entN P "__module__" 2013 (.str "cpy313.graphlib" 1943), entN P "__firstlineno__" 2017 (.int 88 2016), entN P "__init__" 2027 (.ref 174), entN P "_get_nodeinfo" 2036 (.ref 181), entN P "add" 2048 (.ref 188), entN P "prepare" 2054 (.ref 193), entN P "get_ready" 2064 (.ref 200), entN P "is_active" 2071 (.ref 207), entN P "__bool__" 2078 (.ref 214), entN P "done" 2092 (.ref 221), entN P "_find_cycle" 2105 (.ref 228), entN P "static_order" 2112 (.ref 235), entN P "__static_attributes__" 2117 (.ref 236), entN P "__dict__" 2119 (.ref 239), entN P "__weakref__" 2121 (.ref 240), entN P "__doc__" 2122 .none] 4 }
noncomputable def Kts (P : Params) (p : Program) : PySem.W.Frag := [(141, niObj), (140, niNs P), (142, slotD "node" 1979 2), (143, slotD "npredecessors" 1981 1), (144, slotD "successors" 1983 0), (238, tsObj), (237, tsNs P),
 (137, fnObj (fd_ni_init p)), (174, fnObj (fd_ts_init p)), (181, fnObj (fd_get_nodeinfo p)), (188, fnObj (fd_add p)), (193, fnObj (fd_prepare p)), (200, fnObj (fd_get_ready p)), (207, fnObj (fd_is_active p)), (221, fnObj (fd_done p)), (228, fnObj (fd_find_cycle p))]
structure Grd (p : Program) (h : Heap) : Prop where
 lim : h.NoLimit
 unquote : FnAt h 66 (fd_unquote p)
 quote : FnAt h 73 (fd_quote p)
 unquote_match : FnAt h 85 (fd_unquote_match p)
 header_decode : FnAt h 92 (fd_header_decode p)
 buffer : FnAt h 99 (fd_buffer p)
 truth : FnAt h 106 (fd_truth p)
 b2a : FnAt h 114 (fd_b2a p)
 b64encode : FnAt h 122 (fd_b64encode p)
 ni_init : FnAt h 137 (fd_ni_init p)
 ts_init : FnAt h 174 (fd_ts_init p)
 get_nodeinfo : FnAt h 181 (fd_get_nodeinfo p)
 add : FnAt h 188 (fd_add p)
 prepare : FnAt h 193 (fd_prepare p)
 get_ready : FnAt h 200 (fd_get_ready p)
 is_active : FnAt h 207 (fd_is_active p)
 done : FnAt h 221 (fd_done p)
 find_cycle : FnAt h 228 (fd_find_cycle p)
 drawn : FnAt h 247 (fd_drawn p)
 by_hand : FnAt h 252 (fd_by_hand p)
 plan : FnAt h 257 (fd_plan p)
 needs : FnAt h 262 (fd_needs p)
 encoded : FnAt h 267 (fd_encoded p)
 read : FnAt h 272 (fd_read p)
 put : FnAt h 277 (fd_put p)
 run : FnAt h 282 (fd_run p)
 tab : FnAt h 287 (fd_tab p)
 law : FnAt h 294 (fd_law p)
 g_len : GlobIs h "len" (.builtin "len")
 g_range : GlobIs h "range" (.type "range")
 g_list : GlobIs h "list" (.type "list")
 g_max : GlobIs h "max" (.builtin "max")
 g_chr : GlobIs h "chr" (.builtin "chr")
 g_ord : GlobIs h "ord" (.builtin "ord")
 g_sorted : GlobIs h "sorted" (.builtin "sorted")
 g_isinstance : GlobIs h "isinstance" (.builtin "isinstance")
 g_bytes : GlobIs h "bytes" (.type "bytes")
 g_tuple : GlobIs h "tuple" (.type "tuple")
 g_type : GlobIs h "type" (.type "type")
 g_bool : GlobIs h "bool" (.type "bool")
 g_int : GlobIs h "int" (.type "int")
 g_bytearray : GlobIs h "bytearray" (.type "bytearray")
 g_set : GlobIs h "set" (.type "set")
 g_iter : GlobIs h "iter" (.builtin "iter")
 g_StopIteration : GlobIs h "StopIteration" (.type "StopIteration")
 g_QUOPRI_MAP : GlobIs h "_QUOPRI_MAP" (.ref 46)
 g_twin_re_1 : GlobIs h "_twin_re_1" (.ref 43)
 g_B64 : GlobIs h "_B64" (.bytes b64Arr 1916)
 g_NODE_OUT : GlobIs h "_NODE_OUT" (.int (-1) 1946)
 g_NODE_DONE : GlobIs h "_NODE_DONE" (.int (-2) 1949)
 g_NodeInfo : GlobIs h "_NodeInfo" (.ref 141)
 g_TopologicalSorter : GlobIs h "TopologicalSorter" (.ref 238)
 g_unquote : GlobIs h "unquote" (.ref 66)
 g_quote : GlobIs h "quote" (.ref 73)
 g_unquote_match : GlobIs h "_unquote_match" (.ref 85)
 g_header_decode : GlobIs h "header_decode" (.ref 92)
 g_buffer : GlobIs h "_buffer" (.ref 99)
 g_truth : GlobIs h "_truth" (.ref 106)
 g_b2a_base64 : GlobIs h "b2a_base64" (.ref 114)
 g_b64encode : GlobIs h "b64encode" (.ref 122)
 g_law_drawn : GlobIs h "_law_drawn" (.ref 247)
 g_law_by_hand : GlobIs h "_law_by_hand" (.ref 252)
 g_law_plan : GlobIs h "_law_plan" (.ref 257)
 g_law_needs : GlobIs h "_law_needs" (.ref 262)
 g_law_encoded : GlobIs h "_law_encoded" (.ref 267)
 g_law_read : GlobIs h "_law_read" (.ref 272)
 g_law_put : GlobIs h "_law_put" (.ref 277)
 g_law_run : GlobIs h "_law_run" (.ref 282)
 g_law_there_and_back : GlobIs h "_law_there_and_back" (.ref 287)
 qmap : h.get? 46 = some (listObj qArr 256)
 recode : h.get? 42 = some (tupObj (reCode.map fun i => Value.int i 0).toArray 0)
 reobj : h.get? 43 = some reObj
 kwd : ∃ es ep, h.get? 107 = some { cls := .type "dict", data := .dict es ep }
 dfl64 : h.get? 115 = some (tupObj #[.none] 0)
 dflts : h.get? 167 = some (tupObj #[.none] 0)
 nicls : ∃ sl, h.get? 141 = some { cls := .type "type", data := .cls niCls, slots := sl }
 tscls : ∃ sl, h.get? 238 = some { cls := .type "type", data := .cls tsCls, slots := sl }
 sl_node : h.get? 142 = some (slotD "node" 1979 2)
 sl_np : h.get? 143 = some (slotD "npredecessors" 1981 1)
 sl_succ : h.get? 144 = some (slotD "successors" 1983 0)
 frag : ∃ P, (Kts P p).In h
theorem Grd.hk {p : Program} {h h' : Heap} (G : Grd p h) (k : HK h h') : Grd p h' where
 lim := G.lim.keeps k
 unquote := G.unquote.hk k
 quote := G.quote.hk k
 unquote_match := G.unquote_match.hk k
 header_decode := G.header_decode.hk k
 buffer := G.buffer.hk k
 truth := G.truth.hk k
 b2a := G.b2a.hk k
 b64encode := G.b64encode.hk k
 ni_init := G.ni_init.hk k
 ts_init := G.ts_init.hk k
 get_nodeinfo := G.get_nodeinfo.hk k
 add := G.add.hk k
 prepare := G.prepare.hk k
 get_ready := G.get_ready.hk k
 is_active := G.is_active.hk k
 done := G.done.hk k
 find_cycle := G.find_cycle.hk k
 drawn := G.drawn.hk k
 by_hand := G.by_hand.hk k
 plan := G.plan.hk k
 needs := G.needs.hk k
 encoded := G.encoded.hk k
 read := G.read.hk k
 put := G.put.hk k
 run := G.run.hk k
 tab := G.tab.hk k
 law := G.law.hk k
 g_len := G.g_len.hk k
 g_range := G.g_range.hk k
 g_list := G.g_list.hk k
 g_max := G.g_max.hk k
 g_chr := G.g_chr.hk k
 g_ord := G.g_ord.hk k
 g_sorted := G.g_sorted.hk k
 g_isinstance := G.g_isinstance.hk k
 g_bytes := G.g_bytes.hk k
 g_tuple := G.g_tuple.hk k
 g_type := G.g_type.hk k
 g_bool := G.g_bool.hk k
 g_int := G.g_int.hk k
 g_bytearray := G.g_bytearray.hk k
 g_set := G.g_set.hk k
 g_iter := G.g_iter.hk k
 g_StopIteration := G.g_StopIteration.hk k
 g_QUOPRI_MAP := G.g_QUOPRI_MAP.hk k
 g_twin_re_1 := G.g_twin_re_1.hk k
 g_B64 := G.g_B64.hk k
 g_NODE_OUT := G.g_NODE_OUT.hk k
 g_NODE_DONE := G.g_NODE_DONE.hk k
 g_NodeInfo := G.g_NodeInfo.hk k
 g_TopologicalSorter := G.g_TopologicalSorter.hk k
 g_unquote := G.g_unquote.hk k
 g_quote := G.g_quote.hk k
 g_unquote_match := G.g_unquote_match.hk k
 g_header_decode := G.g_header_decode.hk k
 g_buffer := G.g_buffer.hk k
 g_truth := G.g_truth.hk k
 g_b2a_base64 := G.g_b2a_base64.hk k
 g_b64encode := G.g_b64encode.hk k
 g_law_drawn := G.g_law_drawn.hk k
 g_law_by_hand := G.g_law_by_hand.hk k
 g_law_plan := G.g_law_plan.hk k
 g_law_needs := G.g_law_needs.hk k
 g_law_encoded := G.g_law_encoded.hk k
 g_law_read := G.g_law_read.hk k
 g_law_put := G.g_law_put.hk k
 g_law_run := G.g_law_run.hk k
 g_law_there_and_back := G.g_law_there_and_back.hk k
 qmap := k _ _ G.qmap
 recode := k _ _ G.recode
 reobj := k _ _ G.reobj
 kwd := let ⟨a, b, e⟩ := G.kwd; ⟨a, b, k _ _ e⟩
 dfl64 := k _ _ G.dfl64
 dflts := k _ _ G.dflts
 nicls := let ⟨a, e⟩ := G.nicls; ⟨a, k _ _ e⟩
 tscls := let ⟨a, e⟩ := G.tscls; ⟨a, k _ _ e⟩
 sl_node := k _ _ G.sl_node
 sl_np := k _ _ G.sl_np
 sl_succ := k _ _ G.sl_succ
 frag := let ⟨P, x⟩ := G.frag; ⟨P, x.keeps k⟩
section
variable {prog : Program} {w : World} {A : Around} {env : Env} {X : List Addr} {h : Heap}
theorem Ev.rep {l r : Expr} {pos : Pos} {x : Str} {n : Int} (hx : Ev prog w A env X h l (.str x)) (hy : Ev prog w A env X h r (.int n)) (h1 : n <= 1000) (h2 : x.length <= 1000) (h3 : -1000 <= n) : Ev prog w A env X h (.BinOp l .Mult r pos) (.str (Txt.mul x n)) :=
 Ev.bin hx hy fun s _ _ _ _ _ ⟨_, e1⟩ ⟨_, e2⟩ hq => by
  subst e1 e2
  exact SB.mul (mulOk_of 1000 1000 h2 (by lia) (by lia) (by decide) (by decide)) fun t' k => hq _ _ (Gw.toks s _) ⟨_, rfl⟩
theorem mulOk_small {a b : Int} (h : b.natAbs < 2 ^ 63) : IntMulOk a b := IntMulOk.of_right (intBits_le_64 (by lia) (by lia))
theorem mulOk_small' {a b : Int} (h : a.natAbs < 2 ^ 63) : IntMulOk a b := IntMulOk.of_left (intBits_le_64 (by lia) (by lia))
end
noncomputable def alphabet : Str := "ABCDEFGHIJKLMNOPQRSTUVWXYZabcdefghijklmnopqrstuvwxyz0123456789+/"
theorem alpha_some {n : Nat} (h : n < 64) : ∃ c, alphabet.cps[n]? = some c := ⟨_, Array.getElem?_eq_getElem (show n < alphabet.cps.size from h)⟩
noncomputable def hNum (os : List Int) : Int := os.foldl (fun n o => n * 256 + o) 0
noncomputable def hMany (os : List Int) : Int := (8 * (os.length : Int) + 5).fdiv 6
noncomputable def hNum' (os : List Int) : Int := hNum os * 2 ^ (6 * hMany os - 8 * (os.length : Int)).toNat
noncomputable def hSign (os : List Int) (k : Int) : Nat := (alphabet.cps[((hNum' os).fdiv (64 ^ (hMany os - 1 - k).toNat)).fmod 64 |>.toNat]?).getD 0
noncomputable def hSigns (os : List Int) : List Nat := (List.range (hMany os).toNat).map fun (k : Nat) => hSign os k
noncomputable def byHand (os : List Int) : List Nat := hSigns os ++ List.replicate ((-hMany os).fmod 4).toNat 61
theorem mul_eq (n : Int) (h : 0 <= n) : Txt.mul "=" n = txt (List.replicate n.toNat 61) := by
 unfold Txt.mul
 by_cases h1 : n < 1
 ·rw [if_pos h1, show n.toNat = 0 by lia]; rfl
 ·rw [if_neg h1]
  by_cases h2 : n = 1
  ·subst h2; rfl
  ·rw [if_neg (by simp [h2]; decide)]
   apply Str.ext'
   show (List.replicate n.toNat (#[61] : Array Nat)).foldl (· ++ ·) #[] = (List.replicate n.toNat 61).toArray
   have : ∀ (m : Nat) (a : Array Nat), (List.replicate m (#[61] : Array Nat)).foldl (· ++ ·) a = a ++ (List.replicate m 61).toArray := by
    intro m
    induction m with
    | zero => intro a; simp
    | succ m ih => intro a; rw [List.replicate_succ, List.foldl_cons, ih]; rw [List.replicate_succ]; apply Array.ext'; simp
   rw [this]; simp
theorem nd_by_hand : ((fd_by_hand pw).scope.names.map (·.1)).Nodup := by decide +kernel
theorem kd_by_hand : ∀ x ∈ (fd_by_hand pw).scope.names.take 1, x.2 = .local \/ x.2 = .cell := by decide +kernel
section
variable {w : World} {A : Around} {X : List Addr} {h : Heap}
theorem c_by_hand (G : Grd pw h) (hd : A.depth + 20 < recursionLimit) (hh : A.handled = none) (os : List Int) (hl : 1 <= os.length) (hl' : os.length <= 3) (xb : XB h X) : Calls pw w A X h (.ref 252) [.list (os.map .int)] (.str (txt (byHand os))) := by
 intro s Q E vs k r hq
 obtain ⟨v, rfl, r1⟩ := r.one
 refine wpAny_call (enter (fd := fd_by_hand pw) (body := bodyOf (topS pw 36)) (binds := [("octets", v)]) (ps := [.list (os.map .int)]) (X := X) (by lia) (k _ _ G.by_hand.1) (G.lim.keeps k) (G.by_hand.2.keeps k) rfl rfl rfl rfl kd_by_hand nd_by_hand (xb.hk k) r ?_)
 intro s₁ env henv g F
 have G₁ : Grd pw s₁.heap := G.hk (k.trans g.hk)
 have hn : env.scope.names = (fd_by_hand pw).scope.names := by rw [henv]; rfl
 have eg : env.globals = mainGlobals := by rw [henv]; rfl
 have eb : env.builtins = builtinsNs := by rw [henv]; rfl
 have hA : (A.deeper env).handled = none := hh
 have hm1 : 1 <= hMany os /\ hMany os <= 4 /\ 0 <= 6 * hMany os - 8 * (os.length : Int) /\ 6 * hMany os - 8 * (os.length : Int) <= 6 := by
  have : os.length = 1 \/ os.length = 2 \/ os.length = 3 := by lia
  unfold hMany
  rcases this with e | e | e <;> rw [e] <;> decide
 replace F : Fm env (own env ++ X) [] s.heap s₁.heap [some (.list (os.map .int)), none, none, none, none, none, none, none] := F
 refine x_assign F 1 (nm hn rfl) (.inr rfl) Ev.str fun s₂ m₂ F₂ => ?_
 refine x_assign F₂ 2 (nm hn rfl) (.inr rfl) Ev.int fun s₃ m₃ F₃ => ?_
 refine x_forF hA F₃ 3 (nm hn rfl) (.inl rfl) (Ev.name F₃.toRd 0 (nm hn rfl) rfl) (Items.list _)
  (fun i => [some (.list (os.map .int)), some (.str alphabet), some (.int (hNum (os.take i))), (if i = 0 then none else (os[i - 1]?).map PV.int), none, none, none, none]) rfl ?_ ?_
 ·intro I i q s₄ E' hq' F₄
  rw [List.getElem?_map] at hq'
  cases ho : os[i]? with
  | none => rw [ho] at hq'; cases hq'
  | some o =>
   rw [ho] at hq'
   obtain rfl : PV.int o = q := by simpa using hq'
   refine x_assign F₄ 2 (nm hn rfl) (.inr rfl) (Ev.add (Ev.mul (Ev.name F₄.toRd 2 (nm hn rfl) rfl) Ev.int (mulOk_small (by decide))) (Ev.name F₄.toRd 3 (nm hn rfl) rfl)) fun s₅ m₅ F₅ => x_nil ⟨m₅, ?_⟩
   have e1 : hNum (os.take (i + 1)) = hNum (os.take i) * 256 + o := by
    unfold hNum; rw [List.take_add_one, ho, List.foldl_append]; rfl
   have e2 : (if i + 1 = 0 then (none : Option PV) else (os[i + 1 - 1]?).map PV.int) = some (.int o) := by
    rw [if_neg (by lia), Nat.add_sub_cancel, ho]; rfl
   rw [e1, e2]
   exact F₅
 ·intro s₄ m₄ F₄
  have G₄ : Grd pw s₄.heap := G.hk (k.trans F₄.keep.hk)
  rw [List.length_map] at F₄
  rw [List.take_length] at F₄
  replace F₄ := F₄.forget 3
  replace F₄ : Fm env (own env ++ X) [] s.heap s₄.heap [some (.list (os.map .int)), some (.str alphabet), some (.int (hNum os)), none, none, none, none, none] := F₄
  have elen : ((os.map PV.int).length : Int) = (os.length : Int) := by rw [List.length_map]
  have elen' : ((os.map PV.int).length : Int) < 2 ^ 63 := by rw [elen]; lia
  have evlen : ∀ {h' : Heap} {vals : List (Option PV)} (_ : Fm env (own env ++ X) [] s.heap h' (some (.list (os.map .int)) :: vals)) (p1 p2 p3 : Pos), Ev pw w (A.deeper env) env (own env ++ X) h' (.Call (.Name "len" p1) [.Name "octets" p2] [] p3) (.int os.length) := fun F' p1 p2 p3 => by
   have := Ev.call (pos := p3) (px := p1) (A := A.deeper env) (prog := pw) (w := w) (Ev.glob F'.toRd 6 (nm hn rfl) (G.hk (k.trans F'.keep.hk)).g_len eg eb) (EvL.cons (Ev.name (pos := p2) F'.toRd 0 (nm hn rfl) rfl) EvL.nil) trivial (c_len elen')
   rwa [elen] at this
  refine x_assign F₄ 4 (nm hn rfl) (.inr rfl) (Ev.fdiv (Ev.add (Ev.mul Ev.int (evlen F₄ _ _ _) (mulOk_small' (by decide))) Ev.int) Ev.int (by decide) (PyProof.noPylong_small (by decide))) fun s₅ m₅ F₅ => ?_
  replace F₅ : Fm env (own env ++ X) [] s.heap s₅.heap [some (.list (os.map .int)), some (.str alphabet), some (.int (hNum os)), none, some (.int (hMany os)), none, none, none] := F₅
  have hp2 : (2 ^ (6 * hMany os - 8 * (os.length : Int)).toNat : Int).natAbs < 2 ^ 63 := by
   have : (6 * hMany os - 8 * (os.length : Int)).toNat <= 6 := by lia
   rw [Int.natAbs_pow]
   exact Nat.lt_of_le_of_lt (Nat.pow_le_pow_right (by decide) this) (by decide)
  refine x_assign F₅ 2 (nm hn rfl) (.inr rfl) (Ev.mul (Ev.name F₅.toRd 2 (nm hn rfl) rfl) (Ev.pow Ev.int (Ev.sub (Ev.mul Ev.int (Ev.name F₅.toRd 4 (nm hn rfl) rfl) (mulOk_small' (by decide))) (Ev.mul Ev.int (evlen F₅ _ _ _) (mulOk_small' (by decide)))) (by lia) (by lia) (by decide)) (mulOk_small hp2)) fun s₆ m₆ F₆ => ?_
  replace F₆ : Fm env (own env ++ X) [] s.heap s₆.heap [some (.list (os.map .int)), some (.str alphabet), some (.int (hNum' os)), none, some (.int (hMany os)), none, none, none] := F₆
  refine x_assign F₆ 5 (nm hn rfl) (.inl rfl) (Ev.join1 (cs := hSigns os) (Ev.cast (Ev.comp F₆.toRd hA (its := (List.range (hMany os).toNat).map fun (k : Nat) => PV.int k) 1 [(2, 1), (3, 4), (4, 2)] (fun q => match q with | .int k => .str ⟨#[hSign os k]⟩ | _ => .none) (fun _ => true) (CompOk.of (has := [true, true, true, false, true, false, false, false]) (by rw [hn]; decide +kernel) rfl) rfl (Ev.call (Ev.glob F₆.toRd 7 (nm hn rfl) (G.hk (k.trans F₆.keep.hk)).g_range eg eb) (EvL.cons (Ev.name F₆.toRd 4 (nm hn rfl) rfl) EvL.nil) trivial (c_range1 F₆.xb)) ?_ ?_ ?_ ?_ ?_ ?_) ?_) ?_) ?_
  ·exact Items.rng0 (by lia) (by lia)
  ·intro q hq; obtain ⟨i, _, rfl⟩ := List.mem_map.mp hq; exact trivial
  ·rw [List.length_map, List.length_range]; unfold sizeLine; lia
  ·intro q hq _; obtain ⟨i, _, rfl⟩ := List.mem_map.mp hq; exact trivial
  ·intros; exact TstAll.nil
  ·intro q hq _ en h' hcn eg' eb' kk rd
   obtain ⟨i, hi, rfl⟩ := List.mem_map.mp hq
   have hi' : i < (hMany os).toNat := List.mem_range.mp hi
   replace rd : Rd en (own env ++ X) h' [none, some (.int i), some (.str alphabet), some (.int (hMany os)), some (.int (hNum' os))] := rd
   have hd1 : 0 < (64 ^ (hMany os - 1 - i).toNat : Int) := Int.pow_pos (by decide)
   have hd2 : (64 ^ (hMany os - 1 - i).toNat : Int).natAbs < 2 ^ 30 := by
    have : (hMany os - 1 - i).toNat <= 4 := by lia
    rw [Int.natAbs_pow]
    exact Nat.lt_of_le_of_lt (Nat.pow_le_pow_right (by decide) this) (by decide)
   have hm0 := Int.fmod_nonneg_of_pos ((hNum' os).fdiv (64 ^ (hMany os - 1 - i).toNat)) (show (0 : Int) < 64 by decide)
   have hm2 := Int.fmod_lt_of_pos ((hNum' os).fdiv (64 ^ (hMany os - 1 - i).toNat)) (show (0 : Int) < 64 by decide)
   refine Ev.sign (Ev.name rd 2 (nm hcn rfl) rfl) (Ev.mod (Ev.fdiv (Ev.name rd 4 (nm hcn rfl) rfl) (Ev.pow Ev.int (Ev.sub (Ev.sub (Ev.name rd 3 (nm hcn rfl) rfl) Ev.int) (Ev.name rd 1 (nm hcn rfl) rfl)) (by lia) (by lia) (by decide)) (by lia) (PyProof.noPylong_small (by lia))) Ev.int (by decide)) hm0 (by lia) ?_
   obtain ⟨c, hc⟩ := alpha_some (n := ((hNum' os).fdiv (64 ^ (hMany os - 1 - i).toNat)).fmod 64 |>.toNat) (by lia)
   rw [hc]; unfold hSign; rw [hc]; rfl
  ·rw [List.filter_eq_self.mpr (fun _ _ => rfl), List.map_map]; unfold ones hSigns; rw [List.map_map, List.map_map]; rfl
  ·unfold hSigns; rw [List.length_map, List.length_range]; lia
  ·intro s₇ m₇ F₇
   replace F₇ : Fm env (own env ++ X) [] s.heap s₇.heap [some (.list (os.map .int)), some (.str alphabet), some (.int (hNum' os)), none, some (.int (hMany os)), some (.str (txt (hSigns os))), none, none] := F₇
   refine x_return (Ev.cat (Ev.name F₇.toRd 5 (nm hn rfl) rfl) (Ev.rep Ev.str (Ev.mod (Ev.neg (Ev.name F₇.toRd 4 (nm hn rfl) rfl)) Ev.int (by decide)) ?_ (by decide) ?_) ?_) ?_
   ·have := Int.fmod_lt_of_pos (-hMany os) (show (0 : Int) < 4 by decide); lia
   ·have := Int.fmod_nonneg_of_pos (-hMany os) (show (0 : Int) < 4 by decide); lia
   ·rw [mul_eq _ (Int.fmod_nonneg_of_pos _ (by decide)), txt_append]
    show (hSigns os ++ _).toArray.size <= sizeLine
    unfold hSigns
    have := Int.fmod_lt_of_pos (-hMany os) (show (0 : Int) < 4 by decide)
    simp only [List.size_toArray, List.length_append, List.length_map, List.length_range, List.length_replicate]
    unfold sizeLine; lia
   ·intro v s' g' rv
    have m : Mv (own env) s s' := (((((((g.mv _).trans m₂).trans m₃).trans m₄).trans m₅).trans m₆).trans m₇).trans (g'.mv _)
    refine hq v s' (m.out (F₇.hk g'.hk)) ?_
    rw [mul_eq _ (Int.fmod_nonneg_of_pos _ (by decide)), txt_append] at rv
    exact rv.less fun a ha => List.mem_append_right _ ha
end
theorem ex_tr {a b c : Shared} (x : ∃ h' tk, b = { a with heap := h', toks := tk }) (y : ∃ h' tk, c = { b with heap := h', toks := tk }) : ∃ h' tk, c = { a with heap := h', toks := tk } := by
 obtain ⟨h, t, rfl⟩ := x
 obtain ⟨h', t', rfl⟩ := y
 exact ⟨h', t', rfl⟩
theorem sz3 {a b c : PV} : [a, b, c].length <= sizeLine := by show 3 <= sizeLine; decide
theorem sz2 {a b : PV} : [a, b].length <= sizeLine := by show 2 <= sizeLine; decide
theorem pylong60 {x y : Int} (h : y.natAbs < 2 ^ 60) : Builtin.divisionGoesByPylong x y = false := by
 refine PyProof.noPylong_of_log2 ?_
 by_cases h0 : y.natAbs = 0
 ·rw [h0]; decide +kernel
 ·have h30 : y.natAbs.log2 < 60 := (Nat.log2_lt h0).mpr h
  lia
noncomputable def dBase : List Int := [16, 15, 10, 21, 38, 649862497, 5]
noncomputable def dCells : List Int -> Nat -> List Int
 | _, 0 => dBase
 | ns, i + 1 => (dCells ns i).set (i % 7) ((dCells ns i).getD (i % 7) 0 + ns.getD i 0)
theorem dCells_len (ns : List Int) : ∀ i, (dCells ns i).length = 7
 | 0 => rfl
 | i + 1 => by unfold dCells; rw [List.length_set, dCells_len ns i]
theorem nd_drawn : ((fd_drawn pw).scope.names.map (·.1)).Nodup := by decide +kernel
theorem kd_drawn : ∀ x ∈ (fd_drawn pw).scope.names.take 1, x.2 = .local \/ x.2 = .cell := by decide +kernel
noncomputable def dSize (c : List Int) : Int := 3 + (c.getD 5 0).fmod 3
noncomputable def dRow (c : List Int) : List Int := (List.range (dSize c).toNat).map fun (k : Nat) => (((c.getD 5 0).fdiv 3).fdiv (256 ^ (dSize c - 1 - k).toNat)).fmod 256
section
variable {w : World} {A : Around} {X : List Addr} {h : Heap}
theorem Ev.sliceW {prog : Program} {env : Env} {a : Addr} {value : Expr} {lower upper : Option Expr} {p pos : Pos} {xs ys : List PV} {lo hi : Option Int} (xb : XB h X) (L : Lw X h a xs) (x : Ev prog w A env X h value (.obj (.ref a))) (l : EvP prog w A env h lower lo) (u : EvP prog w A env h upper hi)
  (hsz : xs.length <= sizeLine) (hp : ∀ (X : List Addr) (h : Heap) (vs : Array Value), RepL X h xs vs.toList -> RepL X h ys (slicePick vs lo hi none).toList)
  (hl : ∀ o r, letTemporaryGo value o r = pure () := by intro _ _; rfl) :
  Ev prog w A env X h (.Subscript value (.Slice lower upper none p) pos) (.list ys) := by
 intro s Q E k hq
 refine wpAny_Subscript_list_slice (x s _ _ k fun o s₁ g₁ r₁ => l s₁ _ _ (k.trans g₁.hk) fun vl s₂ g₂ p₂ => u s₂ _ _ ((k.trans g₁.hk).trans g₂.hk) fun vu s₃ g₃ p₃ => ?_) hl
 obtain rfl : o = .ref a := r₁
 have k3 := ((k.trans g₁.hk).trans g₂.hk).trans g₃.hk
 obtain ⟨vs, hL, rl⟩ := L.hk k3
 have h1 : vs.size = xs.length := by simpa using rl.length
 refine ⟨a, vs, lo, hi, rfl, hL, h1 ▸ hsz, p₂, p₃, ?_⟩
 refine hq _ _ (((g₁.trans g₂).trans g₃).trans ⟨⟨_, s₃.toks, rfl⟩, fun b o e => Heap.get?_push_of_some _ (Heap.get?_push_of_some _ e)⟩) (rep_new ((xb.hk k3).fresh ?_) (by rw [<- Heap.size_push]; exact Heap.get?_push_size _ rfl) ?_)
 ·cases q : s₃.heap.get? (s₃.heap.objs.size + 1) with
  | none => rfl
  | some o => exact absurd (Heap.lt_size q) (Nat.not_lt.mpr (Nat.le_succ _))
 ·exact hp X _ vs (rl.hk fun b o e => Heap.get?_push_of_some _ (Heap.get?_push_of_some _ e))
theorem c_drawn (G : Grd pw h) (hd : A.depth + 20 < recursionLimit) (hh : A.handled = none) (ns : List Int) (hl' : ns.length <= 63) (xb : XB h X) : Calls pw w A X h (.ref 247) [.list (ns.map .int)] (.tuple [.list (((dCells ns ns.length).take 5).map .int), .list ((dRow (dCells ns ns.length)).map .int), .int ((dCells ns ns.length).getD 6 0)]) := by
 intro s Q E vs k r hq
 obtain ⟨v, rfl, r1⟩ := r.one
 refine wpAny_call (enter (fd := fd_drawn pw) (body := bodyOf (topS pw 35)) (binds := [("script", v)]) (ps := [.list (ns.map .int)]) (X := X) (by lia) (k _ _ G.drawn.1) (G.lim.keeps k) (G.drawn.2.keeps k) rfl rfl rfl rfl kd_drawn nd_drawn (xb.hk k) r ?_)
 intro s₁ env henv g F
 have hn : env.scope.names = (fd_drawn pw).scope.names := by rw [henv]; rfl
 have eg : env.globals = mainGlobals := by rw [henv]; rfl
 have eb : env.builtins = builtinsNs := by rw [henv]; rfl
 have hA : (A.deeper env).handled = none := hh
 replace F : Fm env (own env ++ X) [] s.heap s₁.heap [some (.list (ns.map .int)), none, none, none, none, none, none] := F
 refine x_newlist F 1 (nm hn rfl) (.inr rfl) rfl (EvL.cons Ev.int (EvL.cons Ev.int (EvL.cons Ev.int (EvL.cons Ev.int (EvL.cons Ev.int (EvL.cons Ev.int (EvL.cons Ev.int EvL.nil))))))) (by decide) fun a s₂ haX has h0a m₂ F₂ L₂ => ?_
 have G₂ : Grd pw s₂.heap := G.hk (k.trans F₂.keep.hk)
 replace F₂ : Fm env (a :: (own env ++ X)) [] s.heap s₂.heap [some (.list (ns.map .int)), some (.obj (.ref a)), none, none, none, none, none] := F₂
 have hao : a ∉ own env := fun z => haX (List.mem_append_left _ z)
 have elen : ((ns.map PV.int).length : Int) = (ns.length : Int) := by rw [List.length_map]
 refine x_forR hA F₂ 2 (nm hn rfl) (.inl rfl) [a] (by simp) (by simp) (fun I i h => Lw (I :: a :: (own env ++ X)) h a ((dCells ns i).map .int))
  (Ev.call (Ev.glob F₂.toRd 5 (nm hn rfl) G₂.g_range eg eb) (EvL.cons (Ev.call (Ev.glob F₂.toRd 6 (nm hn rfl) G₂.g_len eg eb) (EvL.cons (Ev.name F₂.toRd 0 (nm hn rfl) rfl) EvL.nil) trivial (c_len (by rw [elen]; lia))) EvL.nil) trivial (c_range1 F₂.xb))
  (Items.rngN (by rw [elen]; lia)) (fun i => [some (.list (ns.map .int)), some (.obj (.ref a)), (if i = 0 then none else some (.int ((i - 1 : Nat) : Int))), none, none, none, none]) rfl ?_ ?_ ?_ ?_
 ·intro I h' k' hI
  obtain ⟨vs, n, e, rl⟩ := L₂
  exact Lw.hk (Ls.lw ⟨vs, n, e, RepL.more (fun b hb => (List.mem_cons.mp hb).elim (fun e => .inr (e ▸ hI)) .inl) rl⟩) k'
 ·intro I i h1 h2 hI kp l
  have haI : a ≠ I := by rintro rfl; obtain ⟨vs, n, e, _⟩ := L₂; rw [hI] at e; cases e
  exact l.kp kp (fun b hb => (List.mem_cons.mp hb).elim (fun e => e ▸ List.mem_cons_self) fun z => List.mem_cons_of_mem _ (List.mem_cons_of_mem _ (List.mem_append_left _ z))) (by simp; exact ⟨haI, hao⟩)
 ·intro I i q s₄ E' hI hq' F₄ L₄
  rw [List.getElem?_map, List.length_map] at hq'
  have hi : i < ns.length := by
   cases hr : (List.range ns.length)[i]? with
   | none => rw [hr] at hq'; cases hq'
   | some j => have := List.getElem?_eq_some_iff.mp hr; simpa using this.1
  obtain rfl : PV.int i = q := by rw [List.getElem?_range hi] at hq'; simpa using hq'
  replace F₄ : Fm env (I :: a :: (own env ++ X)) [] s.heap s₄.heap [some (.list (ns.map .int)), some (.obj (.ref a)), some (.int i), none, none, none, none] := F₄
  have hm : ((i : Int).fmod 7) = ((i % 7 : Nat) : Int) := by rw [Int.fmod_eq_emod_of_nonneg _ (by decide)]; rfl
  have evm : ∀ (p1 p2 p3 : Pos) (kk : Nat), Ev pw w (A.deeper env) env (I :: a :: (own env ++ X)) s₄.heap (.BinOp (.Name "place" p1) .Mod (.Constant (.int 7) kk p2) p3) (.int ((i % 7 : Nat) : Int)) := fun p1 p2 p3 kk => (Ev.mod (Ev.name F₄.toRd 2 (nm hn rfl) rfl) Ev.int (by decide)).cast (by rw [hm])
  have hlt : i % 7 < 7 := Nat.mod_lt _ (by decide)
  have hcl : (dCells ns i).length = 7 := dCells_len ns i
  have hget : ((dCells ns i).map PV.int)[i % 7]? = some (.int ((dCells ns i).getD (i % 7) 0)) := by
   rw [List.getElem?_map, List.getD_eq_getElem?_getD, List.getElem?_eq_getElem (by lia)]; rfl
  have hgetS : (ns.map PV.int)[i]? = some (.int (ns.getD i 0)) := by
   rw [List.getElem?_map, List.getD_eq_getElem?_getD, List.getElem?_eq_getElem hi]; rfl
  refine x_setL F₄ L₄ (by simp) hao (.inr h0a) (Ev.name F₄.toRd 1 (nm hn rfl) rfl) (evm _ _ _ _) (Ev.add (Ev.itemW L₄ (Ev.name F₄.toRd 1 (nm hn rfl) rfl) (evm _ _ _ _) (by lia) (by lia) hget) (Ev.item (Ev.name F₄.toRd 0 (nm hn rfl) rfl) (Ev.name F₄.toRd 2 (nm hn rfl) rfl) (by lia) (by lia) hgetS)) (by lia) (by lia) (by rw [List.length_map, hcl]; lia) fun s₅ m₅ F₅ L₅ => x_nil ⟨m₅.mono (by simp), F₅, ?_⟩
  have e1 : (dCells ns (i + 1)).map PV.int = ((dCells ns i).map PV.int).set (((i % 7 : Nat) : Int).toNat) (.int ((dCells ns i).getD (i % 7) 0 + ns.getD i 0)) := by
   show ((dCells ns i).set (i % 7) ((dCells ns i).getD (i % 7) 0 + ns.getD i 0)).map PV.int = _
   rw [List.map_set]; rfl
  show Lw _ _ a ((dCells ns (i + 1)).map PV.int)
  rw [e1]; exact L₅
 ·intro I s₃ hI m₃ F₃ L₃
  replace F₃ := F₃.forget 2
  rw [List.length_map, List.length_range, List.length_map] at F₃ L₃
  replace F₃ : Fm env (a :: (own env ++ X)) [] s.heap s₃.heap [some (.list (ns.map .int)), some (.obj (.ref a)), none, none, none, none, none] := F₃
  generalize hc : dCells ns ns.length = c at *
  have hcl : c.length = 7 := hc ▸ dCells_len ns ns.length
  have L₃' : Lw (a :: (own env ++ X)) s₃.heap a (c.map .int) := by
   obtain ⟨vs, hL, rl⟩ := L₃
   exact ⟨vs, hL, rl.less fun b hb => List.mem_cons_of_mem _ hb⟩
  have get : ∀ j, j < 7 -> (c.map PV.int)[j]? = some (.int (c.getD j 0)) := fun j hj => by
   rw [List.getElem?_map, List.getD_eq_getElem?_getD, List.getElem?_eq_getElem (by lia)]; rfl
  refine x_assign F₃ 3 (nm hn rfl) (.inr rfl) (Ev.add Ev.int (Ev.mod (Ev.itemW L₃' (Ev.name F₃.toRd 1 (nm hn rfl) rfl) Ev.int (by decide) (by decide) (get 5 (by decide))) Ev.int (by decide))) fun s₄ m₄ F₄ => ?_
  have L₄ : Lw (a :: (own env ++ X)) s₄.heap a (c.map .int) := L₃'.kp m₄.kp (fun b hb => List.mem_cons_of_mem _ (List.mem_append_left _ hb)) hao
  replace F₄ : Fm env (a :: (own env ++ X)) [] s.heap s₄.heap [some (.list (ns.map .int)), some (.obj (.ref a)), none, some (.int (dSize c)), none, none, none] := F₄
  have hs3 : 3 <= dSize c /\ dSize c <= 5 := by
   unfold dSize
   have := Int.fmod_nonneg_of_pos (c.getD 5 0) (show (0 : Int) < 3 by decide)
   have := Int.fmod_lt_of_pos (c.getD 5 0) (show (0 : Int) < 3 by decide)
   lia
  refine x_assignC F₄ hA (its := (List.range (dSize c).toNat).map fun (k : Nat) => PV.int k) 4 (nm hn rfl) 1 [(2, 1), (3, 3)] (fun q => match q with | .int k => .int ((((c.getD 5 0).fdiv 3).fdiv (256 ^ (dSize c - 1 - k).toNat)).fmod 256) | _ => .none) (fun _ => true) (CompOk.of (has := [true, true, false, true, false, false, false]) (by rw [hn]; decide +kernel) rfl) rfl (Ev.call (Ev.glob F₄.toRd 5 (nm hn rfl) (G.hk (k.trans F₄.keep.hk)).g_range eg eb) (EvL.cons (Ev.name F₄.toRd 3 (nm hn rfl) rfl) EvL.nil) trivial (c_range1 F₄.xb)) ?_ ?_ ?_ ?_ ?_ ?_ ?_ ?_
  ·exact Items.rng0 (by lia) (by lia)
  ·intro q hq; obtain ⟨i, _, rfl⟩ := List.mem_map.mp hq; exact trivial
  ·rw [List.length_map, List.length_range]; unfold sizeLine; lia
  ·intro q hq _; obtain ⟨i, _, rfl⟩ := List.mem_map.mp hq; exact trivial
  ·intros; exact TstAll.nil
  ·intro q hq _ en h' hcn eg' eb' kk rd
   obtain ⟨i, hi, rfl⟩ := List.mem_map.mp hq
   have hi' : i < (dSize c).toNat := List.mem_range.mp hi
   replace rd : Rd en (a :: (own env ++ X)) h' [none, some (.int i), some (.obj (.ref a)), some (.int (dSize c))] := rd
   have hd1 : 0 < (256 ^ (dSize c - 1 - i).toNat : Int) := Int.pow_pos (by decide)
   have hd2 : (256 ^ (dSize c - 1 - i).toNat : Int).natAbs < 2 ^ 40 := by
    have : (dSize c - 1 - i).toNat <= 4 := by lia
    rw [Int.natAbs_pow]
    exact Nat.lt_of_le_of_lt (Nat.pow_le_pow_right (by decide) this) (by decide)
   exact Ev.mod (Ev.fdiv (Ev.fdiv (Ev.itemW (L₄.hk kk) (Ev.name rd 2 (nm hcn rfl) rfl) Ev.int (by decide) (by decide) (get 5 (by decide))) Ev.int (by decide) (PyProof.noPylong_small (by decide))) (Ev.pow Ev.int (Ev.sub (Ev.sub (Ev.name rd 3 (nm hcn rfl) rfl) Ev.int) (Ev.name rd 1 (nm hcn rfl) rfl)) (by lia) (by lia) (by decide)) (by lia) (pylong60 (by lia))) Ev.int (by decide)
  ·intro s₅ m₅ F₅
   have e1 : ((List.range (dSize c).toNat).map (fun (k : Nat) => PV.int k)).filter (fun _ => true) = (List.range (dSize c).toNat).map (fun (k : Nat) => PV.int k) := List.filter_eq_self.mpr (fun _ _ => rfl)
   rw [e1, List.map_map] at F₅
   have e2 : List.map ((fun q => match q with | .int k => PV.int ((((c.getD 5 0).fdiv 3).fdiv (256 ^ (dSize c - 1 - k).toNat)).fmod 256) | _ => .none) ∘ fun (k : Nat) => PV.int k) (List.range (dSize c).toNat) = (dRow c).map .int := by
    unfold dRow; rw [List.map_map]; rfl
   rw [e2] at F₅
   replace F₅ : Fm env (a :: (own env ++ X)) [] s.heap s₅.heap [some (.list (ns.map .int)), some (.obj (.ref a)), none, some (.int (dSize c)), some (.list ((dRow c).map .int)), none, none] := F₅
   have L₅ : Lw (a :: (own env ++ X)) s₅.heap a (c.map .int) := L₄.kp m₅.kp (fun b hb => List.mem_cons_of_mem _ (List.mem_append_left _ hb)) hao
   refine x_return (Ev.tup F₅.xb (EvL.cons (Ev.sliceW F₅.xb L₅ (Ev.name F₅.toRd 1 (nm hn rfl) rfl) EvP.none (EvP.some (X := a :: (own env ++ X)) Ev.int) (by rw [List.length_map, hcl]; decide) (slice_upto (b := 5))) (EvL.cons (Ev.name F₅.toRd 4 (nm hn rfl) rfl) (EvL.cons (Ev.itemW L₅ (Ev.name F₅.toRd 1 (nm hn rfl) rfl) Ev.int (by decide) (by decide) (get 6 (by decide))) EvL.nil))) sz3) ?_
   intro v s' g' rv
   refine hq v s' ⟨?_, F₅.keep.hk.trans g'.hk⟩ ?_
   ·exact ex_tr g.ex (ex_tr m₂.ex (ex_tr m₃.ex (ex_tr m₄.ex (ex_tr m₅.ex g'.ex))))
   ·rw [<- List.map_take] at rv
    exact rv.less fun b hb => List.mem_cons_of_mem _ (List.mem_append_right _ hb)
  ·rw [henv]; rfl
end
noncomputable abbrev pvN (xs : List Nat) : PV := .list (xs.map fun (n : Nat) => PV.int n)
noncomputable abbrev pvS (cs : List Nat) : PV := .list ((ones cs).map .str)
noncomputable abbrev pvD (d : List Nat × List Nat) : PV := .tuple [pvN d.1, pvN d.2]
section
variable {prog : Program} {w : World} {A : Around} {E : Value -> Shared -> Prop} {s : Shared} {X M : List Addr} {env : Env} {h₀ h : Heap} {vals : List (Option PV)}
theorem c_lenS {x : Str} (hl : (x.length : Int) < 2 ^ 63) : Calls prog w A X h (.builtin "len") [.str x] (.int x.length) := by
 intro s Q E vs k r hq
 obtain ⟨v, rfl, t, rfl⟩ := r.one
 exact P.len_str (by lia) (hq _ _ (Gw.toks s _) ⟨_, rfl⟩)
theorem txt_len (cs : List Nat) : (txt cs).length = cs.length := by show cs.toArray.size = _; simp
theorem pvN_len (cs : List Nat) : (cs.map fun (n : Nat) => PV.int n).length = cs.length := List.length_map ..
theorem pvN_get {cs : List Nat} {i : Nat} {c : Nat} (h : cs[i]? = some c) : (cs.map fun (n : Nat) => PV.int n)[i]? = some (.int c) := by rw [List.getElem?_map, h]; rfl
theorem ones_get {cs : List Nat} {i : Nat} {c : Nat} (h : cs[i]? = some c) : ((ones cs).map PV.str)[i]? = some (.str ⟨#[c]⟩) := by rw [List.map_map, List.getElem?_map, h]; rfl
theorem ones_len (cs : List Nat) : ((ones cs).map PV.str).length = cs.length := by rw [List.length_map, List.length_map]
theorem filter_true {α : Type} (l : List α) : l.filter (fun _ => true) = l := List.filter_eq_self.mpr fun _ _ => rfl
end
section
variable {prog : Program} {w : World} {A : Around} {E : Value -> Shared -> Prop} {s : Shared} {X M : List Addr} {env : Env} {h₀ h : Heap} {vals : List (Option PV)}
theorem c_list_rngN (xb : XB h X) (hh : A.handled = none) {a n : Nat} (hn : n <= 2 ^ 24) (ha' : a < 2 ^ 24) : Calls prog w A X h (.type "list") [.rng (a : Int) ((a : Int) + (n : Int))] (pvN ((List.range n).map (a + ·))) :=
 (c_list_rng xb hh hn (by lia) (by lia)).cast rfl (by
  show PV.list _ = PV.list _
  rw [List.map_map]; rfl)
theorem c_list_rng0 (xb : XB h X) (hh : A.handled = none) {n : Nat} (hn : n <= 2 ^ 24) : Calls prog w A X h (.type "list") [.rng 0 (n : Int)] (pvN (List.range n)) :=
 (c_list_rng (a := 0) xb hh hn (by lia) (by lia)).cast (by rw [Int.zero_add]) (by
  show PV.list _ = PV.list _
  congr 1
  refine List.map_congr_left fun i _ => ?_
  rw [Int.zero_add])
theorem c_lenN {xs : List Nat} (hl : xs.length < 2 ^ 60) : Calls prog w A X h (.builtin "len") [pvN xs] (.int xs.length) :=
 (c_len (xs := xs.map fun (n : Nat) => PV.int n) (by rw [List.length_map]; lia)).cast rfl (by rw [List.length_map])
theorem c_lenO {xs : List Nat} (hl : xs.length < 2 ^ 60) : Calls prog w A X h (.builtin "len") [pvS xs] (.int xs.length) :=
 (c_len (xs := (ones xs).map PV.str) (by rw [ones_len]; lia)).cast rfl (by rw [ones_len])
theorem c_lenT {xs : List Nat} (hl : xs.length < 2 ^ 60) : Calls prog w A X h (.builtin "len") [.str (txt xs)] (.int xs.length) :=
 (c_lenS (x := txt xs) (by rw [txt_len]; lia)).cast rfl (by rw [txt_len])
end
section
variable {prog : Program} {w : World} {A : Around} {E : Value -> Shared -> Prop} {s : Shared} {X M : List Addr} {env : Env} {h₀ h : Heap} {vals : List (Option PV)}
theorem onw_to (K : Shared -> Prop) {st rest : List Stmt} {Q : Flow -> Shared -> Prop} (h : wpAny (model prog w) A (execs st env) (fun f s' => f = .next /\ K s') E s) (c : ∀ s', K s' -> wpAny (model prog w) A (execs rest env) Q E s') :
  wpAny (model prog w) A (execs st env) (onw prog w A env rest Q E) E s :=
 wpAny_mono h (fun f s' ⟨e, k⟩ => by subst e; exact c s' k) fun _ _ x => x
end
section
variable {prog : Program} {w : World} {A : Around} {E : Value -> Shared -> Prop} {s : Shared} {X M : List Addr} {env : Env} {h₀ h h' : Heap} {vals : List (Option PV)} {a : Addr} {ps : List PV}
theorem x_while {test : Expr} {body orelse rest : List Stmt} {pos : Pos} {Q : Flow -> Shared -> Prop} (Inv : Nat -> Shared -> Prop) (n : Nat) (h : Inv n s)
  (turn : ∀ n s₁ E', Inv n s₁ -> wpAny (model prog w) A (isTrue test env (eval test env)) (fun b s₂ => if b then wpAny (model prog w) A (execs body env) (turnQ prog w A env rest Q E fun s₃ => ∃ m, m < n /\ Inv m s₃) E' s₂
   else wpAny (model prog w) A (execs orelse env) (onw prog w A env rest Q E) E' s₂) E' s₁) :
  wpAny (model prog w) A (execs (.While test body orelse pos :: rest) env) Q E s := by
 refine x_cons (wpAny_While (codeAny_whileLoop Inv (fun n s₁ hI => ?_) n h))
 refine wpAny_mono (turn n s₁ _ hI) (fun b s₂ h₂ => ?_) fun _ _ z => z
 cases b with
 | true =>
  rw [if_pos rfl] at h₂ ⊢
  refine wpAny_mono h₂ (fun f s₃ h₃ => ?_) fun _ _ z => z
  cases f <;> exact h₃
 | false =>
  rw [if_neg (by decide)] at h₂ ⊢
  refine wpAny_mono h₂ (fun f s₃ h₃ => ?_) fun _ _ z => z
  cases f <;> exact h₃
theorem x_whileN {test : Expr} {body rest : List Stmt} {pos : Pos} {Q : Flow -> Shared -> Prop} (Inv : Nat -> Shared -> Prop) (n : Nat) (h : Inv 0 s)
  (tst : ∀ i s₁, i <= n -> Inv i s₁ -> Tst prog w A env s₁.heap test (decide (i < n)))
  (stab : ∀ i s₁ s₂, Inv i s₁ -> Gw s₁ s₂ -> Inv i s₂)
  (turn : ∀ i s₁ E', i < n -> Inv i s₁ -> wpAny (model prog w) A (execs body env) (turnQ prog w A env rest Q E fun s₃ => Inv (i + 1) s₃) E' s₁)
  (fin : ∀ s₁, Inv n s₁ -> wpAny (model prog w) A (execs rest env) Q E s₁) :
  wpAny (model prog w) A (execs (.While test body [] pos :: rest) env) Q E s := by
 refine x_while (fun k s₁ => ∃ i, i <= n /\ k = n - i /\ Inv i s₁) n ⟨0, Nat.zero_le _, by simp, h⟩ ?_
 rintro k s₁ E' ⟨i, hi, rfl, hI⟩
 refine tst i s₁ hi hI s₁ _ _ (HK.refl _) fun s₂ g => ?_
 have hI₂ := stab i s₁ s₂ hI g
 by_cases hlt : i < n
 ·rw [decide_eq_true hlt, if_pos rfl]
  refine wpAny_mono (turn i s₂ E' hlt hI₂) (fun f s₃ h₃ => ?_) fun _ _ z => z
  cases f with
  | next => exact ⟨n - (i + 1), by lia, i + 1, hlt, rfl, h₃⟩
  | cont => exact ⟨n - (i + 1), by lia, i + 1, hlt, rfl, h₃⟩
  | brk => exact h₃
  | ret v => exact h₃
 ·rw [decide_eq_false hlt, if_neg (by decide)]
  have : i = n := by lia
  subst this
  exact wpAny_execs_nil (fin s₂ hI₂)
theorem Ev.itemB {value slice : Expr} {pos : Pos} {l : List UInt8} {i : Int} (x : Ev prog w A env X h value (.bytes l.toArray)) (y : Ev prog w A env X h slice (.int i)) (h0 : 0 <= i) (h1 : i < l.length) (hf : l.length <= 1099511627776)
  (hs : ∀ o i, subscripted slice false o i = operate [o, i] (getItem o i) := by intro _ _; rfl) : Ev prog w A env X h (.Subscript value slice pos) (.int (l.getD i.toNat 0).toNat) :=
 Ev.sub' x y fun s Q E a b k ra rb hq => by
  obtain ⟨t, rfl⟩ := ra
  obtain ⟨u, rfl⟩ := rb
  exact tail_any (PySem.W.typeIs_bytes s _ t) PySem.W.FB.slot_bytes_getitem.lookup (PySem.W.getItem_bytes hf h0 h1 (hq _ _ (Gw.tok s) ⟨_, rfl⟩)) (hs _ _)
theorem c_bytes (hh : A.handled = none) {ns : List Int} (hr : ∀ n ∈ ns, 0 <= n /\ n < 256) (hz : ns.length <= sizeLine) : Calls prog w A X h (.type "bytes") [.list (ns.map .int)] (.bytes (byteArr ns)) := by
 intro s Q E vs k r hq
 obtain ⟨v, rfl, r1⟩ := r.one
 unfold Rep at r1
 obtain ⟨a, n, vs, rfl, ha, ho, rl⟩ := r1
 have hi := ints_are rl
 have hl : s.heap.IsList a vs.toList.toArray := by rw [arr_list]; exact ⟨_, ho, rfl, n, rfl⟩
 exact call_bytes_ints hl hi hr (by rw [hi.length]; exact hz) hh fun h' t k hk => hq _ _ (Gw.heap hk k) ⟨_, rfl⟩
theorem c_bytesW (hh : A.handled = none) {ns : List Int} (L : Lw X h a (ns.map .int)) (hr : ∀ n ∈ ns, 0 <= n /\ n < 256) (hz : ns.length <= sizeLine) : Calls prog w A X h (.type "bytes") [.obj (.ref a)] (.bytes (byteArr ns)) := by
 intro s Q E vs k r hq
 obtain ⟨v, rfl, r1⟩ := r.one
 obtain rfl : v = .ref a := r1
 obtain ⟨vs, hL, rl⟩ := L.hk k
 have hi := ints_are rl
 have hl : s.heap.IsList a vs.toList.toArray := by rw [arr_list]; exact hL
 exact call_bytes_ints hl hi hr (by rw [hi.length]; exact hz) hh fun h' t k hk => hq _ _ (Gw.heap hk k) ⟨_, rfl⟩
end
theorem Fm.base {env : Env} {X M : List Addr} {h₀ h₁ h : Heap} {vals : List (Option PV)} (F : Fm env X M h₁ h vals) (k : HK h₀ h₁) : Fm env X M h₀ h vals :=
 {F with
  keep := fun b o hb e => F.keep b o hb (k b o e)
  fresh := fun a ha => by
   cases q : h₀.get? a with
   | none => rfl
   | some o => have := k a o q; rw [F.fresh a ha] at this; cases this }
section
variable {prog : Program} {w : World} {A : Around} {s : Shared} {R : Result -> Shared -> Prop}
theorem enterW {a : Addr} {fd : FuncData} {body : List Stmt} {args : Args} {X : List Addr} {ps : List PV} (names : List Str)
  (hroom : A.depth < recursionLimit) (ho : s.heap.get? a = some (fnObj fd)) (hlim : s.heap.NoLimit) (hcd : s.heap.CodeRec fd.code fd.qualname)
  (hbody : fd.body = .stmts body) (hclo : fd.closure = [])
  (hbind : ∀ (Q : List (Str × Value) -> Shared -> Prop) (E : Value -> Shared -> Prop), (∀ binds sb, Gw s sb -> binds.map (·.1) = names -> RepL X sb.heap ps (binds.map (·.2)) -> Q binds sb) -> wpAny (model prog w) A.in1 (bindArgs fd args) Q E s)
  (hnm0 : (fd.scope.names.take names.length).map (·.1) = names) (hkd0 : ∀ x ∈ fd.scope.names.take names.length, x.2 = .local \/ x.2 = .cell) (hnd : (fd.scope.names.map (·.1)).Nodup)
  (xb : XB s.heap X)
  (h : ∀ s₁ env, env.scope = fd.scope -> env.globals = fd.globals -> env.builtins = fd.builtins -> (∃ L, env = callEnvC fd L a) -> Gw s s₁ -> Fm env (own env ++ X) [] s.heap s₁.heap (startVals ps fd.scope.names.length) ->
   wpAny (model prog w) (A.deeper env) (execs body env) (fun f s' => R (.ok (.ret (match f with | .ret v => v | _ => .none))) s') (fun _ _ => False) s₁)
  (hco : fd.scope.isCoroutine = false := by rfl) (hgen : fd.scope.isGenerator = false := by rfl) (hk : fd.scope.kind = .function := by rfl) :
  codeAny (model prog w) A (.call (.ref a) args) R s := by
 refine codeAny_call_function hroom ho rfl hco hgen hbody hcd (hbind _ _ fun binds sb gb hnms r => ?_)
 rw [hclo]
 have xb := xb.hk gb.hk
 have hln : binds.length = names.length := by rw [<- hnms, List.length_map]
 have hnm : (fd.scope.names.take binds.length).map (·.1) = binds.map (·.1) := by rw [hln, hnms]; exact hnm0
 have hkd : ∀ x ∈ fd.scope.names.take binds.length, x.2 = .local \/ x.2 = .cell := by rw [hln]; exact hkd0
 have hlen : binds.length = ps.length := by have := r.length; simpa using this
 have hndb : (binds.map (·.1)).Nodup := by rw [<- hnm]; exact (List.Nodup.sublist (List.Sublist.map _ (List.take_sublist _ _)) hnd)
 have kinds : ∀ x ∈ binds, ∃ k, (x.1, k) ∈ fd.scope.names.take binds.length /\ fd.scope.names.lookup x.1 = some k /\ (k = .local \/ k = .cell) := fun x hx => by
  have : x.1 ∈ (fd.scope.names.take binds.length).map (·.1) := by rw [hnm]; exact List.mem_map_of_mem (f := (·.1)) hx
  obtain ⟨⟨y, k⟩, hy, e⟩ := List.mem_map.mp this
  dsimp only at e; subst e
  obtain ⟨i, hi⟩ := List.mem_iff_getElem?.mp (List.mem_of_mem_take hy)
  exact ⟨k, hy, lookup_of_nodup hnd hi, hkd _ hy⟩
 refine wpAny_newFunctionEnv_cells hk (fun x hx => ?_) fun env he s₁ C => ?_
 ·obtain ⟨k, hm, hl, hk' | hk'⟩ := kinds x hx
  ·exact .inl (hk' ▸ hl)
  ·refine .inr ⟨hk' ▸ hl, ?_⟩
   obtain ⟨c, hc⟩ := cellsFrom_mem fd.scope.names (sb.heap.objs.size + 1) [] x.1 (List.mem_of_mem_take (hk' ▸ hm))
   exact lookup_some_of_mem hc
 ·obtain ⟨h₁, tk, e₁, keep⟩ := C.done
  have g : Gw sb s₁ := ⟨⟨h₁, tk, e₁⟩, by rw [e₁]; exact keep⟩
  have henv : callEnvC fd sb.heap.objs.size a = env := he.symm
  have eL : env.locals = sb.heap.objs.size := by rw [<- henv]; rfl
  have eS : env.scope = fd.scope := by rw [<- henv]; rfl
  have eC : env.cells = cellsFrom (sb.heap.objs.size + 1) fd.scope.names [] := by rw [<- henv]; rfl
  have fresh : ∀ x ∈ own env, sb.heap.get? x = none := fun x hx => by
   have hge : sb.heap.objs.size <= x := by
    rcases List.mem_cons.mp hx with e | hx
    ·rw [e, eL]; exact Nat.le_refl _
    ·obtain ⟨⟨n, c⟩, hm, rfl⟩ := List.mem_map.mp hx
     exact Nat.le_of_lt (eL ▸ C.above n c hm)
   cases q : sb.heap.get? x with
   | none => rfl
   | some o => exact absurd (Heap.lt_size q) (Nat.not_lt.mpr hge)
  have kd : ∀ x, env.kindOf x = fd.scope.names.lookup x := fun x => by show env.scope.names.lookup x = _; rw [eS]
  have F : Fm env (own env ++ X) [] sb.heap s₁.heap (startVals ps fd.scope.names.length) := {
   kind := by rw [eS]; exact hk
   nodup := by rw [eS]; exact hnd
   rd := fun i x k pv e1 e2 => by
    rw [eS] at e1
    have hi : i < ps.length := by
     apply Classical.byContradiction
     intro hge
     unfold startVals at e2
     rw [List.getElem?_append_right (by simpa using hge)] at e2
     rw [List.getElem?_replicate] at e2
     split at e2 <;> simp at e2
    have e3 : ps[i]? = some pv := by
     unfold startVals at e2
     rw [List.getElem?_append_left (by simpa using hi), List.getElem?_map] at e2
     cases z : ps[i]? with
     | none => rw [z] at e2; simp at e2
     | some q => rw [z] at e2; simp at e2; rw [e2]
    have et : (fd.scope.names.take binds.length)[i]? = some (x, k) := by rw [List.getElem?_take, if_pos (by lia)]; exact e1
    have en : (binds.map (·.1))[i]? = some x := by rw [<- hnm, List.getElem?_map, et]; rfl
    rw [List.getElem?_map] at en
    cases hb : binds[i]? with
    | none => rw [hb] at en; simp at en
    | some b =>
     obtain ⟨y, v⟩ := b
     rw [hb] at en
     have ey : y = x := by simpa using en
     subst ey
     have hmem := List.mem_of_getElem? hb
     have hl : env.kindOf y = some k := by rw [kd]; exact lookup_of_nodup hnd e1
     have rv : Rep X sb.heap pv v := r.mem e3 (by rw [List.getElem?_map, hb]; rfl)
     have rv' : Rep (own env ++ X) s₁.heap pv v := (Rep.more (fun a ha => (List.mem_append.mp ha).elim (fun z => .inr (fresh a z)) .inl) rv).hk g.hk
     refine ⟨v, ?_, rv'⟩
     rcases hkd _ (List.mem_of_getElem? et) with hk' | hk'
     ·dsimp only at hk'; subst hk'
      exact .inl ⟨rfl, _, C.toInCall.ns, bindL_at hndb hmem hl⟩
     ·dsimp only at hk'; subst hk'
      obtain ⟨c, hc⟩ := cellsFrom_mem fd.scope.names (sb.heap.objs.size + 1) [] y (List.mem_of_getElem? e1)
      obtain ⟨c', hc'⟩ := Option.isSome_iff_exists.mp (lookup_some_of_mem hc)
      have hc'' : env.cells.lookup y = some c' := by rw [eC]; exact hc'
      have cc := C.cell y c' hc''
      rw [bindC_at hndb hmem hl] at cc
      exact .inr ⟨rfl, c', hc'', cc⟩
   xb := fun x hx => by
    rcases List.mem_append.mp hx with hx | hx
    ·rcases List.mem_cons.mp hx with e | hx
     ·obtain ⟨o, _, _, ho, _⟩ := C.toInCall.ns; exact ⟨o, e ▸ ho⟩
     ·obtain ⟨⟨n, c⟩, hm, rfl⟩ := List.mem_map.mp hx
      have hl : env.cells.lookup n = some c := lookup_of_mem_nodup (by rw [eC]; exact cellsFrom_nodup _ _ _ hnd (by simp) (by simp)) hm
      obtain ⟨o, ho, _⟩ := C.cell n c hl
      exact ⟨o, ho⟩
    ·obtain ⟨o, ho⟩ := xb x hx; exact ⟨o, g.hk x o ho⟩
   ns := ⟨_, C.toInCall.ns⟩
   cl := fun x e => by
    rw [kd] at e
    have hm : (x, NameKind.cell) ∈ fd.scope.names := mem_of_lookup e
    obtain ⟨c, hc⟩ := cellsFrom_mem fd.scope.names (sb.heap.objs.size + 1) [] x hm
    obtain ⟨c', hc'⟩ := Option.isSome_iff_exists.mp (lookup_some_of_mem hc)
    exact ⟨c', _, by rw [eC]; exact hc', C.cell x c' (by rw [eC]; exact hc')⟩
   cs := fun x c e => ⟨_, C.cell x c e⟩
   apart := C.apart
   lc := fun x c e => Nat.ne_of_gt (eL ▸ C.above x c (mem_of_lookup e))
   ox := fun x hx => List.mem_append_left _ hx
   keep := fun b o _ e => g.hk b o e
   fresh := fresh }
  refine ⟨(hlim.keeps gb.hk).keeps g.hk, codeAny_func ?_⟩
  exact wpAny_mono (h s₁ env eS (by rw [<- henv]; rfl) (by rw [<- henv]; rfl) ⟨_, henv.symm⟩ (gb.trans g) (F.base gb.hk)) (fun f s' q => q) fun _ _ q => q.elim
end
section
variable {prog : Program} {w : World} {A : Around} {E : Value -> Shared -> Prop} {s : Shared} {X M : List Addr} {env : Env} {h₀ h h' : Heap} {vals : List (Option PV)} {a : Addr} {ps : List PV}
theorem Tst.not {e : Expr} {pos : Pos} {b : Bool} (x : Tst prog w A env h e b) : Tst prog w A env h (.UnaryOp .Not e pos) (!b) :=
 fun s Q E k hq => wpAny_isTrue_Not (x s _ _ k fun s' g => hq s' g)
theorem Tst.or_nil {pos : Pos} : Tst prog w A env h (.BoolOp .Or [] pos) false := fun s _ _ _ hq => isTrue_or_nil (hq s (Gw.refl s))
theorem Tst.or_true {e : Expr} {rest : List Expr} {pos : Pos} (x : Tst prog w A env h e true) : Tst prog w A env h (.BoolOp .Or (e :: rest) pos) true :=
 fun s Q E k hq => isTrue_or (x s _ _ k fun s' g => by rw [if_pos rfl]; exact hq s' g)
theorem Tst.or_false {e : Expr} {rest : List Expr} {pos : Pos} {b : Bool} (x : Tst prog w A env h e false) (y : Tst prog w A env h (.BoolOp .Or rest pos) b) : Tst prog w A env h (.BoolOp .Or (e :: rest) pos) b :=
 fun s Q E k hq => isTrue_or (x s _ _ k fun s' g => by rw [if_neg (by decide)]; exact y s' _ _ (k.trans g.hk) fun s'' g' => hq s'' (g.trans g'))
theorem Tst.hcast {e : Expr} {b c : Bool} (x : Tst prog w A env h e b) (hb : b = c) : Tst prog w A env h e c := hb ▸ x
theorem Tst.val {e : Expr} {p : PV} {b : Bool} (x : Ev prog w A env X h e p)
  (t : ∀ (s : Shared) (Q : Bool -> Shared -> Prop) (E : Value -> Shared -> Prop) (v : Value), HK h s.heap -> Rep X s.heap p v -> (∀ s', Gw s s' -> Q b s') -> wpAny (model prog w) A (truthy v) Q E s)
  (he : ∀ whole, isTrue e env whole = (do let v <- whole; standAt e.pos; holding [v] (truthy v)) := by intro _; rfl) : Tst prog w A env h e b :=
 fun s Q E k hq => wpAny_isTrue_value (x s _ _ k fun v s₁ g r => t s₁ _ _ v (k.trans g.hk) r fun s' g' => hq s' (g.trans g')) (he _)
theorem Tst.vbool {e : Expr} {b : Bool} (x : Ev prog w A env X h e (.bool b)) (he : ∀ whole, isTrue e env whole = (do let v <- whole; standAt e.pos; holding [v] (truthy v)) := by intro _; rfl) : Tst prog w A env h e b :=
 Tst.val x (fun s _ _ v _ r hq => by unfold Rep at r; subst r; exact wpAny_truthy_bool (hq s (Gw.refl s))) he
theorem Tst.vnone {e : Expr} (x : Ev prog w A env X h e .none) (he : ∀ whole, isTrue e env whole = (do let v <- whole; standAt e.pos; holding [v] (truthy v)) := by intro _; rfl) : Tst prog w A env h e false :=
 Tst.val x (fun s _ _ v _ r hq => by unfold Rep at r; subst r; exact truthy_none (hq s (Gw.refl s))) he
theorem Tst.vlist {e : Expr} {xs : List PV} (x : Ev prog w A env X h e (.list xs)) (hf : xs.length <= 2 ^ 40) (he : ∀ whole, isTrue e env whole = (do let v <- whole; standAt e.pos; holding [v] (truthy v)) := by intro _; rfl) : Tst prog w A env h e (!xs.isEmpty) :=
 Tst.val x (fun s Q E v _ r hq => by
  unfold Rep at r
  obtain ⟨a, n, vs, rfl, ha, ho, rl⟩ := r
  have h1 : vs.size = xs.length := by simpa using rl.length
  refine wpAny_truthy_list (items := vs) ⟨_, ho, rfl, n, rfl⟩ (by lia) ?_
  have e1 : (!vs.isEmpty) = !xs.isEmpty := by
   unfold Array.isEmpty
   rw [h1]; cases xs <;> rfl
  rw [e1]; exact hq _ (Gw.toks s _)) he
theorem Tst.vlistW {e : Expr} (L : Lw X h a ps) (x : Ev prog w A env X h e (.obj (.ref a))) (hf : ps.length <= 2 ^ 40) (he : ∀ whole, isTrue e env whole = (do let v <- whole; standAt e.pos; holding [v] (truthy v)) := by intro _; rfl) : Tst prog w A env h e (!ps.isEmpty) :=
 Tst.val x (fun s Q E v k r hq => by
  unfold Rep at r
  subst r
  obtain ⟨vs, hL, rl⟩ := L.hk k
  have h1 : vs.size = ps.length := by simpa using rl.length
  refine wpAny_truthy_list (items := vs) hL (by lia) ?_
  have e1 : (!vs.isEmpty) = !ps.isEmpty := by
   unfold Array.isEmpty
   rw [h1]; cases ps <;> rfl
  rw [e1]; exact hq _ (Gw.toks s _)) he
theorem Tst.is {l r : Expr} {pos : Pos} {u v : Value} (x : Ev prog w A env X h l (.obj u)) (y : Ev prog w A env X h r (.obj v)) (hp : plainIs u v = true) (hm : behindInMarks .Is r = false := by rfl) : Tst prog w A env h (.Compare l [.Is] [r] pos) (u == v) :=
 Tst.cmp x y (fun s Q E a b _ ra rb hq => by obtain rfl : a = u := ra; obtain rfl : b = v := rb; exact wpAny_is_plain hp (hq s (Gw.refl s))) hm
theorem Tst.isNone {l : Expr} {pos : Pos} {k : Nat} {kp : Pos} {p : PV} {b : Bool} (x : Ev prog w A env X h l p) (hb : ∀ X h v, Rep X h p v -> (v == .none) = b) (hm : behindInMarks .Is (.Constant .none k kp) = false := by rfl) : Tst prog w A env h (.Compare l [.Is] [.Constant .none k kp] pos) b :=
 Tst.cmp x (Ev.cnone (X := X)) (fun s Q E u v _ ra rb hq => by
  unfold Rep at rb; subst rb
  have := hb _ _ _ ra
  exact is_none_gen (by rw [this]; exact hq s (Gw.refl s))) hm
theorem Tst.isNotNone {l : Expr} {pos : Pos} {k : Nat} {kp : Pos} {p : PV} {b : Bool} (x : Ev prog w A env X h l p) (hb : ∀ X h v, Rep X h p v -> (v == .none) = b) (hm : behindInMarks .IsNot (.Constant .none k kp) = false := by rfl) : Tst prog w A env h (.Compare l [.IsNot] [.Constant .none k kp] pos) (!b) :=
 Tst.cmp x (Ev.cnone (X := X)) (fun s Q E u v _ ra rb hq => by
  unfold Rep at rb; subst rb
  have := hb _ _ _ ra
  exact isnot_none_gen (by rw [this]; exact hq s (Gw.refl s))) hm
theorem rn_none : ∀ (X : List Addr) (h : Heap) (v : Value), Rep X h .none v -> (v == .none) = true := fun _ _ v r => by unfold Rep at r; subst r; rfl
theorem rn_bool {b : Bool} : ∀ (X : List Addr) (h : Heap) (v : Value), Rep X h (.bool b) v -> (v == .none) = false := fun _ _ v r => by unfold Rep at r; subst r; exact beq_eq_false_iff_ne.mpr (by intro z; cases z)
theorem rn_ref {a : Addr} : ∀ (X : List Addr) (h : Heap) (v : Value), Rep X h (.obj (.ref a)) v -> (v == .none) = false := fun _ _ v r => by unfold Rep at r; subst r; exact beq_eq_false_iff_ne.mpr (by intro z; cases z)
theorem c_type {p : PV} {T : String} (hT : ∀ (s : Shared) v, HK h s.heap -> Rep X s.heap p v -> s.TypeIs v T) (hn : (Value.type T == Value.type "builtin_function_or_method") = false := by decide +kernel) : Calls prog w A X h (.type "type") [p] (.obj (.type T)) := by
 intro s Q E vs k r hq
 obtain ⟨v, rfl, r1⟩ := r.one
 exact call_type_of (hT s v k r1) hn (hq _ _ (Gw.refl s) rfl)
theorem ty_bytes {b : Array UInt8} : ∀ (s : Shared) v, HK h s.heap -> Rep X s.heap (.bytes b) v -> s.TypeIs v "bytes" := fun s v _ r => by unfold Rep at r; obtain ⟨t, rfl⟩ := r; exact PySem.W.typeIs_bytes s _ _
theorem ty_bool {b : Bool} : ∀ (s : Shared) v, HK h s.heap -> Rep X s.heap (.bool b) v -> s.TypeIs v "bool" := fun s v _ r => by unfold Rep at r; subst r; rfl
end
section
open PySem.W PySem.NumText
theorem hx_digit : ∀ p : Fin 16, digit? (hexd p.1) = some p.1 /\ blank (hexd p.1) = false /\ hexd p.1 ≠ 95 /\ hexd p.1 ≠ 45 /\ hexd p.1 ≠ 43 /\ hexd p.1 ≠ 0 /\ hexd p.1 < 128 := by decide +kernel
theorem hx_parts : ∀ p q : Fin 16, sign ([hexd p.1, hexd q.1].dropWhile blank) = (false, [hexd p.1, hexd q.1]) /\ based 16 [hexd p.1, hexd q.1] = (16, false, [hexd p.1, hexd q.1]) /\ digits? 16 (([hexd p.1, hexd q.1].reverse.dropWhile blank).reverse) = some #[p.1, q.1] /\
  [hexd p.1, hexd q.1].takeWhile (· != 0) = [hexd p.1, hexd q.1] := by decide +kernel
theorem hx_read (p q : Fin 16) : (int_private% "readNumeral") 0 16 [hexd p.1, hexd q.1] = (int_private% "Numeral.value") ((p.1 * 16 + q.1 : Nat) : Int) := by
 obtain ⟨h1, h2, h3, _⟩ := hx_parts p q
 rw [readNumeral_eq, h1]
 dsimp only
 rw [h2]
 dsimp only
 rw [h3]
 unfold judge
 dsimp only
 show (int_private% "Numeral.value") ((((0 * 16 + p.1) * 16 + q.1 : Nat)) : Int) = _
 congr 2
 lia
theorem wp_text16 {M : Model} {A : Around} {E : Value -> Shared -> Prop} {s : Shared} {Q : Value -> Shared -> Prop} {v : Value} {text : List Nat} {n : Int}
  (hs : (text.takeWhile (· != 0)).length <= 640) (hr : (int_private% "readNumeral") 0 16 (text.takeWhile (· != 0)) = (int_private% "Numeral.value") n)
  (ha : ((text.takeWhile (· != 0)).length == text.length) = true) (h : Q (.int n s.toks) { s with toks := s.toks + 1 }) :
  wpAny M A ((int_private% "intFromText") v text 16) Q E s := by
 obtain ⟨hp, g, d, tk, os⟩ := s
 repeat (any_goals (first
  | assumption
  | (with_reducible refine wpAny_ite_true (decide_eq_true hs) ?_)
  | (with_reducible refine wpAny_ite_true (decide_eq_true ha) ?_)
  | wp_step))
 all_goals (try rw [hr])
 all_goals (try dsimp only)
 repeat (any_goals (first
  | assumption
  | (with_reducible refine wpAny_ite_true (decide_eq_true hs) ?_)
  | (with_reducible refine wpAny_ite_true (decide_eq_true ha) ?_)
  | wp_step))
theorem wp_text16' {M : Model} {A : Around} {E : Value -> Shared -> Prop} {s : Shared} {Q : Value -> Shared -> Prop} {v : Value} {text l : List Nat} {n : Int} {b : Nat} (hb : b = 16) (hl : text = l) (ht : l.takeWhile (· != 0) = l) (hz : l.length <= 640)
  (hr : (int_private% "readNumeral") 0 16 l = (int_private% "Numeral.value") n) (h : Q (.int n s.toks) { s with toks := s.toks + 1 }) :
  wpAny M A ((int_private% "intFromText") v text b) Q E s := by
 subst hb hl
 exact wp_text16 (by rw [ht]; exact hz) (by rw [ht]; exact hr) (by rw [ht]; exact beq_self_eq_true _) h
set_option maxHeartbeats 4000000 in
theorem meets_int16 (p q : Fin 16) (u u' : Tok) : Meets (Builtin.«int.__new__» ⟨[.type "int", .str (txt [hexd p.1, hexd q.1]) u, .int 16 u'], []⟩) (Made.int ((p.1 * 16 + q.1 : Nat) : Int)).spec :=
 Meets.of_wp fun prog w A R s hs => by
  obtain ⟨hp, g, d, tk, os⟩ := s
  have f1 := F.conv_sub_int
  have f2 := F.madeHere_int
  have f6 : typeOf (.str (txt [hexd p.1, hexd q.1]) u) = pure (.type "str") := rfl
  have htk := (hx_parts p q).2.2.2
  have hr := hx_read p q
  have hall : (txt [hexd p.1, hexd q.1]).cps.all (· < 128) = true := by
   have a := (hx_digit p).2.2.2.2.2.2
   have b := (hx_digit q).2.2.2.2.2.2
   simp [a, b]
  have ht : (if (txt [hexd p.1, hexd q.1]).cps.all (· < 128) then (txt [hexd p.1, hexd q.1]).cps.toList else Unicode.numberText (txt [hexd p.1, hexd q.1]).cps.toList) = [hexd p.1, hexd q.1] := by rw [if_pos hall]
  have hk := KIN.Hid.mk (And.intro ht (And.intro htk hr))
  clear ht htk hr hall
  repeat (any_goals (first
   | assumption
   | ((with_reducible show wpAny _ _ ((int_private% "intFromText") _ _ _) _ _ _); refine wp_text16' rfl hk.out.1 hk.out.2.1 (Nat.le_of_ble_eq_true rfl) hk.out.2.2 ?_)
   | wp_step))
  all_goals first | exact ⟨_, rfl, hs⟩ | skip
end
noncomputable def b64c (n : Nat) : Nat := b64s.getD n 0
noncomputable def b64L : List UInt8 := b64s.map fun n => n.toUInt8
theorem b64_get {n : Nat} (h : n < 64) : (b64L.getD n 0).toNat = b64c n := by
 have : ∀ n : Fin 64, (b64L.getD n.1 0).toNat = b64c n.1 := by decide +kernel
 exact this ⟨n, h⟩
theorem b64_lt (n : Nat) : b64c n < 256 := by
 by_cases h : n < 64
 ·have : ∀ n : Fin 64, b64c n.1 < 256 := by decide +kernel
  exact this ⟨n, h⟩
 ·unfold b64c; rw [List.getD_eq_getElem?_getD, List.getElem?_eq_none (by show 64 <= n; lia)]; decide
noncomputable def eLb : Nat -> Nat
 | 0 => 0 | 1 => 2 | 2 => 4 | _ => 0
noncomputable def eN : Nat -> Nat
 | 0 => 1 | 1 => 1 | _ => 2
noncomputable def eLc (os : List Nat) : Nat -> Nat
 | 0 => 0
 | i + 1 => (eLc os i * 256 + os.getD i 0) % 65536
noncomputable def eTurn (os : List Nat) (i : Nat) (j : Nat) : Nat := b64c (eLc os (i + 1) / 2 ^ (eLb i + 8 - 6 * (j + 1)) % 64)
noncomputable def eTurns (os : List Nat) (i j : Nat) : List Nat := (List.range j).map (eTurn os i)
noncomputable def eOut (os : List Nat) : Nat -> List Nat
 | 0 => []
 | i + 1 => eOut os i ++ eTurns os i (eN i)
noncomputable def eTail (os : List Nat) : List Nat := if eLb os.length = 2 then [b64c (eLc os os.length % 4 * 16), 61, 61] else if eLb os.length = 4 then [b64c (eLc os os.length % 16 * 4), 61] else []
noncomputable def eAll (os : List Nat) : List Nat := eOut os os.length ++ eTail os
theorem and_disj {a b : Nat} (hb : b < 256) : (a * 256) &&& b = 0 := by
 apply Nat.eq_of_testBit_eq
 intro i
 rw [Nat.testBit_and, Nat.zero_testBit]
 by_cases hi : i < 8
 ·have : (a * 256).testBit i = false := by
   rw [show a * 256 = 2 ^ 8 * a by lia, Nat.testBit_two_pow_mul]
   simp; lia
  rw [this, Bool.false_and]
 ·have : b.testBit i = false := Nat.testBit_lt_two_pow (Nat.lt_of_lt_of_le hb (by have := Nat.pow_le_pow_right (show 0 < 2 by decide) (show 8 <= i by lia); simpa using this))
  rw [this, Bool.and_false]
theorem bor_nat {a b : Nat} (hb : b < 256) : Builtin.bitOr ((a : Int) * 2 ^ 8) b = ((a * 256 + b : Nat) : Int) := by
 rw [bitOr_and, bitAnd_pp (by lia) (by lia)]
 have e : ((a : Int) * 2 ^ 8).toNat = a * 256 := by lia
 rw [e, Int.toNat_natCast, and_disj hb]
 lia
theorem band_nat {a : Nat} (k : Nat) : Builtin.bitAnd (a : Int) ((2 ^ k - 1 : Nat) : Int) = ((a % 2 ^ k : Nat) : Int) := by
 rw [bitAnd_pp (by lia) (by lia), Int.toNat_natCast, Int.toNat_natCast, Nat.and_two_pow_sub_one_eq_mod]
theorem eLc_lt (os : List Nat) : ∀ i, eLc os i < 65536
 | 0 => by show 0 < 65536; decide
 | i + 1 => Nat.mod_lt _ (by decide)
theorem eOut_lt (os : List Nat) : ∀ i, ∀ x ∈ eOut os i, x < 256
 | 0, x, hx => by cases hx
 | i + 1, x, hx => by
  rcases List.mem_append.mp hx with hx | hx
  ·exact eOut_lt os i x hx
  ·obtain ⟨j, _, rfl⟩ := List.mem_map.mp hx; exact b64_lt _
theorem eAll_lt (os : List Nat) : ∀ x ∈ eAll os, x < 256 := by
 intro x hx
 rcases List.mem_append.mp hx with hx | hx
 ·exact eOut_lt os _ x hx
 ·unfold eTail at hx
  split at hx
  ·simp only [List.mem_cons, List.not_mem_nil, or_false] at hx
   rcases hx with rfl | rfl | rfl
   ·exact b64_lt _
   ·decide
   ·decide
  ·split at hx
   ·simp only [List.mem_cons, List.not_mem_nil, or_false] at hx
    rcases hx with rfl | rfl
    ·exact b64_lt _
    ·decide
   ·cases hx
theorem eAll_len {os : List Nat} (h1 : 1 <= os.length) (h3 : os.length <= 3) : (eAll os).length = 4 := by
 have h : os.length = 1 \/ os.length = 2 \/ os.length = 3 := by lia
 unfold eAll eTail
 rcases h with e | e | e <;> rw [e] <;> rfl
noncomputable abbrev byts (cs : List Nat) : Array UInt8 := byteArr (cs.map fun (n : Nat) => (n : Int))
theorem byts_list (cs : List Nat) : byts cs = (cs.map fun n => n.toUInt8).toArray := by
 unfold byts byteArr
 rw [List.map_map]; rfl
noncomputable abbrev byteVals (cs : List Nat) : List PV := cs.map fun (n : Nat) => PV.int n
theorem byts_items {cs : List Nat} (h : ∀ x ∈ cs, x < 256) : ((byts cs).toList.map fun c => PV.int (c.toNat : Int)) = byteVals cs := by
 rw [byts_list, List.map_map]
 refine List.map_congr_left fun x hx => ?_
 have := h x hx
 show PV.int _ = PV.int _
 congr 2
 show x.toUInt8.toNat = x
 rw [show x.toUInt8 = UInt8.ofNat x from rfl, UInt8.toNat_ofNat']
 lia
theorem nd_buffer : ((fd_buffer pw).scope.names.map (·.1)).Nodup := by decide +kernel
theorem kd_buffer : ∀ x ∈ (fd_buffer pw).scope.names.take 1, x.2 = .local \/ x.2 = .cell := by decide +kernel
theorem nd_truth : ((fd_truth pw).scope.names.map (·.1)).Nodup := by decide +kernel
theorem kd_truth : ∀ x ∈ (fd_truth pw).scope.names.take 1, x.2 = .local \/ x.2 = .cell := by decide +kernel
theorem nd_b2a : ((fd_b2a pw).scope.names.map (·.1)).Nodup := by decide +kernel
theorem kd_b2a : ∀ x ∈ (fd_b2a pw).scope.names.take 2, x.2 = .local \/ x.2 = .cell := by decide +kernel
section
variable {w : World} {A : Around} {X : List Addr} {h : Heap}
theorem c_buffer (G : Grd pw h) (hd : A.depth + 20 < recursionLimit) (xb : XB h X) (b : Array UInt8) : Calls pw w A X h (.ref 99) [.bytes b] (.bytes b) := by
 intro s Q E vs k r hq
 obtain ⟨v, rfl, r1⟩ := r.one
 refine wpAny_call (enter (fd := fd_buffer pw) (body := bodyOf (topS pw 22)) (binds := [("data", v)]) (ps := [.bytes b]) (X := X) (by lia) (k _ _ G.buffer.1) (G.lim.keeps k) (G.buffer.2.keeps k) rfl rfl rfl rfl kd_buffer nd_buffer (xb.hk k) r ?_)
 intro s₁ env henv g F
 have G₁ : Grd pw s₁.heap := G.hk (k.trans g.hk)
 have hn : env.scope.names = (fd_buffer pw).scope.names := by rw [henv]; rfl
 have eg : env.globals = mainGlobals := by rw [henv]; rfl
 have eb : env.builtins = builtinsNs := by rw [henv]; rfl
 replace F : Fm env (own env ++ X) [] s.heap s₁.heap [some (.bytes b), none, none, none, none, none] := F
 refine x_assign F 1 (nm hn rfl) (.inl rfl) (Ev.call (Ev.glob F.toRd 2 (nm hn rfl) G₁.g_type eg eb) (EvL.cons (Ev.name F.toRd 0 (nm hn rfl) rfl) EvL.nil) trivial (c_type ty_bytes)) fun s₂ m₂ F₂ => ?_
 have G₂ : Grd pw s₂.heap := G.hk (k.trans F₂.keep.hk)
 refine x_if (Tst.is (Ev.name F₂.toRd 1 (nm hn rfl) rfl) (Ev.glob F₂.toRd 3 (nm hn rfl) G₂.g_bytes eg eb) rfl) fun s₃ g₃ => ?_
 rw [show (Value.type "bytes" == Value.type "bytes") = true from beq_self_eq_true _, if_pos rfl]
 have F₃ := F₂.hk g₃.hk
 refine x_return (Ev.name F₃.toRd 0 (nm hn rfl) rfl) ?_
 intro v s' g' rv
 exact hq v s' ((((g.mv _).trans m₂).trans ((g₃.trans g').mv _)).out (F₃.hk g'.hk)) (rv.less fun a ha => List.mem_append_right _ ha)
theorem c_truth (G : Grd pw h) (hd : A.depth + 20 < recursionLimit) (xb : XB h X) (b : Bool) : Calls pw w A X h (.ref 106) [.bool b] (.bool b) := by
 intro s Q E vs k r hq
 obtain ⟨v, rfl, r1⟩ := r.one
 refine wpAny_call (enter (fd := fd_truth pw) (body := bodyOf (topS pw 23)) (binds := [("x", v)]) (ps := [.bool b]) (X := X) (by lia) (k _ _ G.truth.1) (G.lim.keeps k) (G.truth.2.keeps k) rfl rfl rfl rfl kd_truth nd_truth (xb.hk k) r ?_)
 intro s₁ env henv g F
 have G₁ : Grd pw s₁.heap := G.hk (k.trans g.hk)
 have hn : env.scope.names = (fd_truth pw).scope.names := by rw [henv]; rfl
 have eg : env.globals = mainGlobals := by rw [henv]; rfl
 have eb : env.builtins = builtinsNs := by rw [henv]; rfl
 replace F : Fm env (own env ++ X) [] s.heap s₁.heap [some (.bool b), none, none, none, none, none, none, none, none, none, none, none, none, none, none, none, none] := F
 refine x_assign F 1 (nm hn rfl) (.inl rfl) (Ev.call (Ev.glob F.toRd 2 (nm hn rfl) G₁.g_type eg eb) (EvL.cons (Ev.name F.toRd 0 (nm hn rfl) rfl) EvL.nil) trivial (c_type ty_bool)) fun s₂ m₂ F₂ => ?_
 have G₂ : Grd pw s₂.heap := G.hk (k.trans F₂.keep.hk)
 refine x_if (Tst.or_false (Tst.isNone (Ev.name F₂.toRd 0 (nm hn rfl) rfl) rn_bool) (Tst.or_true (Tst.hcast (Tst.is (Ev.name F₂.toRd 1 (nm hn rfl) rfl) (Ev.glob F₂.toRd 3 (nm hn rfl) G₂.g_bool eg eb) rfl) (beq_self_eq_true _)))) fun s₃ g₃ => ?_
 rw [if_pos rfl]
 have F₃ := F₂.hk g₃.hk
 refine x_return (X := own env ++ X) (p := .bool b) (Ev.ifExp (c := b) (Tst.vbool (Ev.name F₃.toRd 0 (nm hn rfl) rfl)) (fun e => Ev.cbool.cast (by rw [e])) (fun e => Ev.cbool.cast (by rw [e]))) ?_
 intro v s' g' rv
 exact hq v s' ((((g.mv _).trans m₂).trans ((g₃.trans g').mv _)).out (F₃.hk g'.hk)) (rv.less fun a ha => List.mem_append_right _ ha)
end
theorem eLb_step {i : Nat} (h : i < 3) : eLb i + 8 - 6 * eN i = eLb (i + 1) := by
 have : i = 0 \/ i = 1 \/ i = 2 := by lia
 rcases this with rfl | rfl | rfl <;> rfl
theorem eN_lt {i j : Nat} (h : i < 3) (hj : j <= eN i) : decide ((6 : Int) <= ((eLb i + 8 - 6 * j : Nat) : Int)) = decide (j < eN i) := by
 have h1 : i = 0 \/ i = 1 \/ i = 2 := by lia
 have h2 : eN i <= 2 := by rcases h1 with rfl | rfl | rfl <;> decide
 have h3 : j = 0 \/ j = 1 \/ j = 2 := by lia
 rcases h1 with rfl | rfl | rfl <;> rcases h3 with rfl | rfl | rfl <;> first | rfl | (exfalso; revert hj; decide)
theorem fdiv_nat (a k : Nat) : ((a : Int).fdiv (2 ^ k)) = ((a / 2 ^ k : Nat) : Int) := by
 have e : ((2 : Int) ^ k) = ((2 ^ k : Nat) : Int) := by simp
 rw [e, Int.fdiv_eq_ediv_of_nonneg _ (Int.natCast_nonneg _)]
 rfl
theorem bind_b2a (v : Value) : bindArgs (fd_b2a pw) ⟨[v], [(("newline" : Str), .bool false)]⟩ = (pure [(("data" : Str), v), (("newline" : Str), .bool false)] : Sem (List (Str × Value))) := by rfl
section
variable {prog : Program} {w : World} {A : Around} {X : List Addr} {h : Heap} {env : Env}
theorem Ev.ofObj {e : Expr} {b : Array UInt8} {t : Tok} (x : Ev prog w A env X h e (.obj (.bytes b t))) : Ev prog w A env X h e (.bytes b) :=
 fun s Q E k hq => x s Q E k fun v s' g r => hq v s' g (by unfold Rep at r ⊢; exact ⟨t, r⟩)
set_option maxHeartbeats 1000000 in
theorem w_b2a (G : Grd pw h) (hd : A.depth + 30 < recursionLimit) (hh : A.handled = none) (xb : XB h X) (os : List Nat) (h1 : 1 <= os.length) (h3 : os.length <= 3) (hos : ∀ x ∈ os, x < 256) :
  ∀ (s : Shared) (Q : Value -> Shared -> Prop) (E : Value -> Shared -> Prop) (v : Value), HK h s.heap -> Rep X s.heap (.bytes (byts os)) v -> (∀ v' s', Gw s s' -> Rep X s'.heap (.bytes (byts (eAll os))) v' -> Q v' s') ->
   wpAny (model pw w) A (PySem.call (.ref 114) [v] [("newline", .bool false)]) Q E s := by
 intro s Q E v k r hq
 refine wpAny_call (enterW (fd := fd_b2a pw) (body := bodyOf (topS pw 25)) (ps := [.bytes (byts os), .bool false]) (X := X) ["data", "newline"] (by lia) (k _ _ G.b2a.1) (G.lim.keeps k) (G.b2a.2.keeps k) rfl rfl ?_ rfl kd_b2a nd_b2a (xb.hk k) ?_)
 ·intro Q E hq
  rw [bind_b2a]
  exact wpAny_pure (hq _ _ (Gw.refl s) rfl (RepL.cons r (RepL.cons rfl RepL.nil)))
 intro s₁ env hsc eg0 eb0 _ g F
 have G₁ : Grd pw s₁.heap := G.hk (k.trans g.hk)
 have hn : env.scope.names = (fd_b2a pw).scope.names := by rw [hsc]
 have eg : env.globals = mainGlobals := by rw [eg0]; rfl
 have eb : env.builtins = builtinsNs := by rw [eb0]; rfl
 have hA : (A.deeper env).handled = none := hh
 have hi : interactive env = false := by unfold interactive; rw [hsc]; rfl
 replace F : Fm env (own env ++ X) [] s.heap s₁.heap [some (.bytes (byts os)), some (.bool false), none, none, none, none, none, none, none, none, none] := F
 refine x_assign F 2 (nm hn rfl) (.inl rfl) (Ev.call (Ev.glob F.toRd 7 (nm hn rfl) G₁.g_buffer eg eb) (EvL.cons (Ev.name F.toRd 0 (nm hn rfl) rfl) EvL.nil) ⟨_, _, G₁.buffer.1, rfl⟩ (c_buffer G₁ (by show A.depth + 1 + 20 < _; lia) F.xb _)) fun s₂ m₂ F₂ => ?_
 have G₂ : Grd pw s₂.heap := G.hk (k.trans F₂.keep.hk)
 refine x_assign F₂ 1 (nm hn rfl) (.inl rfl) (Ev.call (Ev.glob F₂.toRd 8 (nm hn rfl) G₂.g_truth eg eb) (EvL.cons (Ev.name F₂.toRd 1 (nm hn rfl) rfl) EvL.nil) ⟨_, _, G₂.truth.1, rfl⟩ (c_truth G₂ (by show A.depth + 1 + 20 < _; lia) F₂.xb _)) fun s₃ m₃ F₃ => ?_
 refine x_newlist F₃ 3 (nm hn rfl) (.inl rfl) rfl EvL.nil (by decide) fun a s₄ haX has h0a m₄ F₄ L₄ => ?_
 have hao : a ∉ own env := fun z => haX (List.mem_append_left _ z)
 refine x_assign F₄ 4 (nm hn rfl) (.inl rfl) Ev.int fun s₅ m₅ F₅ => ?_
 refine x_assign F₅ 5 (nm hn rfl) (.inl rfl) Ev.int fun s₆ m₆ F₆ => ?_
 have own_sub : ∀ b, b ∈ own env -> b ∈ a :: (own env ++ X) := fun b hb => List.mem_cons_of_mem _ (List.mem_append_left _ hb)
 have L₆ : Ls (a :: (own env ++ X)) s₆.heap a [] := (L₄.kp m₅.kp own_sub hao).kp m₆.kp own_sub hao
 replace F₆ : Fm env (a :: (own env ++ X)) [] s.heap s₆.heap [some (.bytes (byts os)), some (.bool false), some (.bytes (byts os)), some (.obj (.ref a)), some (.int 0), some (.int 0), none, none, none, none, none] := F₆
 refine x_forR hA F₆ 6 (nm hn rfl) (.inl rfl) [a] (by simp) (by simp) (fun I i h => Ls (I :: a :: (own env ++ X)) h a (byteVals (eOut os i)))
  (Ev.name F₆.toRd 2 (nm hn rfl) rfl) (by have := Items.bytes (byts os); rwa [byts_items hos] at this)
  (fun i => [some (.bytes (byts os)), some (.bool false), some (.bytes (byts os)), some (.obj (.ref a)), some (.int (eLb i)), some (.int (eLc os i)), (if i = 0 then none else some (.int (os.getD (i - 1) 0 : Nat))), none, none, none, none]) rfl ?_ ?_ ?_ ?_
 ·intro I h' k' hI
  obtain ⟨vs, n, e, rl⟩ := L₆
  exact Ls.hk ⟨vs, n, e, RepL.more (fun b hb => (List.mem_cons.mp hb).elim (fun e => .inr (e ▸ hI)) .inl) rl⟩ k'
 ·intro I i h1 h2 hI kp l
  have haI : a ≠ I := by rintro rfl; obtain ⟨vs, n, e, _⟩ := L₆; rw [hI] at e; cases e
  exact l.kp kp (fun b hb => (List.mem_cons.mp hb).elim (fun e => e ▸ List.mem_cons_self) fun z => List.mem_cons_of_mem _ (own_sub b z)) (by simp; exact ⟨haI, hao⟩)
 ·intro I i q s₇ E' hI hq' F₇ L₇
  rw [List.getElem?_map] at hq'
  cases ho : os[i]? with
  | none => rw [ho] at hq'; cases hq'
  | some o =>
  rw [ho] at hq'
  obtain rfl : PV.int o = q := by simpa using hq'
  have hil : i < os.length := (List.getElem?_eq_some_iff.mp ho).1
  have hi3 : i < 3 := by lia
  have ho256 : o < 256 := hos o (List.mem_of_getElem? ho)
  have hog : os.getD i 0 = o := by rw [List.getD_eq_getElem?_getD, ho]; rfl
  have own_sub' : ∀ b, b ∈ own env -> b ∈ I :: a :: (own env ++ X) := fun b hb => List.mem_cons_of_mem _ (own_sub b hb)
  replace F₇ : Fm env (I :: a :: (own env ++ X)) [] s.heap s₇.heap [some (.bytes (byts os)), some (.bool false), some (.bytes (byts os)), some (.obj (.ref a)), some (.int (eLb i)), some (.int (eLc os i)), some (.int o), none, none, none, none] := F₇
  refine x_assign F₇ 5 (nm hn rfl) (.inl rfl) (p := .int (eLc os (i + 1))) (Ev.cast (Ev.band (Ev.bor (Ev.shl (Ev.name F₇.toRd 5 (nm hn rfl) rfl) Ev.int (by decide) (by decide) (by have := eLc_lt os i; lia)) (Ev.name F₇.toRd 6 (nm hn rfl) rfl)) Ev.int) ?_) fun s₈ m₈ F₈ => ?_
  ·have e1 : Builtin.bitOr ((eLc os i : Int) * 2 ^ (8 : Int).toNat) (o : Int) = ((eLc os i * 256 + o : Nat) : Int) := bor_nat ho256
   rw [e1]
   have e2 := band_nat (a := eLc os i * 256 + o) 16
   show PV.int (Builtin.bitAnd _ ((2 ^ 16 - 1 : Nat) : Int)) = _
   rw [e2]
   show PV.int (((eLc os i * 256 + o) % 65536 : Nat) : Int) = PV.int (((eLc os i * 256 + os.getD i 0) % 65536 : Nat) : Int)
   rw [hog]
  refine x_assign F₈ 4 (nm hn rfl) (.inl rfl) (p := .int ((eLb i + 8 - 6 * 0 : Nat) : Int)) (Ev.cast (Ev.add (Ev.name F₈.toRd 4 (nm hn rfl) rfl) Ev.int) (by congr 1)) fun s₉ m₉ F₉ => ?_
  replace F₉ : Fm env (I :: a :: (own env ++ X)) [] s.heap s₉.heap [some (.bytes (byts os)), some (.bool false), some (.bytes (byts os)), some (.obj (.ref a)), some (.int ((eLb i + 8 - 6 * 0 : Nat) : Int)), some (.int (eLc os (i + 1))), some (.int o), none, none, none, none] := F₉
  have L₉ : Ls (I :: a :: (own env ++ X)) s₉.heap a (byteVals (eOut os i)) := (L₇.kp m₈.kp own_sub' hao).kp m₉.kp own_sub' hao
  have hOutLen : (eOut os i).length <= 4 := by
   have : i = 0 \/ i = 1 \/ i = 2 := by lia
   rcases this with rfl | rfl | rfl <;> exact Nat.le_of_ble_eq_true rfl
  refine x_whileN (fun j s' => Fm env (I :: a :: (own env ++ X)) [] s.heap s'.heap [some (.bytes (byts os)), some (.bool false), some (.bytes (byts os)), some (.obj (.ref a)), some (.int ((eLb i + 8 - 6 * j : Nat) : Int)), some (.int (eLc os (i + 1))), some (.int o), none, none, none, none] /\ Ls (I :: a :: (own env ++ X)) s'.heap a (byteVals (eOut os i ++ eTurns os i j)) /\ Mv (own env ++ [a]) s₇ s') (eN i) ⟨F₉, by rw [show eTurns os i 0 = [] from rfl, List.append_nil]; exact L₉, (m₈.trans m₉).mono fun b hb => List.mem_append_left _ hb⟩ ?_ ?_ ?_ ?_
  ·rintro j s' hj ⟨F', L', _⟩
   exact (Tst.ints i_ge (Ev.name F'.toRd 4 (nm hn rfl) rfl) Ev.int).hcast (eN_lt hi3 hj)
  ·rintro j s' s'' ⟨F', L', m'⟩ g'
   exact ⟨F'.hk g'.hk, L'.hk g'.hk, m'.trans (g'.mv _)⟩
  ·rintro j s' E'' hj ⟨F', L', m'⟩
   have hj2 : j < 2 := by
    have : i = 0 \/ i = 1 \/ i = 2 := by lia
    rcases this with rfl | rfl | rfl <;> (have : j < 2 := Nat.lt_of_lt_of_le hj (by decide)) <;> exact this
   have h8 : 6 <= eLb i + 8 - 6 * j := by
    have := eN_lt hi3 (Nat.le_of_lt hj)
    rw [decide_eq_true hj] at this
    have := of_decide_eq_true this; lia
   have G' : Grd pw s'.heap := G.hk (k.trans F'.keep.hk)
   have hidx : Builtin.bitAnd ((eLc os (i + 1) : Int).fdiv (2 ^ (((eLb i + 8 - 6 * j : Nat) : Int) - 6).toNat)) 63 = ((eLc os (i + 1) / 2 ^ (eLb i + 8 - 6 * (j + 1)) % 64 : Nat) : Int) := by
    have e1 : (((eLb i + 8 - 6 * j : Nat) : Int) - 6).toNat = eLb i + 8 - 6 * (j + 1) := by lia
    rw [e1, fdiv_nat]
    exact band_nat 6
   have hlt64 : eLc os (i + 1) / 2 ^ (eLb i + 8 - 6 * (j + 1)) % 64 < 64 := Nat.mod_lt _ (by decide)
   refine x_append F' L' (by simp) hao (.inr h0a) (by rw [List.length_map, List.length_append]; unfold eTurns; rw [List.length_map, List.length_range]; unfold sizeLine; lia) (Ev.name F'.toRd 3 (nm hn rfl) rfl) (p := .int (eTurn os i j))
    (Ev.cast (Ev.itemB (l := b64L) (Ev.ofObj (Ev.glob F'.toRd 9 (nm hn rfl) G'.g_B64 eg eb)) (Ev.cast (Ev.band (Ev.shr (Ev.name F'.toRd 5 (nm hn rfl) rfl) (Ev.sub (Ev.name F'.toRd 4 (nm hn rfl) rfl) Ev.int) (by lia)) Ev.int) (congrArg PV.int hidx)) (by lia) (by show _ < ((64 : Nat) : Int); lia) (by decide)) ?_) (fun s'' m'' F'' L'' => ?_) rfl rfl hi rfl
   ·rw [Int.toNat_natCast, b64_get hlt64]; rfl
   refine x_assign F'' 4 (nm hn rfl) (.inl rfl) (p := .int ((eLb i + 8 - 6 * (j + 1) : Nat) : Int)) (Ev.cast (Ev.sub (Ev.name F''.toRd 4 (nm hn rfl) rfl) Ev.int) (by congr 1; lia)) fun s3 m3 F3 => x_nil ⟨F3, ?_, ?_⟩
   ·have : eTurns os i (j + 1) = eTurns os i j ++ [eTurn os i j] := by unfold eTurns; rw [List.range_succ, List.map_append]; rfl
    rw [this, <- List.append_assoc]
    show Ls _ _ _ (List.map _ (_ ++ _))
    rw [List.map_append]
    exact L''.kp m3.kp own_sub' hao
   ·exact m'.trans ((m''.mono (by simp)).trans (m3.mono fun b hb => List.mem_append_left _ hb))
  ·rintro s' ⟨F', L', m'⟩
   rw [eLb_step hi3] at F'
   refine x_nil ⟨m', ?_, L'⟩
   have e2 : (if i + 1 = 0 then (none : Option PV) else some (.int (os.getD (i + 1 - 1) 0 : Nat))) = some (.int o) := by
    rw [if_neg (by lia), Nat.add_sub_cancel, hog]
   rw [e2]; exact F'
 ·intro I s₇ hI m₇ F₇ L₇
  rw [List.length_map] at F₇ L₇
  replace F₇ : Fm env (a :: (own env ++ X)) [] s.heap s₇.heap [some (.bytes (byts os)), some (.bool false), some (.bytes (byts os)), some (.obj (.ref a)), some (.int (eLb os.length)), some (.int (eLc os os.length)), none, none, none, none, none] := F₇.forget 6
  have L₇' : Ls (a :: (own env ++ X)) s₇.heap a (byteVals (eOut os os.length)) := by
   obtain ⟨vs, n, e, rl⟩ := L₇
   exact ⟨vs, n, e, rl.less fun b hb => List.mem_cons_of_mem _ hb⟩
  have hOutLen : (eOut os os.length).length <= 4 := by
   have : os.length = 1 \/ os.length = 2 \/ os.length = 3 := by lia
   rcases this with e | e | e <;> rw [e] <;> exact Nat.le_of_ble_eq_true rfl
  refine x_if (Tst.ints i_eq (Ev.name F₇.toRd 4 (nm hn rfl) rfl) Ev.int) fun s₈ g₈ => ?_
  have F₈ := F₇.hk g₈.hk
  have L₈ := L₇'.hk g₈.hk
  have G₈ : Grd pw s₈.heap := G.hk (k.trans F₈.keep.hk)
  have idx : ∀ n : Nat, n < 64 -> (b64L.getD (n : Int).toNat 0).toNat = b64c n := fun n hlt => by rw [Int.toNat_natCast, b64_get hlt]
  refine onw_to (fun s' => Mv [a] s₈ s' /\ Fm env (a :: (own env ++ X)) [] s.heap s'.heap [some (.bytes (byts os)), some (.bool false), some (.bytes (byts os)), some (.obj (.ref a)), some (.int (eLb os.length)), some (.int (eLc os os.length)), none, none, none, none, none] /\ Ls (a :: (own env ++ X)) s'.heap a (byteVals (eAll os))) ?_ ?_
  ·by_cases c2 : eLb os.length = 2
   ·rw [show ((eLb os.length : Int) == 2) = true by rw [c2]; rfl, if_pos rfl]
    have eT : eTail os = [b64c (eLc os os.length % 4 * 16), 61, 61] := by unfold eTail; rw [if_pos c2]
    have hv : (Builtin.bitAnd (eLc os os.length : Int) 3) * 2 ^ (4 : Int).toNat = ((eLc os os.length % 4 * 16 : Nat) : Int) := by
     have e1 := band_nat (a := eLc os os.length) 2
     rw [show (3 : Int) = ((2 ^ 2 - 1 : Nat) : Int) from rfl, e1]
     show ((_ : Nat) : Int) * 16 = _
     lia
    have hb : Builtin.bitAnd (eLc os os.length : Int) 3 = ((eLc os os.length % 4 : Nat) : Int) := band_nat 2
    refine x_append F₈ L₈ (by simp) hao (.inr h0a) (by rw [List.length_map]; unfold sizeLine; lia) (Ev.name F₈.toRd 3 (nm hn rfl) rfl) (p := .int (b64c (eLc os os.length % 4 * 16)))
     (Ev.cast (Ev.itemB (l := b64L) (Ev.ofObj (Ev.glob F₈.toRd 9 (nm hn rfl) G₈.g_B64 eg eb)) (Ev.cast (Ev.shl (Ev.band (Ev.name F₈.toRd 5 (nm hn rfl) rfl) Ev.int) Ev.int (by decide) (by decide) (by rw [hb]; lia)) (congrArg PV.int hv)) (by lia) (by show _ < ((64 : Nat) : Int); lia) (by decide)) (by rw [idx _ (by lia)])) (fun s9 m9 F9 L9 => ?_) rfl rfl hi rfl
    refine x_append F9 L9 (by simp) hao (.inr h0a) (by rw [List.length_append, List.length_map]; unfold sizeLine; simp; lia) (Ev.name F9.toRd 3 (nm hn rfl) rfl) Ev.int (fun s10 m10 F10 L10 => ?_) rfl rfl hi rfl
    refine x_append F10 L10 (by simp) hao (.inr h0a) (by rw [List.length_append, List.length_append, List.length_map]; unfold sizeLine; simp; lia) (Ev.name F10.toRd 3 (nm hn rfl) rfl) Ev.int (fun s11 m11 F11 L11 => x_nil ⟨rfl, (m9.trans m10).trans m11, F11, ?_⟩) rfl rfl hi rfl
    unfold eAll
    rw [eT]
    show Ls _ _ _ (List.map _ (_ ++ _))
    rw [List.map_append]
    have e := L11
    rw [List.append_assoc, List.append_assoc] at e
    exact e
   ·rw [show ((eLb os.length : Int) == 2) = false from beq_eq_false_iff_ne.mpr (by lia), if_neg (by decide)]
    refine x_if (Tst.ints i_eq (Ev.name F₈.toRd 4 (nm hn rfl) rfl) Ev.int) fun s₉ g₉ => ?_
    have F₉ := F₈.hk g₉.hk
    have L₉ := L₈.hk g₉.hk
    have G₉ : Grd pw s₉.heap := G.hk (k.trans F₉.keep.hk)
    by_cases c4 : eLb os.length = 4
    ·rw [show ((eLb os.length : Int) == 4) = true by rw [c4]; rfl, if_pos rfl]
     have eT : eTail os = [b64c (eLc os os.length % 16 * 4), 61] := by unfold eTail; rw [if_neg c2, if_pos c4]
     have hb : Builtin.bitAnd (eLc os os.length : Int) 15 = ((eLc os os.length % 16 : Nat) : Int) := band_nat 4
     have hv : (Builtin.bitAnd (eLc os os.length : Int) 15) * 2 ^ (2 : Int).toNat = ((eLc os os.length % 16 * 4 : Nat) : Int) := by
      rw [hb]
      show ((_ : Nat) : Int) * 4 = _
      lia
     refine x_append F₉ L₉ (by simp) hao (.inr h0a) (by rw [List.length_map]; unfold sizeLine; lia) (Ev.name F₉.toRd 3 (nm hn rfl) rfl) (p := .int (b64c (eLc os os.length % 16 * 4)))
      (Ev.cast (Ev.itemB (l := b64L) (Ev.ofObj (Ev.glob F₉.toRd 9 (nm hn rfl) G₉.g_B64 eg eb)) (Ev.cast (Ev.shl (Ev.band (Ev.name F₉.toRd 5 (nm hn rfl) rfl) Ev.int) Ev.int (by decide) (by decide) (by rw [hb]; lia)) (congrArg PV.int hv)) (by lia) (by show _ < ((64 : Nat) : Int); lia) (by decide)) (by rw [idx _ (by lia)])) (fun s10 m10 F10 L10 => ?_) rfl rfl hi rfl
     refine x_append F10 L10 (by simp) hao (.inr h0a) (by rw [List.length_append, List.length_map]; unfold sizeLine; simp; lia) (Ev.name F10.toRd 3 (nm hn rfl) rfl) Ev.int (fun s11 m11 F11 L11 => x_nil (x_nil ⟨rfl, (g₉.mv _).trans (m10.trans m11), F11, ?_⟩)) rfl rfl hi rfl
     unfold eAll
     rw [eT]
     show Ls _ _ _ (List.map _ (_ ++ _))
     rw [List.map_append]
     have e := L11
     rw [List.append_assoc] at e
     exact e
    ·rw [show ((eLb os.length : Int) == 4) = false from beq_eq_false_iff_ne.mpr (by lia), if_neg (by decide)]
     refine x_nil (x_nil ⟨rfl, g₉.mv _, F₉, ?_⟩)
     unfold eAll
     have eT : eTail os = [] := by unfold eTail; rw [if_neg c2, if_neg c4]
     rw [eT, List.append_nil]; exact L₉
  rintro s9 ⟨m9, F9, L9⟩
  refine x_if (Tst.vbool (Ev.name F9.toRd 1 (nm hn rfl) rfl)) fun s10 g10 => ?_
  rw [if_neg (by decide)]
  refine x_nil ?_
  have F10 := F9.hk g10.hk
  have G10 : Grd pw s10.heap := G.hk (k.trans F10.keep.hk)
  have hInts : byteVals (eAll os) = ((eAll os).map fun (n : Nat) => (n : Int)).map PV.int := by rw [List.map_map]; rfl
  refine x_return (Ev.call (Ev.glob F10.toRd 10 (nm hn rfl) G10.g_bytes eg eb) (EvL.cons (Ev.name F10.toRd 3 (nm hn rfl) rfl) EvL.nil) trivial (c_bytesW hA (ns := (eAll os).map fun (n : Nat) => (n : Int)) (by rw [<- hInts]; exact (L9.hk g10.hk).lw) ?_ ?_)) ?_
  ·intro n hm
   obtain ⟨x, hx, rfl⟩ := List.mem_map.mp hm
   have := eAll_lt os x hx; lia
  ·rw [List.length_map, eAll_len h1 h3]; decide
  ·intro v s' g' rv
   refine hq v s' ⟨?_, F10.keep.hk.trans g'.hk⟩ ?_
   ·exact ex_tr g.ex (ex_tr m₂.ex (ex_tr m₃.ex (ex_tr m₄.ex (ex_tr m₅.ex (ex_tr m₆.ex (ex_tr m₇.ex (ex_tr g₈.ex (ex_tr m9.ex (ex_tr g10.ex g'.ex)))))))))
   ·exact rv.less fun b hb => List.mem_cons_of_mem _ (List.mem_append_right _ hb)
end
section
variable {prog : Program} {w : World} {A : Around} {X : List Addr} {h : Heap} {env : Env}
theorem Ev.callKw {x key : Str} {px pos kp : Pos} {e ke : Expr} {p q z : PV} {a : Addr} {fd : FuncData} (hf : Ev prog w A env X h (.Name x px) (.obj (.ref a))) (ho : h.get? a = some (fnObj fd)) (he : Ev prog w A env X h e p) (hk : Ev prog w A env X h ke q)
  (hc : ∀ (s : Shared) (Q : Value -> Shared -> Prop) (E : Value -> Shared -> Prop) (v u : Value), HK h s.heap -> Rep X s.heap p v -> Rep X s.heap q u -> (∀ v' s', Gw s s' -> Rep X s'.heap z v' -> Q v' s') -> wpAny (model prog w) A (PySem.call (.ref a) [v] [(key, u)]) Q E s)
  (hst : starEach [e] env = [(false, eval e env)] := by rfl) (hkw : keywordEach [⟨some key, ke, kp⟩] env = [(some key, eval ke env)] := by rfl)
  (hev : eval (.Call (.Name x px) [e] [⟨some key, ke, kp⟩] pos) env = (eval (.Name x px) env >>= fun f => callWith pos f [] (backTo pos (starEach [e] env)) (backToKw pos (keywordEach [⟨some key, ke, kp⟩] env))) := by rfl) :
  Ev prog w A env X h (.Call (.Name x px) [e] [⟨some key, ke, kp⟩] pos) z := by
 intro s Q E k hq
 rw [hev]
 refine wpAny_bind (hf s _ _ k fun v s₁ g r => ?_)
 obtain rfl : v = .ref a := r
 have K0 : PySem.W.Frag.In [(a, fnObj fd)] s₁.heap := fun b o e => by
  simp only [List.lookup] at e
  split at e
  ·rename_i q; cases e; rw [beq_iff_eq.mp q]; exact (k.trans g.hk) _ _ ho
  ·cases e
 refine PySem.W.callWith_KW (K := [(a, fnObj fd)]) K0 (by simp [PySem.W.keepIn, List.lookup]) (by rw [hkw]; rfl) ?_ (by rw [hst, hkw]; rfl) (by rw [hst]; rfl)
 refine (EvL.cons he EvL.nil hst) pos s₁ _ _ (k.trans g.hk) fun vs s₂ g₂ r₂ => ?_
 obtain ⟨v, rfl, rv⟩ := r₂.one
 rw [hkw]
 show wpAny _ _ (evalAll [(do let v <- eval ke env; standAt pos; pure v)]) _ _ _
 refine wpAny_evalAll_cons ?_
 refine wpAny_bind (hk s₂ _ _ ((k.trans g.hk).trans g₂.hk) fun u s₃ g₃ r₃ => wpAny_bind (wpAny_standAt (wpAny_pure (wpAny_evalAll_nil ?_))))
 have k3 : HK s₁.heap s₃.heap := g₂.hk.trans g₃.hk
 refine ⟨K0.keeps k3, ?_⟩
 exact hc s₃ _ _ v u ((k.trans g.hk).trans k3) (rv.hk g₃.hk) r₃ fun v' s' g₄ r₄ => hq v' s' (((g.trans g₂).trans g₃).trans g₄) r₄
theorem c_isi_bytes {b : Array UInt8} : Calls prog w A X h (.builtin "isinstance") [.bytes b, .obj (.type "bytes")] (.bool true) := by
 intro s Q E vs k r hq
 obtain ⟨v, u, rfl, r1, r2⟩ := r.two
 unfold Rep at r1 r2
 obtain ⟨t, rfl⟩ := r1
 subst r2
 refine PySem.W.kia_one (K := []) PySem.W.kitx_bytes (fun _ _ e => by cases e) trivial (b := true) (by decide +kernel) (by intro z; cases z) fun tk => hq _ _ (Gw.toks s _) ?_
 unfold Rep; rfl
theorem c_isi_tuple {xs : List PV} : Calls prog w A X h (.builtin "isinstance") [.tuple xs, .obj (.type "tuple")] (.bool true) := by
 intro s Q E vs k r hq
 obtain ⟨v, u, rfl, r1, r2⟩ := r.two
 unfold Rep at r1 r2
 obtain ⟨a, n, vs, rfl, ha, ho, rl⟩ := r1
 subst r2
 refine PySem.W.kia_one (K := []) PySem.W.kitx_tuple (fun _ _ e => by cases e) ⟨_, ho, rfl⟩ (b := true) (by decide +kernel) (by intro z; cases z) fun tk => hq _ _ (Gw.toks s _) ?_
 unfold Rep; rfl
theorem nd_b64 : ((fd_b64encode pw).scope.names.map (·.1)).Nodup := by decide +kernel
theorem kd_b64 : ∀ x ∈ (fd_b64encode pw).scope.names.take 2, x.2 = .local \/ x.2 = .cell := by decide +kernel
theorem nd_enc : ((fd_encoded pw).scope.names.map (·.1)).Nodup := by decide +kernel
theorem kd_enc : ∀ x ∈ (fd_encoded pw).scope.names.take 1, x.2 = .local \/ x.2 = .cell := by decide +kernel
theorem bind_b64 {h : Heap} {s : Shared} (G : Grd pw s.heap) (v : Value) : BindsTo s (fd_b64encode pw) ⟨[v], []⟩ [(("s" : Str), v), (("altchars" : Str), .none)] :=
 BindsTo.of_defaults (T := 115) rfl G.dfl64 rfl rfl rfl
theorem c_b64encode (G : Grd pw h) (hd : A.depth + 40 < recursionLimit) (hh : A.handled = none) (xb : XB h X) (os : List Nat) (h1 : 1 <= os.length) (h3 : os.length <= 3) (hos : ∀ x ∈ os, x < 256) :
  Calls pw w A X h (.ref 122) [.bytes (byts os)] (.bytes (byts (eAll os))) := by
 intro s Q E vs k r hq
 obtain ⟨v, rfl, r1⟩ := r.one
 refine wpAny_call (enterW (fd := fd_b64encode pw) (body := bodyOf (topS pw 27)) (ps := [.bytes (byts os), .none]) (X := X) ["s", "altchars"] (by lia) (k _ _ G.b64encode.1) (G.lim.keeps k) (G.b64encode.2.keeps k) rfl rfl ?_ rfl kd_b64 nd_b64 (xb.hk k) ?_)
 ·intro Q E hq
  exact bind_b64 (h := h) (G.hk k) v _ _ _ _ (hq _ _ (Gw.refl s) rfl (RepL.cons r1 (RepL.cons rfl RepL.nil)))
 intro s₁ env hsc eg0 eb0 _ g F
 have G₁ : Grd pw s₁.heap := G.hk (k.trans g.hk)
 have hn : env.scope.names = (fd_b64encode pw).scope.names := by rw [hsc]
 have eg : env.globals = mainGlobals := by rw [eg0]; rfl
 have eb : env.builtins = builtinsNs := by rw [eb0]; rfl
 have hA : (A.deeper env).handled = none := hh
 replace F : Fm env (own env ++ X) [] s.heap s₁.heap [some (.bytes (byts os)), some .none, none, none, none, none, none] := F
 refine x_assign F 2 (nm hn rfl) (.inl rfl) (p := .bytes (byts (eAll os))) (Ev.callKw (q := .bool false) (Ev.glob F.toRd 3 (nm hn rfl) G₁.g_b2a_base64 eg eb) G₁.b2a.1 (Ev.name F.toRd 0 (nm hn rfl) rfl) Ev.cbool ?_) fun s₂ m₂ F₂ => ?_
 ·intro s' Q' E' v' u' k' rv ru hq'
  unfold Rep at ru; subst ru
  exact w_b2a G₁ (by show A.depth + 1 + 30 < _; lia) hA F.xb os h1 h3 hos s' Q' E' v' k' rv hq'
 refine x_if (Tst.isNotNone (Ev.name F₂.toRd 1 (nm hn rfl) rfl) rn_none) fun s₃ g₃ => ?_
 rw [if_neg (by decide)]
 refine x_nil ?_
 have F₃ := F₂.hk g₃.hk
 refine x_return (Ev.name F₃.toRd 2 (nm hn rfl) rfl) ?_
 intro v s' g' rv
 exact hq v s' ((((g.mv _).trans m₂).trans ((g₃.trans g').mv _)).out (F₃.hk g'.hk)) (rv.less fun a ha => List.mem_append_right _ ha)
theorem c_encoded (G : Grd pw h) (hd : A.depth + 50 < recursionLimit) (hh : A.handled = none) (xb : XB h X) (os : List Nat) (h1 : 1 <= os.length) (h3 : os.length <= 3) (hos : ∀ x ∈ os, x < 256) :
  Calls pw w A X h (.ref 267) [pvN os] (.str (txt (eAll os))) := by
 intro s Q E vs k r hq
 obtain ⟨v, rfl, r1⟩ := r.one
 refine wpAny_call (enter (fd := fd_encoded pw) (body := bodyOf (topS pw 39)) (binds := [("octets", v)]) (ps := [pvN os]) (X := X) (by lia) (k _ _ G.encoded.1) (G.lim.keeps k) (G.encoded.2.keeps k) rfl rfl rfl rfl kd_enc nd_enc (xb.hk k) r ?_)
 intro s₁ env henv g F
 have G₁ : Grd pw s₁.heap := G.hk (k.trans g.hk)
 have hn : env.scope.names = (fd_encoded pw).scope.names := by rw [henv]; rfl
 have eg : env.globals = mainGlobals := by rw [henv]; rfl
 have eb : env.builtins = builtinsNs := by rw [henv]; rfl
 have hA : (A.deeper env).handled = none := hh
 replace F : Fm env (own env ++ X) [] s.heap s₁.heap [some (pvN os), none, none, none, none] := F
 have eN : pvN os = PV.list ((os.map fun (n : Nat) => (n : Int)).map PV.int) := by show PV.list _ = PV.list _; rw [List.map_map]; rfl
 refine x_assign F 1 (nm hn rfl) (.inl rfl) (p := .bytes (byts (eAll os))) (Ev.call (Ev.glob F.toRd 2 (nm hn rfl) G₁.g_b64encode eg eb) (EvL.cons (Ev.call (Ev.glob F.toRd 3 (nm hn rfl) G₁.g_bytes eg eb) (EvL.cons (Ev.name F.toRd 0 (nm hn rfl) rfl) EvL.nil) trivial ((c_bytes hA (ns := os.map fun (n : Nat) => (n : Int)) ?_ ?_).cast (by rw [eN]) rfl)) EvL.nil) ⟨_, _, G₁.b64encode.1, rfl⟩ (c_b64encode G₁ (by show A.depth + 1 + 40 < _; lia) hA F.xb os h1 h3 hos)) fun s₂ m₂ F₂ => ?_
 ·intro n hm
  obtain ⟨x, hx, rfl⟩ := List.mem_map.mp hm
  have := hos x hx; lia
 ·rw [List.length_map]; unfold sizeLine; lia
 have G₂ : Grd pw s₂.heap := G.hk (k.trans F₂.keep.hk)
 replace F₂ : Fm env (own env ++ X) [] s.heap s₂.heap [some (pvN os), some (.bytes (byts (eAll os))), none, none, none] := F₂
 refine x_if (Tst.not (Tst.vbool (b := true) (Ev.call (Ev.glob F₂.toRd 4 (nm hn rfl) G₂.g_isinstance eg eb) (EvL.cons (Ev.name F₂.toRd 1 (nm hn rfl) rfl) (EvL.cons (Ev.glob F₂.toRd 3 (nm hn rfl) G₂.g_bytes eg eb) EvL.nil)) trivial c_isi_bytes))) fun s₃ g₃ => ?_
 rw [if_neg (by decide)]
 refine x_nil ?_
 have F₃ := F₂.hk g₃.hk
 have G₃ : Grd pw s₃.heap := G.hk (k.trans F₃.keep.hk)
 refine x_return (Ev.join1 (cs := eAll os) (Ev.cast (Ev.comp F₃.toRd hA (its := byteVals (eAll os)) 1 [] (fun q => match q with | .int k => .str ⟨#[k.toNat]⟩ | _ => .none) (fun _ => true) (CompOk.of (has := [true, true, false, false, false]) (by rw [hn]; decide +kernel) rfl) rfl (Ev.name F₃.toRd 1 (nm hn rfl) rfl) ?_ ?_ ?_ ?_ ?_ ?_) ?_) ?_) ?_
 ·have := Items.bytes (byts (eAll os)); rwa [byts_items (eAll_lt os)] at this
 ·intro q hq; obtain ⟨i, _, rfl⟩ := List.mem_map.mp hq; exact trivial
 ·rw [List.length_map, eAll_len h1 h3]; decide
 ·intro q hq _; obtain ⟨i, _, rfl⟩ := List.mem_map.mp hq; exact trivial
 ·intros; exact TstAll.nil
 ·intro q hq _ en h' hcn eg' eb' kk rd
  obtain ⟨i, hi, rfl⟩ := List.mem_map.mp hq
  have := eAll_lt os i hi
  exact Ev.call (Ev.glob rd 2 (nm hcn rfl) (G₃.hk kk).g_chr (eg'.trans eg) (eb'.trans eb)) (EvL.cons (Ev.name rd 1 (nm hcn rfl) rfl) EvL.nil) trivial (c_chr (by lia) (by lia))
 ·rw [filter_true, List.map_map]; show PV.list _ = PV.list ((ones (eAll os)).map PV.str); rw [List.map_map]; rfl
 ·rw [eAll_len h1 h3]; decide
 ·intro v s' g' rv
  exact hq v s' ((((g.mv _).trans m₂).trans ((g₃.trans g').mv _)).out (F₃.hk g'.hk)) (rv.less fun a ha => List.mem_append_right _ ha)
end
theorem typeCall_int_2 (a b : Value) : checkTypeCall "int" ⟨[a, b], []⟩ = pure () := by kernel_rfl
theorem newCall_int_2 (a b : Value) : checkBuiltinCall "int.__new__" ⟨[.type "int", a, b], []⟩ = pure () := by kernel_rfl
theorem args_oi3 (a b c : Value) : argsOk "object.__init__" ⟨[a, b, c], []⟩ := by unfold argsOk; kernel_rfl
section
variable {prog : Program} {w : World} {A : Around} {X : List Addr} {h : Heap} {env : Env}
theorem c_int16 {p q : Nat} (hp : p < 16) (hq : q < 16) : Calls prog w A X h (.type "int") [.str (txt [hexd p, hexd q]), .int 16] (.int ((p * 16 + q : Nat) : Int)) := by
 intro s Q E vs k r hq'
 obtain ⟨v, u, rfl, r1, r2⟩ := r.two
 unfold Rep at r1 r2
 obtain ⟨t, rfl⟩ := r1
 obtain ⟨t', rfl⟩ := r2
 refine callType_new F.called_int F.newNe_int (typeCall_int_2 _ _) (newCall_int_2 _ _) (fun obj => args_oi3 obj _ _) F.entry_int_new (meets_int16 ⟨p, hp⟩ ⟨q, hq⟩ t t') ?_
 exact (show (Made.int ((p * 16 + q : Nat) : Int)).post _ s from ⟨rfl, hq' _ _ (Gw.tok s) ⟨_, rfl⟩⟩)
end
section
open PySem.Builtin.Re (reDrive reRunToEnd reTurnSteps)
noncomputable def reC : Array Nat := (reCode.map Int.toNat).toArray
theorem runFor_done : ∀ (n : Nat) (m : Sre.M), m.outcome.isSome = true -> m.runFor n = m
 | 0, _, _ => rfl
 | n + 1, m, h => by unfold Sre.M.runFor; rw [if_pos h]
theorem runFor_add : ∀ (a b : Nat) (m : Sre.M), m.runFor (a + b) = (m.runFor a).runFor b
 | 0, b, m => by rw [Nat.zero_add]; rfl
 | a + 1, b, m => by
  rw [Nat.add_right_comm]
  by_cases h : m.outcome.isSome = true
  ·rw [runFor_done _ _ h, runFor_done _ _ h, runFor_done _ _ h]
  ·conv => lhs; unfold Sre.M.runFor
   conv => rhs; arg 2; unfold Sre.M.runFor
   rw [if_neg h, if_neg h, runFor_add a b]
section
variable {M : Model} {A : Around} {E : Value -> Shared -> Prop} {s : Shared}
theorem drive : ∀ (K n : Nat) (m : Sre.M) (Q : Sre.M -> Shared -> Prop), K < n -> (m.runFor (4 * K)).outcome.isSome = true -> Q (m.runFor (4 * K)) s -> wpAny M A (reDrive n m) Q E s
 | _, 0, _, _, h, _, _ => absurd h (Nat.not_lt_zero _)
 | 0, n + 1, m, Q, _, ho, hq => by
  unfold reDrive
  have e : m.runFor reTurnSteps = m := runFor_done _ _ ho
  dsimp only
  rw [e]
  have ho' : m.outcome.isSome = true := ho
  rw [if_pos ho']
  exact wpAny_pure hq
 | K + 1, n + 1, m, Q, h, ho, hq => by
  unfold reDrive
  dsimp only
  have e4 : m.runFor (4 * (K + 1)) = (m.runFor reTurnSteps).runFor (4 * K) := by
   rw [show 4 * (K + 1) = 4 + 4 * K by lia, runFor_add]; rfl
  rw [e4] at ho hq
  by_cases h1 : (m.runFor reTurnSteps).outcome.isSome = true
  ·rw [if_pos h1]
   rw [runFor_done _ _ h1] at hq
   exact wpAny_pure hq
  ·rw [if_neg h1]
   exact wpAny_bind (wpAny_rule (drive K n _ Q (by lia) ho hq))
theorem rules_pass (f : Nat -> PUnit -> Sem (ForInStep PUnit)) (hf : ∀ i u (Q : ForInStep PUnit -> Shared -> Prop), Q (.yield ⟨⟩) s -> wpAny M A (f i u) Q E s) : ∀ (l : List Nat) (u : PUnit) (Q : PUnit -> Shared -> Prop), Q ⟨⟩ s -> wpAny M A (forIn l u f) Q E s
 | [], _, _, hq => by rw [List.forIn_nil]; exact wpAny_pure hq
 | i :: l, u, Q, hq => by
  rw [List.forIn_cons]
  exact wpAny_bind (hf i u _ (rules_pass f hf l _ Q hq))
noncomputable def isMatched (m : Sre.M) : Bool := match m.outcome with | some .matched => true | _ => false
noncomputable def isFailed (m : Sre.M) : Bool := match m.outcome with | some .failed => true | _ => false
theorem run_end {K : Nat} {m : Sre.M} {Q : Option Sre.M -> Shared -> Prop} (hK : K < 1000000) (h : (isMatched (m.runFor (4 * K)) = true /\ Q (some (m.runFor (4 * K))) s) \/ (isFailed (m.runFor (4 * K)) = true /\ Q none s)) : wpAny M A (reRunToEnd m) Q E s := by
 have ho : (m.runFor (4 * K)).outcome.isSome = true := by
  rcases h with ⟨h, _⟩ | ⟨h, _⟩
  ·unfold isMatched at h
   split at h
   ·rename_i e; rw [e]; rfl
   ·cases h
  ·unfold isFailed at h
   split at h
   ·rename_i e; rw [e]; rfl
   ·cases h
 unfold reRunToEnd
 refine wpAny_bind (drive K (2 ^ 64) m _ (Nat.lt_trans hK (by decide)) ho ?_)
 refine wpAny_bind (rules_pass _ (fun i u Q' hq => ?_) _ _ _ ?_)
 ·by_cases hh : (m.runFor (4 * K)).seen.has i = true
  ·rw [if_pos hh]; exact wpAny_bind (wpAny_rule (wpAny_pure hq))
  ·rw [if_neg hh]; exact wpAny_bind (wpAny_pure (wpAny_pure hq))
 ·rcases h with ⟨h, hq⟩ | ⟨h, hq⟩
  ·unfold isMatched at h
   split at h
   ·rename_i e; rw [e]; exact wpAny_pure hq
   ·cases h
  ·unfold isFailed at h
   split at h
   ·rename_i e; rw [e]; exact wpAny_pure hq
   ·cases h
end
noncomputable def esc (o : Nat) : Array Nat := (qText o).toArray
theorem sre_first : ∀ o : Fin 256, isMatched ((Sre.forSearch reC (esc o.1) 0 0 3 false).runFor (4 * 20)) = true /\ ((Sre.forSearch reC (esc o.1) 0 0 3 false).runFor (4 * 20)).start = 0 /\ ((Sre.forSearch reC (esc o.1) 0 0 3 false).runFor (4 * 20)).handed = 3 := by decide +kernel
theorem sre_second : ∀ o : Fin 256, isFailed ((Sre.forSearch reC (esc o.1) 0 3 3 false).runFor (4 * 20)) = true := by decide +kernel
end
section
variable {prog : Program} {w : World} {A : Around} {X : List Addr} {h : Heap} {env : Env}
theorem Ev.slice13 {value : Expr} {a b c : Nat} {k1 k3 : Nat} {p1 p3 p pos : Pos} (x : Ev prog w A env X h value (.str (txt [a, b, c])))
  (hl : ∀ o r, letTemporaryGo value o r = pure () := by intro _ _; rfl) :
  Ev prog w A env X h (.Subscript value (.Slice (some (.Constant (.int 1) k1 p1)) (some (.Constant (.int 3) k3 p3)) none p) pos) (.str (txt [b, c])) := by
 intro s Q E k hq
 refine wpAny_Subscript_str_slice (x s _ _ k fun o s₁ g₁ r₁ => (EvP.some (X := X) (Ev.int (h := h) (X := X))) s₁ _ _ (k.trans g₁.hk) fun vl s₂ g₂ p₂ => (EvP.some (X := X) (Ev.int (h := h) (X := X))) s₂ _ _ ((k.trans g₁.hk).trans g₂.hk) fun vu s₃ g₃ p₃ => ?_) hl
 unfold Rep at r₁
 obtain ⟨t, rfl⟩ := r₁
 cases p₂ with | int _ t1 =>
 cases p₃ with | int _ t3 =>
 refine ⟨_, t, some (1, t1), some (3, t3), rfl, rfl, rfl, ?_⟩
 show (txt [b, c]).length <= sizeLine /\ Q (.str (txt [b, c]) _) _
 refine ⟨by show 2 <= sizeLine; decide, hq _ _ ?_ ⟨_, rfl⟩⟩
 exact (((g₁.trans g₂).trans g₃).trans ⟨⟨_, _, rfl⟩, fun b o e => Heap.get?_push_of_some _ e⟩)
theorem nd_unq : ((fd_unquote pw).scope.names.map (·.1)).Nodup := by decide +kernel
theorem kd_unq : ∀ x ∈ (fd_unquote pw).scope.names.take 1, x.2 = .local \/ x.2 = .cell := by decide +kernel
theorem nd_quo : ((fd_quote pw).scope.names.map (·.1)).Nodup := by decide +kernel
theorem kd_quo : ∀ x ∈ (fd_quote pw).scope.names.take 1, x.2 = .local \/ x.2 = .cell := by decide +kernel
theorem c_unquote (G : Grd pw h) (hd : A.depth + 20 < recursionLimit) (xb : XB h X) {o : Nat} (ho : o < 256) : Calls pw w A X h (.ref 66) [.str (txt (qText o))] (.str ⟨#[o]⟩) := by
 intro s Q E vs k r hq
 obtain ⟨v, rfl, r1⟩ := r.one
 refine wpAny_call (enter (fd := fd_unquote pw) (body := bodyOf (topS pw 14)) (binds := [("s", v)]) (ps := [.str (txt (qText o))]) (X := X) (by lia) (k _ _ G.unquote.1) (G.lim.keeps k) (G.unquote.2.keeps k) rfl rfl rfl rfl kd_unq nd_unq (xb.hk k) r ?_)
 intro s₁ env henv g F
 have G₁ : Grd pw s₁.heap := G.hk (k.trans g.hk)
 have hn : env.scope.names = (fd_unquote pw).scope.names := by rw [henv]; rfl
 have eg : env.globals = mainGlobals := by rw [henv]; rfl
 have eb : env.builtins = builtinsNs := by rw [henv]; rfl
 replace F : Fm env (own env ++ X) [] s.heap s₁.heap [some (.str (txt (qText o))), none, none] := F
 have e16 : ((o / 16 * 16 + o % 16 : Nat) : Int) = (o : Int) := by lia
 refine x_return (X := own env ++ X) (p := .str ⟨#[o]⟩) (Ev.call (Ev.glob F.toRd 1 (nm hn rfl) G₁.g_chr eg eb) (EvL.cons (p := .int o) (Ev.cast (Ev.call (Ev.glob F.toRd 2 (nm hn rfl) G₁.g_int eg eb) (EvL.cons (Ev.slice13 (Ev.name F.toRd 0 (nm hn rfl) rfl)) (EvL.cons Ev.int EvL.nil)) trivial (c_int16 (p := o / 16) (q := o % 16) (by lia) (by lia))) (congrArg PV.int e16)) EvL.nil) trivial ((c_chr (i := (o : Int)) (by lia) (by lia)).cast rfl rfl)) ?_
 intro v s' g' rv
 exact hq v s' (((g.mv _).trans (g'.mv _)).out (F.hk g'.hk)) (rv.less fun a ha => List.mem_append_right _ ha)
noncomputable def qPs : List PV := (List.range 256).map fun i => PV.str (txt (qText i))
theorem rep_strs {X : List Addr} {h : Heap} : ∀ (l : List Nat) (f : Nat -> Str) (g : Nat -> Tok), RepL X h (l.map fun i => PV.str (f i)) (l.map fun i => Value.str (f i) (g i))
 | [], _, _ => RepL.nil
 | i :: l, f, g => RepL.cons ⟨_, rfl⟩ (rep_strs l f g)
theorem c_quote (G : Grd pw h) (hd : A.depth + 20 < recursionLimit) (xb : XB h X) {o : Nat} (ho : o < 256) : Calls pw w A X h (.ref 73) [.str ⟨#[o]⟩] (.str (txt (qText o))) := by
 intro s Q E vs k r hq
 obtain ⟨v, rfl, r1⟩ := r.one
 refine wpAny_call (enter (fd := fd_quote pw) (body := bodyOf (topS pw 15)) (binds := [("c", v)]) (ps := [.str ⟨#[o]⟩]) (X := X) (by lia) (k _ _ G.quote.1) (G.lim.keeps k) (G.quote.2.keeps k) rfl rfl rfl rfl kd_quo nd_quo (xb.hk k) r ?_)
 intro s₁ env henv g F
 have G₁ : Grd pw s₁.heap := G.hk (k.trans g.hk)
 have hn : env.scope.names = (fd_quote pw).scope.names := by rw [henv]; rfl
 have eg : env.globals = mainGlobals := by rw [henv]; rfl
 have eb : env.builtins = builtinsNs := by rw [henv]; rfl
 replace F : Fm env (own env ++ X) [] s.heap s₁.heap [some (.str ⟨#[o]⟩), none, none] := F
 have L : Lw (own env ++ X) s₁.heap 46 qPs := by
  refine ⟨qArr, ⟨_, G₁.qmap, rfl, _, rfl⟩, ?_⟩
  unfold qArr qPs
  rw [List.toList_toArray]
  exact rep_strs _ _ _
 refine x_return (X := own env ++ X) (p := .str (txt (qText o))) (Ev.itemW L (Ev.glob F.toRd 1 (nm hn rfl) G₁.g_QUOPRI_MAP eg eb) (Ev.call (Ev.glob F.toRd 2 (nm hn rfl) G₁.g_ord eg eb) (EvL.cons (Ev.name F.toRd 0 (nm hn rfl) rfl) EvL.nil) trivial c_ord) (by lia) (by lia) ?_) ?_
 ·unfold qPs
  rw [Int.toNat_natCast, List.getElem?_map, List.getElem?_range ho]; rfl
 intro v s' g' rv
 exact hq v s' (((g.mv _).trans (g'.mv _)).out (F.hk g'.hk)) (rv.less fun a ha => List.mem_append_right _ ha)
theorem plainAttrs_match : PlainAttrs "re.Match" :=
 ⟨⟨"object.__getattribute__", by rw [typeLookup_type, builtinLookup_eq_fast]; kernel_rfl, by decide +kernel⟩, by rw [typeLookup_type, builtinLookup_eq_fast]; kernel_rfl⟩
theorem slot_match_group : Slot "re.Match" "group" "re.Match.group" :=
 .of (owner := "re.Match") (n := "group") (by rw [typeLookup_type, builtinLookup_eq_fast]; kernel_rfl) (by decide +kernel) (by decide +kernel) (by decide +kernel)
  (by first | exact .inl (by decide +kernel) | exact .inr (by decide +kernel)) (by rw [isSubtype_type]; kernel_rfl)
theorem type_match_group : typeOf (.builtin "re.Match.group") = pure (.type "method_descriptor") := by show builtinType _ = _; rw [builtinType_eq_fast]; kernel_rfl
theorem entry_match_group : entryFor table "re.Match.group" = some Builtin.«re.Match.group» := entryFor_of_tree (by kernel_rfl)
theorem args_match_group (a b : Value) : argsOk "re.Match.group" ⟨[a, b], []⟩ := by unfold argsOk; kernel_rfl
end
section
open PySem.Builtin.Re
def MatchAt (h : Heap) (F : Addr) (x : Str) : Prop := ∃ (t : Tok) (T : Addr) (li : Value) (n : Nat), h.get? F = some { cls := .type "re.Match", data := .fields #[.str x t, .ref 43, rawInt 0, rawInt 3, li, .ref T] } /\ h.get? T = some (tupObj #[rawInt 0, rawInt 3] n)
theorem MatchAt.hk {h h' : Heap} {F : Addr} {x : Str} (m : MatchAt h F x) (k : HK h h') : MatchAt h' F x := let ⟨t, T, li, n, a, b⟩ := m; ⟨t, T, li, n, k _ _ a, k _ _ b⟩
section
variable {prog : Program} {w : World} {A : Around} {E : Value -> Shared -> Prop} {X : List Addr} {h : Heap} {env : Env} {s : Shared}
theorem ite_no {α : Type} {M : Model} {c : Bool} {a b : Sem α} {Q : α -> Shared -> Prop} (hc : c = false) (h : wpAny M A b Q E s) : wpAny M A (if c = true then a else b) Q E s := by subst hc; exact h
theorem ite_yes {α : Type} {M : Model} {c : Bool} {a b : Sem α} {Q : α -> Shared -> Prop} (hc : c = true) (h : wpAny M A a Q E s) : wpAny M A (if c = true then a else b) Q E s := by subst hc; exact h
theorem call_group {F : Addr} {x : Str} {u : Tok} {Q : Value -> Shared -> Prop} (m : MatchAt s.heap F x) (h3 : x.length = 3) (hq : ∀ t k, Q (.str x t) { s with toks := k }) :
  wpAny (model prog w) A (PySem.call (.builtin "re.Match.group") [.ref F, .int 0 u]) Q E s := by
 obtain ⟨t, T, li, n, hF, hT⟩ := m
 refine wpAny_call_entry slot_match_group ⟨_, hF, rfl⟩ entry_match_group ?_ (args_match_group _ _)
 have hx : (⟨x.cps.extract 0 3⟩ : Str) = x := by
  apply Str.ext'
  show x.cps.extract 0 3 = x.cps
  have : x.cps.size = 3 := h3
  rw [<- this]; exact Array.extract_size
 obtain ⟨hp, g, d, tk, os⟩ := s
 dsimp only at hF hT hq
 unfold Builtin.«re.Match.group»
 repeat lk
 have eSp : Array.map reRawOf ((some #[rawInt 0, rawInt 3]).getD #[]) = #[0, 3] := by decide +kernel
 rw [eSp]
 refine ite_no (by rfl) ?_
 repeat lk
 refine (show wpAny _ _ (mkStr ⟨x.cps.extract 0 3⟩) _ _ _ from ?_)
 rw [hx]
 exact wpAny_mkStr (wpAny_pure ⟨_, rfl, hq _ _⟩) (by show x.cps.size <= _; have : x.cps.size = 3 := h3; rw [this]; decide)
end
theorem nd_um : ((fd_unquote_match pw).scope.names.map (·.1)).Nodup := by decide +kernel
theorem kd_um : ∀ x ∈ (fd_unquote_match pw).scope.names.take 1, x.2 = .local \/ x.2 = .cell := by decide +kernel
theorem plainAttrs_pat : PlainAttrs "re.Pattern" :=
 ⟨⟨"object.__getattribute__", by rw [typeLookup_type, builtinLookup_eq_fast]; kernel_rfl, by decide +kernel⟩, by rw [typeLookup_type, builtinLookup_eq_fast]; kernel_rfl⟩
theorem slot_pat_sub : Slot "re.Pattern" "sub" "re.Pattern.sub" :=
 .of (owner := "re.Pattern") (n := "sub") (by rw [typeLookup_type, builtinLookup_eq_fast]; kernel_rfl) (by decide +kernel) (by decide +kernel) (by decide +kernel)
  (by first | exact .inl (by decide +kernel) | exact .inr (by decide +kernel)) (by rw [isSubtype_type]; kernel_rfl)
theorem type_pat_sub : typeOf (.builtin "re.Pattern.sub") = pure (.type "method_descriptor") := by show builtinType _ = _; rw [builtinType_eq_fast]; kernel_rfl
theorem entry_pat_sub : entryFor table "re.Pattern.sub" = some Builtin.«re.Pattern.sub» := entryFor_of_tree (by kernel_rfl)
theorem entry_pat_loop : entryFor table "re.Pattern.sub.loop" = some Builtin.«re.Pattern.sub.loop» := entryFor_of_tree (by kernel_rfl)
theorem args_pat_sub (a b c : Value) : argsOk "re.Pattern.sub" ⟨[a, b, c], []⟩ := by unfold argsOk; kernel_rfl
theorem fn_call_some : typeLookup (.type "function") "__call__" = pure (some (.builtin "function.__call__")) := by rw [typeLookup_type, builtinLookup_eq_fast]; kernel_rfl
theorem sub_str_bytearray : isSubtype (.type "str") (.type "bytearray") = pure false := by rw [isSubtype_type]; kernel_rfl
theorem named_sub (a b : Value) : reNamed "re.Pattern.sub" "sub" ["repl", "string", "count"] 2 [a, b] [] = pure [some a, some b, none] := by kernel_rfl
section
variable {w : World} {A : Around} {E : Value -> Shared -> Prop} {X : List Addr} {h : Heap} {env : Env} {s : Shared}
theorem c_unquote_match (G : Grd pw h) (hd : A.depth + 40 < recursionLimit) (xb : XB h X) {o : Nat} (ho : o < 256) {F : Addr} (m : MatchAt h F (txt (qText o))) : Calls pw w A X h (.ref 85) [.obj (.ref F)] (.str ⟨#[o]⟩) := by
 intro s Q E vs k r hq
 obtain ⟨v, rfl, r1⟩ := r.one
 refine wpAny_call (enter (fd := fd_unquote_match pw) (body := bodyOf (topS pw 19)) (binds := [("match", v)]) (ps := [.obj (.ref F)]) (X := X) (by lia) (k _ _ G.unquote_match.1) (G.lim.keeps k) (G.unquote_match.2.keeps k) rfl rfl rfl rfl kd_um nd_um (xb.hk k) r ?_)
 intro s₁ env henv g F₁
 have G₁ : Grd pw s₁.heap := G.hk (k.trans g.hk)
 have hn : env.scope.names = (fd_unquote_match pw).scope.names := by rw [henv]; rfl
 have eg : env.globals = mainGlobals := by rw [henv]; rfl
 have eb : env.builtins = builtinsNs := by rw [henv]; rfl
 replace F₁ : Fm env (own env ++ X) [] s.heap s₁.heap [some (.obj (.ref F)), none, none] := F₁
 have m₁ := m.hk (k.trans g.hk)
 refine x_assign F₁ 1 (nm hn rfl) (.inl rfl) (p := .str (txt (qText o))) (Ev.meth (id := "re.Match.group") (Ev.name F₁.toRd 0 (nm hn rfl) rfl) (EvL.cons Ev.int EvL.nil) (fun s' v' k' r' => ?_) (fun s' Q' E' v' vs' k' r' rl' hq' => ?_)) fun s₂ m₂ F₂ => ?_
 ·obtain rfl : v' = .ref F := r'
  obtain ⟨t, T, li, n, hF, hT⟩ := m₁.hk k'
  exact GM.of ⟨_, hF, rfl⟩ plainAttrs_match slot_match_group type_match_group fun a e => by cases e; exact ⟨_, hF, rfl⟩
 ·obtain rfl : v' = .ref F := r'
  obtain ⟨u, rfl, t, rfl⟩ := rl'.one
  exact call_group (m₁.hk k') rfl fun t k => hq' _ _ (Gw.toks s' _) ⟨_, rfl⟩
 have G₂ : Grd pw s₂.heap := G.hk (k.trans F₂.keep.hk)
 refine x_return (Ev.call (Ev.glob F₂.toRd 2 (nm hn rfl) G₂.g_unquote eg eb) (EvL.cons (Ev.name F₂.toRd 1 (nm hn rfl) rfl) EvL.nil) ⟨_, _, G₂.unquote.1, rfl⟩ (c_unquote G₂ (by show A.depth + 1 + 20 < _; lia) F₂.xb ho)) ?_
 intro v s' g' rv
 exact hq v s' ((((g.mv _).trans m₂).trans (g'.mv _)).out (F₂.hk g'.hk)) (rv.less fun a ha => List.mem_append_right _ ha)
theorem raw_ints : (some ((reCode.map fun i => Value.int i 0).toArray)).getD #[] = (reCode.map fun i => Value.int i 0).toArray := rfl
theorem raw_code : (((reCode.map fun i => Value.int i 0).toArray).map reRawOf).map (·.toNat) = reC := by decide +kernel
theorem whole (G : Grd pw s.heap) {o : Nat} (ho : o < 256) {t : Tok} {Q : ReTarget -> Shared -> Prop} (hq : Q { pattern := .ref 43, string := .str (txt (qText o)) t, code := reC, text := esc o, kind := 0, groups := 0, pos := 0, lim := 3 } s) :
  wpAny (model pw w) A (reWholeTarget (.ref 43) (.str (txt (qText o)) t)) Q E s := by
 have h43 := G.reobj
 have h42 := G.recode
 unfold reObj at h43
 obtain ⟨hp, g, d, tk, os⟩ := s
 dsimp only at h43 h42 hq
 unfold reWholeTarget
 refine wpAny_bind (wpAny_fieldsOf h43 rfl ?_)
 refine wpAny_bind (wpAny_pure ?_)
 dsimp only
 refine ite_no (by rfl) ?_
 refine ite_no (by rfl) ?_
 refine wpAny_bind (wpAny_pure ?_)
 refine wpAny_bind ?_
 unfold reRawItems
 refine wpAny_bind (wpAny_seqItems h42 rfl (wpAny_pure (wpAny_pure ?_)))
 rw [raw_ints, raw_code]
 exact hq
end
section
variable {w : World} {A : Around} {E : Value -> Shared -> Prop} {X : List Addr} {h : Heap} {env : Env} {s : Shared} {R : Result -> Shared -> Prop}
noncomputable def loopArgs (x : Str) (t : Tok) (n d st : Int) (D : Addr) : Args := ⟨[.ref 43, .str x t, .ref 85, rawInt 1, rawInt 0, rawInt n, rawInt d, rawInt st, .bool false, .ref D, .bool false], []⟩
theorem sub_second (G : Grd pw s.heap) {o : Nat} (ho : o < 256) {t u : Tok} {D : Addr} {n : Nat} (hD : s.heap.get? D = some (listObj #[.str ⟨#[o]⟩ u] n)) (hq : ∀ t' k, R (.ok (.ret (.str ⟨#[o]⟩ t'))) { s with toks := k }) :
  codeAny (model pw w) A (.builtin "re.Pattern.sub.loop" (loopArgs (txt (qText o)) t 1 3 3 D)) R s := by
 refine codeAny_builtin entry_pat_loop ?_
 unfold loopArgs Builtin.«re.Pattern.sub.loop» rawInt
 refine wpAny_bind (whole G ho ?_)
 refine wpAny_bind ?_
 refine ite_no (by rfl) ?_
 unfold reNextFound
 refine run_end (K := 20) (by decide) (.inr ⟨sre_second ⟨o, ho⟩, ?_⟩)
 dsimp only
 rw [if_neg (by decide)]
 refine wpAny_bind ?_
 unfold reSlice
 refine ite_yes (by rfl) ?_
 have e0 : (⟨(esc o).extract 0 0⟩ : Str) = "" := by
  apply Str.ext'
  show (esc o).extract 0 0 = #[]
  simp
 rw [e0]
 refine wpAny_mkStr ?_ (by decide)
 refine wpAny_bind (wpAny_seqItems (s := { s with toks := s.toks + 1 }) hD rfl ?_)
 refine ite_no (by rfl) ?_
 refine wpAny_bind ?_
 show wpAny _ _ (call (Value.builtin "str.join") _) _ _ _
 have rl : RepL [] s.heap ([(⟨#[o]⟩ : Str)].map .str) (#[Value.str ⟨#[o]⟩ u] : Array Value).toList := RepL.cons ⟨_, rfl⟩ RepL.nil
 refine join_list (s := { s with toks := s.toks + 1 }) (x := "") (D := D) (items := #[.str ⟨#[o]⟩ u]) (ys := [⟨#[o]⟩]) ⟨_, hD, rfl, n, rfl⟩ (strs_are rl) (Nat.le_of_ble_eq_true rfl) ?_
 intro t' k'
 refine ite_no (by rfl) ?_
 refine wpAny_pure ?_
 have ej : Txt.join "" [(⟨#[o]⟩ : Str)] = ⟨#[o]⟩ := join_ones [o]
 rw [ej]
 exact hq t' k'
theorem reNew (G : Grd pw s.heap) {o : Nat} {t : Tok} {m : Sre.M} {Q : Value -> Shared -> Prop} (hs : m.start = 0) (hh : m.handed = 3)
  (hq : ∀ h' F, HK s.heap h' -> s.heap.get? F = none -> MatchAt h' F (txt (qText o)) -> Q (.ref F) { s with heap := h' }) :
  wpAny (model pw w) A (reNewMatch (.ref 43) (.str (txt (qText o)) t) 0 0 3 m) Q E s := by
 unfold reNewMatch
 refine ite_no (by rfl) ?_
 refine wpAny_bind (wpAny_newTuple ?_ (by show 2 <= sizeLine; decide))
 unfold newFields
 refine wpAny_newObj_type ?_ (by show 6 <= sizeLine + 2; decide)
 refine hq _ _ (fun b o e => Heap.get?_push_of_some _ (Heap.get?_push_of_some _ e)) ?_ ⟨t, s.heap.objs.size, rawInt m.lastindex, 0, ?_, ?_⟩
 ·show s.heap.get? (s.heap.push (tupObj #[rawInt m.start, rawInt m.handed] 0)).objs.size = none
  rw [Heap.size_push]
  cases q : s.heap.get? (s.heap.objs.size + 1) with
  | none => rfl
  | some o => exact absurd (Heap.lt_size q) (Nat.not_lt.mpr (Nat.le_succ _))
 ·exact Heap.get?_push_size _ rfl
 ·refine Heap.get?_push_of_some _ ?_
  show (s.heap.push (tupObj #[rawInt m.start, rawInt m.handed] 0)).get? s.heap.objs.size = _
  rw [hs, hh]
  exact Heap.get?_push_size _ rfl
end
theorem plain_pat_loop : plainId "re.Pattern.sub.loop" = true := by decide +kernel
theorem sre_at {o : Nat} (ho : o < 256) : isMatched ((Sre.forSearch reC (esc o) 0 0 3 false).runFor (4 * 20)) = true /\ ((Sre.forSearch reC (esc o) 0 0 3 false).runFor (4 * 20)).start = 0 /\ ((Sre.forSearch reC (esc o) 0 0 3 false).runFor (4 * 20)).handed = 3 := sre_first ⟨o, ho⟩
section
variable {w : World} {A : Around} {E : Value -> Shared -> Prop} {X : List Addr} {h : Heap} {env : Env} {s : Shared} {R : Result -> Shared -> Prop}
theorem sub_first (G : Grd pw s.heap) (hd : A.depth + 60 < recursionLimit) {o : Nat} (ho : o < 256) {t : Tok} {D : Addr} {n : Nat} (hD : s.heap.get? D = some (listObj #[] n))
  (hDG : ∀ h', Kp [D] s.heap h' -> Grd pw h')
  (hq : ∀ t' h' k, Kp [D] s.heap h' -> R (.ok (.ret (.str ⟨#[o]⟩ t'))) { s with heap := h', toks := k }) :
  codeAny (model pw w) A (.builtin "re.Pattern.sub.loop" (loopArgs (txt (qText o)) t 0 0 0 D)) R s := by
 refine codeAny_builtin entry_pat_loop ?_
 rw [Around.under_plainId plain_pat_loop]
 unfold loopArgs Builtin.«re.Pattern.sub.loop» rawInt
 refine wpAny_bind (whole G ho ?_)
 refine wpAny_bind ?_
 generalize hN : reNextFound _ _ _ = N
 refine ite_no (by rfl) ?_
 rw [<- hN]
 clear hN
 unfold reNextFound
 dsimp only
 have h1 := sre_at ho
 generalize hmf : (Sre.forSearch reC (esc o) 0 0 3 false).runFor (4 * 20) = mf at h1
 obtain ⟨hm, hst, hha⟩ := h1
 rw [show Int.toNat 0 = 0 from rfl]
 have hm' : isMatched ((Sre.forSearch reC (esc o) 0 0 3 false).runFor (4 * 20)) = true := by rw [hmf]; exact hm
 generalize Sre.forSearch reC (esc o) 0 0 3 false = m0 at *
 refine run_end (K := 20) (m := m0) (by decide) (.inl ⟨hm', ?_⟩)
 rw [hmf]
 dsimp only
 rw [if_neg (by rw [hst]; decide)]
 refine ite_no (by rfl) ?_
 refine wpAny_bind (reNew G hst hha fun h' F hk hF m => ?_)
 refine wpAny_bind (wpAny_holding (ite_yes (by rfl) ?_))
 have G' : Grd pw h' := G.hk hk
 refine c_unquote_match (A := A.in1) (X := []) (h := h') G' (by show A.depth + 40 < recursionLimit; lia) (fun _ z => nomatch z) ho m _ _ _ [.ref F] (HK.refl _) (RepL.cons rfl RepL.nil) fun v s' g rv => ?_
 obtain ⟨u, rfl⟩ := rv
 refine ite_yes (bne_iff_ne.mpr (by intro z; cases z)) ?_
 have hD' : s'.heap.get? D = some (listObj #[] n) := g.hk _ _ (hk _ _ hD)
 refine wpAny_bind (wpAny_updateSeq hD' rfl ?_ (by decide) (by show 1 <= sizeLine + 1; decide))
 refine wpAny_pure ⟨Code.quiet_builtin _ (by decide +kernel), ?_⟩
 rw [hst, hha]
 have hup : (s'.heap.update D (Obj.mapSeq fun x => x.push (.str ⟨#[o]⟩ u))).get? D = some (listObj #[.str ⟨#[o]⟩ u] (n + 1)) := ?up
 have hkp : Kp [D] s.heap (s'.heap.update D (Obj.mapSeq fun x => x.push (.str ⟨#[o]⟩ u))) := fun b ob hb e => by
  rw [Heap.get?_update_ne _ _ _ _ (by simpa using hb)]
  exact g.hk _ _ (hk _ _ e)
 refine sub_second (s := { s' with heap := s'.heap.update D (Obj.mapSeq fun x => x.push (.str ⟨#[o]⟩ u)) }) (hDG _ hkp) ho hup fun t' k => ?_
 ·obtain ⟨⟨h1, t1, rfl⟩, _⟩ := g
  exact hq t' _ k hkp
 case up => exact Heap.get?_update_self _ hD' (by rfl)
end
theorem nd_hd : ((fd_header_decode pw).scope.names.map (·.1)).Nodup := by decide +kernel
theorem kd_hd : ∀ x ∈ (fd_header_decode pw).scope.names.take 1, x.2 = .local \/ x.2 = .cell := by decide +kernel
theorem occ_none : ∀ o : Fin 256, (Builtin.Str.occurrences (txt (qText o.1)) "_" 0 (txt (qText o.1)).length ((txt (qText o.1)).length + 1)).isEmpty = true := by decide +kernel
section
variable {w : World} {A : Around} {E : Value -> Shared -> Prop} {X : List Addr} {h : Heap} {env : Env} {s : Shared} {R : Result -> Shared -> Prop}
theorem call_sub (G : Grd pw s.heap) (hd : A.depth + 80 < recursionLimit) {o : Nat} (ho : o < 256) {t : Tok} {Q : Value -> Shared -> Prop}
  (hq : ∀ t' h' k, HK s.heap h' -> Q (.str ⟨#[o]⟩ t') { s with heap := h', toks := k }) :
  wpAny (model pw w) A (PySem.call (.builtin "re.Pattern.sub") [.ref 43, .ref 85, .str (txt (qText o)) t]) Q E s := by
 have h43 := G.reobj
 refine wpAny_call (codeAny_call_builtin slot_pat_sub.plain entry_pat_sub (slot_pat_sub.check _ _ _ _ _ _ _ _ ⟨_, h43, rfl⟩ (args_pat_sub _ _ _) ?_))
 unfold Builtin.«re.Pattern.sub» reSubstitute
 dsimp only
 rw [named_sub]
 refine wpAny_bind (wpAny_pure ?_)
 dsimp only
 refine wpAny_bind (wpAny_pure ?_)
 refine wpAny_bind (wpAny_specialOf (T := "function") ⟨_, G.unquote_match.1, rfl⟩ fn_call_some ?_)
 refine wpAny_bind (wpAny_pure ?_)
 refine ite_yes (by rfl) ?_
 refine wpAny_bind (wpAny_pure ?_)
 refine wpAny_bind (wpAny_holding (whole G ho ?_))
 refine ite_yes (by rfl) ?_
 unfold reNotHeld
 refine wpAny_bind (wpAny_bind (wpAny_isInstance (typeIs_str _ _ _) sub_str_bytearray ?_))
 refine ite_no (by rfl) ?_
 refine wpAny_pure ?_
 refine wpAny_bind (wpAny_newList ?_ (by decide))
 refine wpAny_pure ⟨Code.quiet_builtin _ (by decide +kernel), ?_⟩
 have kpu : HK s.heap (s.heap.push (listObj #[] 0)) := (Gw.push s _).hk
 have fr := fresh_size s.heap
 have kk : ∀ h', Kp [s.heap.objs.size] (s.heap.push (listObj #[] 0)) h' -> HK s.heap h' := fun h' kp b ob e => kp b ob (by simp; rintro rfl; rw [fr] at e; cases e) (kpu b ob e)
 exact sub_first (s := { s with heap := s.heap.push (listObj #[] 0) }) (G.hk kpu) (by lia) ho (Heap.get?_push_size _ rfl) (fun h' kp => G.hk (kk h' kp)) fun t' h' k kp => hq t' h' k (kk h' kp)
theorem c_header_decode (G : Grd pw h) (hd : A.depth + 100 < recursionLimit) (xb : XB h X) {o : Nat} (ho : o < 256) : Calls pw w A X h (.ref 92) [.str (txt (qText o))] (.str ⟨#[o]⟩) := by
 intro s Q E vs k r hq
 obtain ⟨v, rfl, r1⟩ := r.one
 refine wpAny_call (enter (fd := fd_header_decode pw) (body := bodyOf (topS pw 20)) (binds := [("s", v)]) (ps := [.str (txt (qText o))]) (X := X) (by lia) (k _ _ G.header_decode.1) (G.lim.keeps k) (G.header_decode.2.keeps k) rfl rfl rfl rfl kd_hd nd_hd (xb.hk k) r ?_)
 intro s₁ env henv g F
 have G₁ : Grd pw s₁.heap := G.hk (k.trans g.hk)
 have hn : env.scope.names = (fd_header_decode pw).scope.names := by rw [henv]; rfl
 have eg : env.globals = mainGlobals := by rw [henv]; rfl
 have eb : env.builtins = builtinsNs := by rw [henv]; rfl
 replace F : Fm env (own env ++ X) [] s.heap s₁.heap [some (.str (txt (qText o))), none, none] := F
 refine x_assign F 0 (nm hn rfl) (.inl rfl) (p := .str (txt (qText o))) (Ev.meth (id := "str.replace") (Ev.name F.toRd 0 (nm hn rfl) rfl) (EvL.cons Ev.str (EvL.cons Ev.str EvL.nil)) (fun s' v' k' r' => ?_) (fun s' Q' E' v' vs' k' r' rl' hq' => ?_)) fun s₂ m₂ F₂ => ?_
 ·obtain ⟨t, rfl⟩ := r'
  exact GM.str PySem.F.slot_str_replace PySem.F.type_str_replace
 ·obtain ⟨t, rfl⟩ := r'
  obtain ⟨u1, u2, rfl, ⟨t1, rfl⟩, ⟨t2, rfl⟩⟩ := rl'.two
  have hoc := occ_none ⟨o, ho⟩
  dsimp only at hoc
  refine call_gives PySem.F.slot_str_replace (typeIs_str _ _ _) PySem.F.entry_str_replace (PySem.F.args_str_replace_3 _ _ _) (gives_str_replace (txt (qText o)) "_" " " t t1 t2 (by rw [hoc]; intro z; cases z)) ?_
  rw [hoc, Bool.true_or, if_pos rfl]
  exact hq' _ _ (Gw.refl s') ⟨_, rfl⟩
 have G₂ : Grd pw s₂.heap := G.hk (k.trans F₂.keep.hk)
 replace F₂ : Fm env (own env ++ X) [] s.heap s₂.heap [some (.str (txt (qText o))), none, none] := F₂
 refine x_return (X := own env ++ X) (p := .str ⟨#[o]⟩) (Ev.meth (id := "re.Pattern.sub") (Ev.glob F₂.toRd 1 (nm hn rfl) G₂.g_twin_re_1 eg eb) (EvL.cons (Ev.glob F₂.toRd 2 (nm hn rfl) G₂.g_unquote_match eg eb) (EvL.cons (Ev.name F₂.toRd 0 (nm hn rfl) rfl) EvL.nil)) (fun s' v' k' r' => ?_) (fun s' Q' E' v' vs' k' r' rl' hq' => ?_)) ?_
 ·obtain rfl : v' = .ref 43 := r'
  have h43 := (G₂.hk k').reobj
  exact GM.of ⟨_, h43, rfl⟩ plainAttrs_pat slot_pat_sub type_pat_sub fun a e => by cases e; exact ⟨_, h43, rfl⟩
 ·obtain rfl : v' = .ref 43 := r'
  obtain ⟨u1, u2, rfl, ru1, ⟨t2, rfl⟩⟩ := rl'.two
  obtain rfl : u1 = .ref 85 := ru1
  exact call_sub (G₂.hk k') (by show A.depth + 1 + 80 < recursionLimit; lia) ho fun t' h' k2 hk2 => hq' _ _ (Gw.heap hk2 k2) ⟨_, rfl⟩
 intro v s' g' rv
 exact hq v s' ((((g.mv _).trans m₂).trans (g'.mv _)).out (F₂.hk g'.hk)) (rv.less fun a ha => List.mem_append_right _ ha)
end
end
noncomputable abbrev bh (os : List Nat) : List Nat := byHand (os.map fun (o : Nat) => (o : Int))
structure PSt where
 signs : List Nat
 cells : List Nat
 deeds : List (List Nat × List Nat)
noncomputable def pWide (n : Int) : Nat := max 1 (n.fmod 4).toNat
noncomputable def pPlace (n : Int) (len : Nat) : Nat := ((n.fdiv 4).fmod ((len - pWide n + 1 : Nat) : Int)).toNat
noncomputable def pTaken (st : PSt) (n : Int) : List Nat := (st.cells.drop (pPlace n st.cells.length)).take (pWide n)
noncomputable def pOcts (st : PSt) (n : Int) : List Nat := (pTaken st n).map fun c => st.signs.getD c 0
noncomputable def pWritten (st : PSt) (n : Int) : List Nat := if n.fmod 4 = 0 then qText ((pOcts st n).getD 0 0) else bh (pOcts st n)
noncomputable def pMade (st : PSt) (n : Int) : List Nat := (List.range (pWritten st n).length).map (st.signs.length + ·)
noncomputable def pStep (st : PSt) (n : Int) : PSt :=
 ⟨st.signs ++ pWritten st n, st.cells.take (pPlace n st.cells.length) ++ pMade st n ++ st.cells.drop (pPlace n st.cells.length + pWide n), st.deeds ++ [(pTaken st n, pMade st n)]⟩
noncomputable def pPlan (row : List Nat) (ns : List Int) : PSt := ns.foldl pStep ⟨row, List.range row.length, []⟩
structure PInv (i : Nat) (st : PSt) : Prop where
 c3 : 3 <= st.cells.length
 cl : st.cells.length <= 5 + 4 * i
 sl : st.signs.length <= 5 + 4 * i
 cs : ∀ c ∈ st.cells, c < st.signs.length
 s256 : ∀ x ∈ st.signs, x < 256
 dl : st.deeds.length = i
theorem many_cases (os : List Int) (h1 : 1 <= os.length) (h3 : os.length <= 3) : (byHand os).length = 4 := by
 have : os.length = 1 \/ os.length = 2 \/ os.length = 3 := by lia
 unfold byHand hSigns hMany
 rw [List.length_append, List.length_map, List.length_range, List.length_replicate]
 rcases this with e | e | e <;> rw [e] <;> decide
theorem alpha_lt : ∀ n : Nat, (alphabet.cps[n]?).getD 0 < 128 := by
 intro n
 by_cases h : n < 64
 ·have : ∀ n : Fin 64, (alphabet.cps[n.1]?).getD 0 < 128 := by decide +kernel
  exact this ⟨n, h⟩
 ·rw [Array.getElem?_eq_none (by show alphabet.cps.size <= n; have : alphabet.cps.size = 64 := rfl; lia)]; decide
theorem byHand_lt (os : List Int) : ∀ x ∈ byHand os, x < 128 := by
 intro x hx
 unfold byHand at hx
 rcases List.mem_append.mp hx with hx | hx
 ·unfold hSigns at hx
  obtain ⟨k, _, rfl⟩ := List.mem_map.mp hx
  exact alpha_lt _
 ·have := List.eq_of_mem_replicate hx; lia
theorem hexd_lt {n : Nat} (h : n < 16) : hexd n < 128 := by unfold hexd; split <;> lia
theorem pWide_le (n : Int) : 1 <= pWide n /\ pWide n <= 3 := by
 unfold pWide
 have := Int.fmod_nonneg_of_pos n (show (0 : Int) < 4 by decide)
 have := Int.fmod_lt_of_pos n (show (0 : Int) < 4 by decide)
 lia
theorem pPlace_le (n : Int) {len : Nat} (h : 3 <= len) : pPlace n len + pWide n <= len := by
 unfold pPlace
 have hw := pWide_le n
 have h1 := Int.fmod_nonneg_of_pos (n.fdiv 4) (show (0 : Int) < ((len - pWide n + 1 : Nat) : Int) by lia)
 have h2 := Int.fmod_lt_of_pos (n.fdiv 4) (show (0 : Int) < ((len - pWide n + 1 : Nat) : Int) by lia)
 lia
theorem pTaken_len {st : PSt} {n : Int} (h : 3 <= st.cells.length) : (pTaken st n).length = pWide n := by
 unfold pTaken
 have := pPlace_le n h
 rw [List.length_take, List.length_drop]; lia
theorem pOcts_len {st : PSt} {n : Int} (h : 3 <= st.cells.length) : (pOcts st n).length = pWide n := by
 unfold pOcts; rw [List.length_map, pTaken_len h]
theorem pTaken_sub {st : PSt} {n : Int} {c : Nat} (h : c ∈ pTaken st n) : c ∈ st.cells := List.mem_of_mem_drop (List.mem_of_mem_take h)
theorem pOcts_lt {st : PSt} {n : Int} (h : ∀ x ∈ st.signs, x < 256) : ∀ x ∈ pOcts st n, x < 256 := by
 intro x hx
 unfold pOcts at hx
 obtain ⟨c, _, rfl⟩ := List.mem_map.mp hx
 rw [List.getD_eq_getElem?_getD]
 cases q : st.signs[c]? with
 | none => decide
 | some y => exact h y (List.mem_of_getElem? q)
theorem pWritten_len {st : PSt} {n : Int} (h : 3 <= st.cells.length) : (pWritten st n).length = if n.fmod 4 = 0 then 3 else 4 := by
 unfold pWritten
 split
 ·rfl
 ·have := pWide_le n
  exact many_cases _ (by rw [List.length_map, pOcts_len h]; lia) (by rw [List.length_map, pOcts_len h]; lia)
theorem getD_lt {l : List Nat} {i : Nat} (h : ∀ x ∈ l, x < 256) : l.getD i 0 < 256 := by
 rw [List.getD_eq_getElem?_getD]
 cases q : l[i]? with
 | none => decide
 | some y => exact h y (List.mem_of_getElem? q)
theorem pWritten_lt {st : PSt} {n : Int} (h : ∀ x ∈ st.signs, x < 256) : ∀ x ∈ pWritten st n, x < 128 := by
 intro x hx
 unfold pWritten at hx
 split at hx
 ·have h0 := getD_lt (i := 0) (pOcts_lt (n := n) h)
  unfold qText at hx
  simp only [List.mem_cons, List.not_mem_nil, or_false] at hx
  rcases hx with rfl | rfl | rfl
  ·decide
  ·exact hexd_lt (by lia)
  ·exact hexd_lt (by lia)
 ·exact byHand_lt _ x hx
theorem pMade_len (st : PSt) (n : Int) : (pMade st n).length = (pWritten st n).length := by unfold pMade; rw [List.length_map, List.length_range]
theorem PInv.step {i : Nat} {st : PSt} (h : PInv i st) (n : Int) : PInv (i + 1) (pStep st n) := by
 have hw := pWritten_len (n := n) h.c3
 have hw' : 3 <= (pWritten st n).length /\ (pWritten st n).length <= 4 := by rw [hw]; split <;> lia
 have hp := pPlace_le n h.c3
 have hwd := pWide_le n
 have hlen : (pStep st n).cells.length = pPlace n st.cells.length + (pWritten st n).length + (st.cells.length - (pPlace n st.cells.length + pWide n)) := by
  unfold pStep
  dsimp only
  rw [List.length_append, List.length_append, List.length_take, List.length_drop, pMade_len]; lia
 refine ⟨?_, ?_, ?_, ?_, ?_, ?_⟩
 ·rw [hlen]; lia
 ·rw [hlen]; have := h.cl; lia
 ·unfold pStep; dsimp only; rw [List.length_append]; have := h.sl; lia
 ·intro c hc
  have e : (pStep st n).signs.length = st.signs.length + (pWritten st n).length := by unfold pStep; dsimp only; rw [List.length_append]
  rw [e]
  unfold pStep at hc
  dsimp only at hc
  rcases List.mem_append.mp hc with hc | hc
  ·rcases List.mem_append.mp hc with hc | hc
   ·have := h.cs c (List.mem_of_mem_take hc); lia
   ·unfold pMade at hc
    obtain ⟨j, hj, rfl⟩ := List.mem_map.mp hc
    have := List.mem_range.mp hj; lia
  ·have := h.cs c (List.mem_of_mem_drop hc); lia
 ·intro x hx
  unfold pStep at hx
  dsimp only at hx
  rcases List.mem_append.mp hx with hx | hx
  ·exact h.s256 x hx
  ·have := pWritten_lt h.s256 x hx; lia
 ·unfold pStep; dsimp only; rw [List.length_append, h.dl]; rfl
theorem PInv.init {row : List Nat} (h3 : 3 <= row.length) (h5 : row.length <= 5) (hr : ∀ x ∈ row, x < 256) : PInv 0 ⟨row, List.range row.length, []⟩ :=
 ⟨by simpa using h3, by simpa using h5, by simpa using h5, fun c hc => by simpa using hc, hr, rfl⟩
theorem PInv.plan {row : List Nat} (h3 : 3 <= row.length) (h5 : row.length <= 5) (hr : ∀ x ∈ row, x < 256) (ns : List Int) : ∀ i, i <= ns.length -> PInv i (pPlan row (ns.take i))
 | 0, _ => by rw [List.take_zero]; exact PInv.init h3 h5 hr
 | i + 1, hi => by
  rw [List.take_add_one, List.getElem?_eq_getElem (by lia)]
  unfold pPlan
  rw [List.foldl_append]
  exact (PInv.plan h3 h5 hr ns i (by lia)).step _
theorem nd_plan : ((fd_plan pw).scope.names.map (·.1)).Nodup := by decide +kernel
theorem kd_plan : ∀ x ∈ (fd_plan pw).scope.names.take 2, x.2 = .local \/ x.2 = .cell := by decide +kernel
theorem hex_sign {n : Nat} (h : n < 16) : ("0123456789ABCDEF" : Str).cps[n]? = some (hexd n) := by
 have : ∀ n : Fin 16, ("0123456789ABCDEF" : Str).cps[n.1]? = some (hexd n.1) := by decide +kernel
 exact this ⟨n, h⟩
section
variable {w : World} {A : Around} {X : List Addr} {h : Heap}
set_option maxHeartbeats 2000000 in
theorem c_plan (G : Grd pw h) (hd : A.depth + 40 < recursionLimit) (hh : A.handled = none) (row : List Nat) (ns : List Int) (h3 : 3 <= row.length) (h5 : row.length <= 5) (hr : ∀ x ∈ row, x < 256) (hns : ns.length = 5) (xb : XB h X) :
  Calls pw w A X h (.ref 257) [pvN row, .list (ns.map .int)] (.tuple [pvS (pPlan row ns).signs, pvN (pPlan row ns).cells, .list ((pPlan row ns).deeds.map pvD)]) := by
 intro s Q E vs k r hq
 obtain ⟨v1, v2, rfl, r1, r2⟩ := r.two
 refine wpAny_call (enter (fd := fd_plan pw) (body := bodyOf (topS pw 37)) (binds := [("row", v1), ("numbers", v2)]) (ps := [pvN row, .list (ns.map .int)]) (X := X) (by lia) (k _ _ G.plan.1) (G.lim.keeps k) (G.plan.2.keeps k) rfl rfl rfl rfl kd_plan nd_plan (xb.hk k) r ?_)
 intro s₁ env henv g F
 have hn : env.scope.names = (fd_plan pw).scope.names := by rw [henv]; rfl
 have eg : env.globals = mainGlobals := by rw [henv]; rfl
 have eb : env.builtins = builtinsNs := by rw [henv]; rfl
 have hA : (A.deeper env).handled = none := hh
 replace F : Fm env (own env ++ X) [] s.heap s₁.heap [some (pvN row), some (.list (ns.map .int)), none, none, none, none, none, none, none, none, none, none, none, none, none, none, none] := F
 have G₁ : Grd pw s₁.heap := G.hk (k.trans F.keep.hk)
 refine x_assign F 2 (nm hn rfl) (.inr rfl) (p := pvS row) (Ev.cast (Ev.comp F.toRd hA (its := row.map fun (n : Nat) => PV.int n) 1 [] (fun q => match q with | .int k => .str ⟨#[k.toNat]⟩ | _ => .none) (fun _ => true) (CompOk.of (has := [true, true, false, false, false, false, false, false, false, false, false, false, false, false, false, false, false]) (by rw [hn]; decide +kernel) rfl) rfl (Ev.name F.toRd 0 (nm hn rfl) rfl) (Items.list _) ?_ ?_ ?_ ?_ ?_) ?_) ?_ (by rw [henv]; rfl)
 ·intro q hq; obtain ⟨i, _, rfl⟩ := List.mem_map.mp hq; exact trivial
 ·rw [List.length_map]; unfold sizeLine; lia
 ·intro q hq _; obtain ⟨i, _, rfl⟩ := List.mem_map.mp hq; exact trivial
 ·intros; exact TstAll.nil
 ·intro q hq _ en h' hcn eg' eb' kk rd
  obtain ⟨i, hi, rfl⟩ := List.mem_map.mp hq
  have := hr i hi
  exact Ev.call (Ev.glob rd 2 (nm hcn rfl) (G₁.hk kk).g_chr (eg'.trans eg) (eb'.trans eb)) (EvL.cons (Ev.name rd 1 (nm hcn rfl) rfl) EvL.nil) trivial (c_chr (by lia) (by lia))
 ·rw [filter_true, List.map_map]; show PV.list _ = PV.list ((ones row).map PV.str); rw [List.map_map]; rfl
 intro s₂ m₂ F₂
 replace F₂ : Fm env (own env ++ X) [] s.heap s₂.heap [some (pvN row), some (.list (ns.map .int)), some (pvS row), none, none, none, none, none, none, none, none, none, none, none, none, none, none] := F₂
 have G₂ : Grd pw s₂.heap := G.hk (k.trans F₂.keep.hk)
 refine x_assign F₂ 3 (nm hn rfl) (.inl rfl) (Ev.call (Ev.glob F₂.toRd 12 (nm hn rfl) G₂.g_list eg eb) (EvL.cons (Ev.call (Ev.glob F₂.toRd 13 (nm hn rfl) G₂.g_range eg eb) (EvL.cons (Ev.call (Ev.glob F₂.toRd 14 (nm hn rfl) G₂.g_len eg eb) (EvL.cons (Ev.name F₂.toRd 2 (nm hn rfl) rfl) EvL.nil) trivial (c_lenO (by lia))) EvL.nil) trivial (c_range1 F₂.xb)) EvL.nil) trivial (c_list_rng0 F₂.xb hA (by lia))) fun s₃ m₃ F₃ => ?_
 replace F₃ : Fm env (own env ++ X) [] s.heap s₃.heap [some (pvN row), some (.list (ns.map .int)), some (pvS row), some (pvN (List.range row.length)), none, none, none, none, none, none, none, none, none, none, none, none, none] := F₃
 refine x_newlist F₃ 4 (nm hn rfl) (.inl rfl) rfl EvL.nil (by decide) fun a s₄ haX has h0a m₄ F₄ L₄ => ?_
 have hao : a ∉ own env := fun z => haX (List.mem_append_left _ z)
 have G₄ : Grd pw s₄.heap := G.hk (k.trans F₄.keep.hk)
 replace F₄ : Fm env (a :: (own env ++ X)) [] s.heap s₄.heap [some (pvN row), some (.list (ns.map .int)), some (pvS row), some (pvN (List.range row.length)), some (.obj (.ref a)), none, none, none, none, none, none, none, none, none, none, none, none] := F₄
 refine x_forR hA F₄ 5 (nm hn rfl) (.inl rfl) [a] (by simp) (by simp) (fun I i h => Ls (I :: a :: (own env ++ X)) h a ((pPlan row (ns.take i)).deeds.map pvD))
  (Ev.name F₄.toRd 1 (nm hn rfl) rfl) (Items.list _)
  (fun i => [some (pvN row), some (.list (ns.map .int)), some (pvS (pPlan row (ns.take i)).signs), some (pvN (pPlan row (ns.take i)).cells), some (.obj (.ref a)), none, none, none, none, none, none, none, none, none, none, none, none]) rfl ?_ ?_ ?_ ?_
 ·intro I h' k' hI
  obtain ⟨vs, n, e, rl⟩ := L₄
  exact Ls.hk ⟨vs, n, e, RepL.more (fun b hb => (List.mem_cons.mp hb).elim (fun e => .inr (e ▸ hI)) .inl) rl⟩ k'
 ·intro I i h1 h2 hI kp l
  have haI : a ≠ I := by rintro rfl; obtain ⟨vs, n, e, _⟩ := L₄; rw [hI] at e; cases e
  exact l.kp kp (fun b hb => (List.mem_cons.mp hb).elim (fun e => e ▸ List.mem_cons_self) fun z => List.mem_cons_of_mem _ (List.mem_cons_of_mem _ (List.mem_append_left _ z))) (by simp; exact ⟨haI, hao⟩)
 ·intro I i q s₅ E' hI hq' F₅ L₅
  rw [List.getElem?_map] at hq'
  cases hni : ns[i]? with
  | none => rw [hni] at hq'; cases hq'
  | some n =>
  rw [hni] at hq'
  obtain rfl : PV.int n = q := by simpa using hq'
  have hi : i < 5 := by have := (List.getElem?_eq_some_iff.mp hni).1; lia
  have inv := PInv.plan h3 h5 hr ns i (by lia)
  have enext : pPlan row (ns.take (i + 1)) = pStep (pPlan row (ns.take i)) n := by
   unfold pPlan; rw [List.take_add_one, hni, List.foldl_append]; rfl
  rw [enext]
  generalize pPlan row (ns.take i) = st at *
  have hwd := pWide_le n
  have hpl := pPlace_le n inv.c3
  have hcl := inv.cl
  have hsl := inv.sl
  replace F₅ : Fm env (I :: a :: (own env ++ X)) [] s.heap s₅.heap [some (pvN row), some (.list (ns.map .int)), some (pvS st.signs), some (pvN st.cells), some (.obj (.ref a)), some (.int n), none, none, none, none, none, none, none, none, none, none, none] := F₅
  have G₅ : Grd pw s₅.heap := G.hk (k.trans F₅.keep.hk)
  have hfm0 := Int.fmod_nonneg_of_pos n (show (0 : Int) < 4 by decide)
  have hfm4 := Int.fmod_lt_of_pos n (show (0 : Int) < 4 by decide)
  refine x_assign F₅ 6 (nm hn rfl) (.inl rfl) (p := .int (pWide n)) (Ev.cast (Ev.call (Ev.glob F₅.toRd 15 (nm hn rfl) G₅.g_max eg eb) (EvL.cons Ev.int (EvL.cons (Ev.mod (Ev.name F₅.toRd 5 (nm hn rfl) rfl) Ev.int (by decide)) EvL.nil)) trivial (c_max2 hA)) ?_) fun s₆ m₆ F₆ => ?_
  ·congr 1
   unfold pWide
   split <;> lia
  replace F₆ : Fm env (I :: a :: (own env ++ X)) [] s.heap s₆.heap [some (pvN row), some (.list (ns.map .int)), some (pvS st.signs), some (pvN st.cells), some (.obj (.ref a)), some (.int n), some (.int (pWide n)), none, none, none, none, none, none, none, none, none, none] := F₆
  have G₆ : Grd pw s₆.heap := G.hk (k.trans F₆.keep.hk)
  refine x_assign F₆ 7 (nm hn rfl) (.inl rfl) (p := .int (pPlace n st.cells.length)) (Ev.cast (Ev.mod (Ev.fdiv (Ev.name F₆.toRd 5 (nm hn rfl) rfl) Ev.int (by decide) (PyProof.noPylong_small (by decide))) (Ev.add (Ev.sub (Ev.call (Ev.glob F₆.toRd 14 (nm hn rfl) G₆.g_len eg eb) (EvL.cons (Ev.name F₆.toRd 3 (nm hn rfl) rfl) EvL.nil) trivial (c_lenN (by lia))) (Ev.name F₆.toRd 6 (nm hn rfl) rfl)) Ev.int) (by lia)) ?_) fun s₇ m₇ F₇ => ?_
  ·congr 1
   unfold pPlace
   have : ((st.cells.length : Int) - (pWide n : Int) + 1) = ((st.cells.length - pWide n + 1 : Nat) : Int) := by lia
   rw [this]
   have h1 := Int.fmod_nonneg_of_pos (n.fdiv 4) (show (0 : Int) < ((st.cells.length - pWide n + 1 : Nat) : Int) by lia)
   lia
  replace F₇ : Fm env (I :: a :: (own env ++ X)) [] s.heap s₇.heap [some (pvN row), some (.list (ns.map .int)), some (pvS st.signs), some (pvN st.cells), some (.obj (.ref a)), some (.int n), some (.int (pWide n)), some (.int (pPlace n st.cells.length)), none, none, none, none, none, none, none, none, none] := F₇
  have G₇ : Grd pw s₇.heap := G.hk (k.trans F₇.keep.hk)
  have evpw : ∀ {h' : Heap} {vals : List (Option PV)} (rd : Rd env (I :: a :: (own env ++ X)) h' vals) (_ : vals[7]? = some (some (.int (pPlace n st.cells.length)))) (_ : vals[6]? = some (some (.int (pWide n)))) (p1 p2 p3 : Pos), Ev pw w (A.deeper env) env (I :: a :: (own env ++ X)) h' (.BinOp (.Name "place" p1) .Add (.Name "wide" p2) p3) (.int ((pPlace n st.cells.length + pWide n : Nat) : Int)) := fun rd e7 e6 p1 p2 p3 =>
   (Ev.add (Ev.name rd 7 (nm hn rfl) e7) (Ev.name rd 6 (nm hn rfl) e6)).cast (by congr 1)
  refine x_assign F₇ 8 (nm hn rfl) (.inl rfl) (p := pvN (pTaken st n)) (Ev.cast (Ev.sliceL F₇.xb (Ev.name F₇.toRd 3 (nm hn rfl) rfl) (EvP.some (Ev.name F₇.toRd 7 (nm hn rfl) rfl)) (EvP.some (evpw F₇.toRd rfl rfl _ _ _)) (by rw [List.length_map]; unfold sizeLine; lia) (slice_run (by rw [List.length_map]; lia) (by lia))) ?_) fun s₈ m₈ F₈ => ?_
  ·rw [Nat.add_sub_cancel_left, <- List.map_drop, <- List.map_take]; rfl
  replace F₈ : Fm env (I :: a :: (own env ++ X)) [] s.heap s₈.heap [some (pvN row), some (.list (ns.map .int)), some (pvS st.signs), some (pvN st.cells), some (.obj (.ref a)), some (.int n), some (.int (pWide n)), some (.int (pPlace n st.cells.length)), some (pvN (pTaken st n)), none, none, none, none, none, none, none, none] := F₈
  have G₈ : Grd pw s₈.heap := G.hk (k.trans F₈.keep.hk)
  refine x_assignC F₈ hA (its := (pTaken st n).map fun (n : Nat) => PV.int n) 9 (nm hn rfl) 1 [(3, 2)] (fun q => match q with | .int k => .int (st.signs.getD k.toNat 0 : Nat) | _ => .none) (fun _ => true) (CompOk.of (has := [true, true, true, true, true, true, true, true, true, false, false, false, false, false, false, false, false]) (by rw [hn]; decide +kernel) rfl) rfl (Ev.name F₈.toRd 8 (nm hn rfl) rfl) (Items.list _) ?_ ?_ ?_ ?_ ?_ ?_ (by rw [henv]; rfl)
  ·intro q hq; obtain ⟨i, _, rfl⟩ := List.mem_map.mp hq; exact trivial
  ·rw [List.length_map, pTaken_len inv.c3]; unfold sizeLine; lia
  ·intro q hq _; obtain ⟨i, _, rfl⟩ := List.mem_map.mp hq; exact trivial
  ·intros; exact TstAll.nil
  ·intro q hq _ en h' hcn eg' eb' kk rd
   obtain ⟨c, hc, rfl⟩ := List.mem_map.mp hq
   have hcl := inv.cs c (pTaken_sub hc)
   replace rd : Rd en (I :: a :: (own env ++ X)) h' [none, some (.int c), none, some (pvS st.signs)] := rd
   have hget : st.signs[c]? = some (st.signs.getD c 0) := by rw [List.getD_eq_getElem?_getD, List.getElem?_eq_getElem hcl]; rfl
   exact Ev.call (Ev.glob rd 2 (nm hcn rfl) (G₈.hk kk).g_ord (eg'.trans eg) (eb'.trans eb)) (EvL.cons (Ev.item (Ev.name rd 3 (nm hcn rfl) rfl) (Ev.name rd 1 (nm hcn rfl) rfl) (by lia) (by lia) (ones_get hget)) EvL.nil) trivial c_ord
  intro s₉ m₉ F₉
  have e9 : (((pTaken st n).map fun (n : Nat) => PV.int n).filter (fun _ => true)).map (fun q => match q with | .int k => PV.int (st.signs.getD k.toNat 0 : Nat) | _ => .none) = (pOcts st n).map fun (n : Nat) => PV.int n := by
   rw [filter_true, List.map_map]; unfold pOcts; rw [List.map_map]; rfl
  rw [e9] at F₉
  replace F₉ : Fm env (I :: a :: (own env ++ X)) [] s.heap s₉.heap [some (pvN row), some (.list (ns.map .int)), some (pvS st.signs), some (pvN st.cells), some (.obj (.ref a)), some (.int n), some (.int (pWide n)), some (.int (pPlace n st.cells.length)), some (pvN (pTaken st n)), some (pvN (pOcts st n)), none, none, none, none, none, none, none] := F₉
  have G₉ : Grd pw s₉.heap := G.hk (k.trans F₉.keep.hk)
  have ho := pOcts_lt (n := n) inv.s256
  have hol := pOcts_len (n := n) inv.c3
  have hwl := pWritten_len (n := n) inv.c3
  have hwl4 : (pWritten st n).length <= 4 := by rw [hwl]; split <;> lia
  refine x_if (Tst.ints i_eq (Ev.mod (Ev.name F₉.toRd 5 (nm hn rfl) rfl) Ev.int (by decide)) Ev.int) fun s₁₀ g₁₀ => ?_
  have F₁₀ := F₉.hk g₁₀.hk
  have G₁₀ := G₉.hk g₁₀.hk
  refine onw_to (fun s' => Mv (own env) s₁₀ s' /\ Fm env (I :: a :: (own env ++ X)) [] s.heap s'.heap [some (pvN row), some (.list (ns.map .int)), some (pvS st.signs), some (pvN st.cells), some (.obj (.ref a)), some (.int n), some (.int (pWide n)), some (.int (pPlace n st.cells.length)), some (pvN (pTaken st n)), some (pvN (pOcts st n)), some (.str (txt (pWritten st n))), none, none, none, none, none, none]) ?_ ?_
  ·by_cases hc : n.fmod 4 = 0
   ·rw [show (n.fmod 4 == 0) = true from beq_iff_eq.mpr hc, if_pos rfl]
    have hw1 : pWide n = 1 := by unfold pWide; rw [hc]; rfl
    have h0 : (pOcts st n)[0]? = some ((pOcts st n).getD 0 0) := by rw [List.getD_eq_getElem?_getD, List.getElem?_eq_getElem (by lia)]; rfl
    have h256 := getD_lt (i := 0) ho
    have eW : pWritten st n = qText ((pOcts st n).getD 0 0) := by unfold pWritten; rw [if_pos hc]
    generalize (pOcts st n).getD 0 0 = o at *
    have ev0 : ∀ (p1 p2 p3 : Pos) (kk : Nat), Ev pw w (A.deeper env) env (I :: a :: (own env ++ X)) s₁₀.heap (.Subscript (.Name "octets" p1) (.Constant (.int 0) kk p2) p3) (.int o) := fun p1 p2 p3 kk => Ev.item (Ev.name F₁₀.toRd 9 (nm hn rfl) rfl) Ev.int (by decide) (by decide) (pvN_get h0)
    refine x_assign F₁₀ 10 (nm hn rfl) (.inl rfl) (p := .str (txt (pWritten st n))) (Ev.cast (Ev.cat (Ev.cat Ev.str (Ev.sign (c := hexd (o / 16)) Ev.str (Ev.fdiv (ev0 _ _ _ _) Ev.int (by decide) (PyProof.noPylong_small (by decide))) ?_ ?_ ?_) ?_) (Ev.sign (c := hexd (o % 16)) Ev.str (Ev.mod (ev0 _ _ _ _) Ev.int (by decide)) ?_ ?_ ?_) ?_) ?_) fun s' m F' => x_nil ⟨rfl, m, F'⟩
    ·rw [Int.fdiv_eq_ediv_of_nonneg _ (by decide)]; lia
    ·rw [Int.fdiv_eq_ediv_of_nonneg _ (by decide)]; lia
    ·rw [Int.fdiv_eq_ediv_of_nonneg _ (by decide)]
     exact hex_sign (by lia)
    ·show 2 <= sizeLine; decide
    ·rw [Int.fmod_eq_emod_of_nonneg _ (by decide)]; lia
    ·rw [Int.fmod_eq_emod_of_nonneg _ (by decide)]; lia
    ·rw [Int.fmod_eq_emod_of_nonneg _ (by decide)]
     exact hex_sign (by lia)
    ·show 3 <= sizeLine; decide
    ·rw [eW]; rfl
   ·rw [show (n.fmod 4 == 0) = false from beq_eq_false_iff_ne.mpr hc, if_neg (by decide)]
    have eW : pWritten st n = bh (pOcts st n) := by unfold pWritten; rw [if_neg hc]
    rw [eW]
    have ebh : PV.list ((List.map (fun (o : Nat) => (o : Int)) (pOcts st n)).map .int) = pvN (pOcts st n) := by rw [List.map_map]; rfl
    refine x_assign F₁₀ 10 (nm hn rfl) (.inl rfl) (Ev.call (Ev.glob F₁₀.toRd 16 (nm hn rfl) G₁₀.g_law_by_hand eg eb) (EvL.cons (Ev.name F₁₀.toRd 9 (nm hn rfl) rfl) EvL.nil) ⟨_, _, G₁₀.by_hand.1, rfl⟩ ((c_by_hand G₁₀ (by show A.depth + 1 + 20 < _; lia) hA ((pOcts st n).map fun (o : Nat) => (o : Int)) (by rw [List.length_map]; lia) (by rw [List.length_map]; lia) F₁₀.xb).cast (by rw [ebh]) rfl)) fun s' m F' => x_nil ⟨rfl, m, F'⟩
  rintro s₁₁ ⟨m₁₁, F₁₁⟩
  have G₁₁ : Grd pw s₁₁.heap := G.hk (k.trans F₁₁.keep.hk)
  have evls : ∀ (p1 p2 p3 : Pos), Ev pw w (A.deeper env) env (I :: a :: (own env ++ X)) s₁₁.heap (.Call (.Name "len" p1) [.Name "signs" p2] [] p3) (.int st.signs.length) := fun p1 p2 p3 =>
   Ev.call (Ev.glob F₁₁.toRd 14 (nm hn rfl) G₁₁.g_len eg eb) (EvL.cons (Ev.name F₁₁.toRd 2 (nm hn rfl) rfl) EvL.nil) trivial (c_lenO (by lia))
  refine x_assign F₁₁ 11 (nm hn rfl) (.inl rfl) (p := pvN (pMade st n)) (Ev.call (Ev.glob F₁₁.toRd 12 (nm hn rfl) G₁₁.g_list eg eb) (EvL.cons (Ev.call (Ev.glob F₁₁.toRd 13 (nm hn rfl) G₁₁.g_range eg eb) (EvL.cons (evls _ _ _) (EvL.cons (Ev.add (evls _ _ _) (Ev.call (Ev.glob F₁₁.toRd 14 (nm hn rfl) G₁₁.g_len eg eb) (EvL.cons (Ev.name F₁₁.toRd 10 (nm hn rfl) rfl) EvL.nil) trivial (c_lenT (by lia)))) EvL.nil)) trivial (c_range2 F₁₁.xb)) EvL.nil) trivial (c_list_rngN F₁₁.xb hA (by lia) (by lia))) fun s₁₂ m₁₂ F₁₂ => ?_
  replace F₁₂ : Fm env (I :: a :: (own env ++ X)) [] s.heap s₁₂.heap [some (pvN row), some (.list (ns.map .int)), some (pvS st.signs), some (pvN st.cells), some (.obj (.ref a)), some (.int n), some (.int (pWide n)), some (.int (pPlace n st.cells.length)), some (pvN (pTaken st n)), some (pvN (pOcts st n)), some (.str (txt (pWritten st n))), some (pvN (pMade st n)), none, none, none, none, none] := F₁₂
  refine x_assign F₁₂ 2 (nm hn rfl) (.inr rfl) (p := pvS (st.signs ++ pWritten st n)) (Ev.cast (Ev.catL (ys := (ones (pWritten st n)).map PV.str) F₁₂.xb (Ev.name F₁₂.toRd 2 (nm hn rfl) rfl) (Ev.cast (Ev.comp F₁₂.toRd hA (its := (pWritten st n).map fun c => PV.str ⟨#[c]⟩) 1 [] (fun q => q) (fun _ => true) (CompOk.of (has := [true, true, true, true, true, true, true, true, true, true, true, true, false, false, false, false, false]) (by rw [hn]; decide +kernel) rfl) rfl (Ev.name F₁₂.toRd 10 (nm hn rfl) rfl) (Items.str _) ?_ ?_ ?_ ?_ ?_) ?_) ?_) ?_) fun s₁₃ m₁₃ F₁₃ => ?_
  ·intro q hq; obtain ⟨i, _, rfl⟩ := List.mem_map.mp hq; exact trivial
  ·rw [List.length_map]; unfold sizeLine; lia
  ·intro q hq _; obtain ⟨i, _, rfl⟩ := List.mem_map.mp hq; exact trivial
  ·intros; exact TstAll.nil
  ·intro q hq _ en h' hcn eg' eb' kk rd
   exact Ev.name rd 1 (nm hcn rfl) rfl
  ·rw [filter_true, List.map_id']; show PV.list _ = PV.list _; rw [List.map_map]; rfl
  ·rw [ones_len, ones_len]; unfold sizeLine; lia
  ·show PV.list _ = PV.list _; rw [<- List.map_append, <- List.map_append]
  replace F₁₃ : Fm env (I :: a :: (own env ++ X)) [] s.heap s₁₃.heap [some (pvN row), some (.list (ns.map .int)), some (pvS (st.signs ++ pWritten st n)), some (pvN st.cells), some (.obj (.ref a)), some (.int n), some (.int (pWide n)), some (.int (pPlace n st.cells.length)), some (pvN (pTaken st n)), some (pvN (pOcts st n)), some (.str (txt (pWritten st n))), some (pvN (pMade st n)), none, none, none, none, none] := F₁₃
  have hml := pMade_len st n
  refine x_assign F₁₃ 3 (nm hn rfl) (.inl rfl) (p := pvN (pStep st n).cells) (Ev.cast (Ev.catL F₁₃.xb (Ev.catL F₁₃.xb (Ev.sliceL F₁₃.xb (Ev.name F₁₃.toRd 3 (nm hn rfl) rfl) EvP.none (EvP.some (Ev.name F₁₃.toRd 7 (nm hn rfl) rfl)) (by rw [List.length_map]; unfold sizeLine; lia) slice_upto) (Ev.name F₁₃.toRd 11 (nm hn rfl) rfl) ?_) (Ev.sliceL F₁₃.xb (Ev.name F₁₃.toRd 3 (nm hn rfl) rfl) (EvP.some (evpw F₁₃.toRd rfl rfl _ _ _)) EvP.none (by rw [List.length_map]; unfold sizeLine; lia) slice_from) ?_) ?_) fun s₁₄ m₁₄ F₁₄ => ?_
  ·rw [<- List.map_take, List.length_map, List.length_map, List.length_take, hml]; unfold sizeLine; lia
  ·rw [<- List.map_take, <- List.map_drop, List.length_append, List.length_map, List.length_map, List.length_map, List.length_take, List.length_drop, hml]; unfold sizeLine; lia
  ·show PV.list _ = PV.list _; rw [<- List.map_take, <- List.map_drop, <- List.map_append, <- List.map_append]; rfl
  have Lx : Ls (I :: a :: (own env ++ X)) s₁₄.heap a (st.deeds.map pvD) := by
   have mm : Mv (own env) s₅ s₁₄ := ((((((((m₆.trans m₇).trans m₈).trans m₉).trans (g₁₀.mv _)).trans m₁₁).trans m₁₂).trans m₁₃).trans m₁₄)
   exact L₅.kp mm.kp (fun b hb => List.mem_cons_of_mem _ (List.mem_cons_of_mem _ (List.mem_append_left _ hb))) hao
  refine x_append F₁₄ Lx (by simp) hao (.inr h0a) (by rw [List.length_map, inv.dl]; unfold sizeLine; lia) (Ev.name F₁₄.toRd 4 (nm hn rfl) rfl) (Ev.tup F₁₄.xb (EvL.cons (Ev.name F₁₄.toRd 8 (nm hn rfl) rfl) (EvL.cons (Ev.name F₁₄.toRd 11 (nm hn rfl) rfl) EvL.nil)) sz2) (fun s₁₅ m₁₅ F₁₅ L₁₅ => x_nil ?_) rfl rfl (by rw [henv]; rfl) rfl
  refine ⟨?_, ?_, ?_⟩
  ·have mm : Mv (own env) s₅ s₁₄ := ((((((((m₆.trans m₇).trans m₈).trans m₉).trans (g₁₀.mv _)).trans m₁₁).trans m₁₂).trans m₁₃).trans m₁₄)
   exact (mm.mono (by intro b hb; exact List.mem_append_left _ hb)).trans (m₁₅.mono (by simp))
  ·exact ((((((F₁₅.forget 5).forget 6).forget 7).forget 8).forget 9).forget 10).forget 11
  ·show Ls _ _ a ((st.deeds ++ [(pTaken st n, pMade st n)]).map pvD)
   rw [List.map_append]; exact L₁₅
 ·intro I s₅ hI m₅ F₅ L₅
  rw [List.length_map, hns, show ns.take 5 = ns from by rw [<- hns, List.take_length]] at F₅ L₅
  replace F₅ : Fm env (a :: (own env ++ X)) [] s.heap s₅.heap [some (pvN row), some (.list (ns.map .int)), some (pvS (pPlan row ns).signs), some (pvN (pPlan row ns).cells), some (.obj (.ref a)), none, none, none, none, none, none, none, none, none, none, none, none] := F₅
  refine x_return (Ev.tup F₅.xb (EvL.cons (Ev.name F₅.toRd 2 (nm hn rfl) rfl) (EvL.cons (Ev.name F₅.toRd 3 (nm hn rfl) rfl) (EvL.cons (Ev.name F₅.toRd 4 (nm hn rfl) rfl) EvL.nil))) sz3) ?_
  intro v s' g' rv
  refine hq v s' ⟨ex_tr g.ex (ex_tr m₂.ex (ex_tr m₃.ex (ex_tr m₄.ex (ex_tr m₅.ex g'.ex)))), F₅.keep.hk.trans g'.hk⟩ ?_
  have L' : Rep X s'.heap (.list ((pPlan row ns).deeds.map pvD)) (.ref a) := (L₅.hk g'.hk).rep (fun b hb => List.mem_cons_of_mem _ (List.mem_cons_of_mem _ (List.mem_append_right _ hb))) fun z => haX (List.mem_append_right _ z)
  have sub : ∀ b, b ∈ X -> b ∈ a :: (own env ++ X) := fun b hb => List.mem_cons_of_mem _ (List.mem_append_right _ hb)
  unfold Rep at rv
  obtain ⟨t, nn, vs, rfl, ht, ho, rl⟩ := rv
  obtain ⟨u1, us, e1, p1, rl⟩ := rl
  obtain ⟨u2, us2, e2, p2, rl⟩ := rl
  obtain ⟨u3, us3, e3, p3, rl⟩ := rl
  obtain rfl : us3 = [] := rl
  obtain rfl : u3 = .ref a := p3
  refine rep_newT (fun z => ht (sub _ z)) ho ?_
  rw [e1, e2, e3]
  exact RepL.cons (p1.less sub) (RepL.cons (p2.less sub) (RepL.cons L' RepL.nil))
end
noncomputable def b64i (c : Nat) : Nat := (b64s.idxOf? c).getD 0
theorem b64i_c : ∀ n : Fin 64, b64i (b64c n.1) = n.1 /\ Txt.find alphabet ⟨#[b64c n.1]⟩ = (n.1 : Int) /\ b64c n.1 ≠ 61 := by decide +kernel
theorem b64i_eq : b64i 61 = 0 /\ Txt.find alphabet ⟨#[61]⟩ = -1 := by decide +kernel
def isB (c : Nat) : Prop := (∃ n, n < 64 /\ c = b64c n) \/ c = 61
theorem isB_find {c : Nat} (h : isB c) : (if Txt.find alphabet ⟨#[c]⟩ > 0 then Txt.find alphabet ⟨#[c]⟩ else 0) = (b64i c : Int) := by
 rcases h with ⟨n, hn, rfl⟩ | rfl
 ·obtain ⟨a, b, _⟩ := b64i_c ⟨n, hn⟩
  dsimp only at a b
  rw [a, b]; split <;> lia
 ·rw [b64i_eq.1, b64i_eq.2]; rfl
noncomputable def rNum (cs : List Nat) : Nat := cs.foldl (fun n c => n * 64 + b64i c) 0
theorem eAll_isB (os : List Nat) : ∀ c ∈ eAll os, isB c := by
 have hb : ∀ n, n < 64 -> isB (b64c n) := fun n h => .inl ⟨n, h, rfl⟩
 have ho : ∀ i, ∀ c ∈ eOut os i, isB c := by
  intro i
  induction i with
  | zero => intro c hc; cases hc
  | succ i ih =>
   intro c hc
   rcases List.mem_append.mp hc with hc | hc
   ·exact ih c hc
   ·obtain ⟨j, _, rfl⟩ := List.mem_map.mp hc; exact hb _ (Nat.mod_lt _ (by decide))
 intro c hc
 rcases List.mem_append.mp hc with hc | hc
 ·exact ho _ c hc
 ·unfold eTail at hc
  split at hc
  ·simp only [List.mem_cons, List.not_mem_nil, or_false] at hc
   rcases hc with rfl | rfl | rfl
   ·exact hb _ (by lia)
   ·exact .inr rfl
   ·exact .inr rfl
  ·split at hc
   ·simp only [List.mem_cons, List.not_mem_nil, or_false] at hc
    rcases hc with rfl | rfl
    ·exact hb _ (by lia)
    ·exact .inr rfl
   ·cases hc
theorem dvk {k x y : Nat} (h : y < k) : (x * k + y) / k = x /\ (x * k + y) % k = y := by
 rw [Nat.add_comm, Nat.add_mul_div_right _ _ (by lia), Nat.add_mul_mod_self_right, Nat.div_eq_of_lt h, Nat.mod_eq_of_lt h]; simp
theorem cut4 {a : Nat} (ha : a < 256) : ∃ p q, p < 64 /\ q < 4 /\ a = p * 4 + q := ⟨a / 4, a % 4, by lia, by lia, by lia⟩
theorem cut16 {a : Nat} (ha : a < 256) : ∃ p q, p < 16 /\ q < 16 /\ a = p * 16 + q := ⟨a / 16, a % 16, by lia, by lia, by lia⟩
theorem cut64 {a : Nat} (ha : a < 256) : ∃ p q, p < 4 /\ q < 64 /\ a = p * 64 + q := ⟨a / 64, a % 64, by lia, by lia, by lia⟩
theorem eLc1 (a : Nat) (l : List Nat) (ha : a < 256) : eLc (a :: l) 1 = a := by show (0 * 256 + a) % 65536 = a; rw [Nat.mod_eq_of_lt (by lia)]; lia
theorem eLc2 (a b : Nat) (l : List Nat) (ha : a < 256) (hb : b < 256) : eLc (a :: b :: l) 2 = a * 256 + b := by
 show (eLc (a :: b :: l) 1 * 256 + b) % 65536 = _; rw [eLc1 a _ ha, Nat.mod_eq_of_lt (by lia)]
theorem eLc3 (a b c : Nat) (l : List Nat) (ha : a < 256) (hb : b < 256) (hc : c < 256) : eLc (a :: b :: c :: l) 3 = b * 256 + c := by
 show (eLc (a :: b :: c :: l) 2 * 256 + c) % 65536 = _
 rw [eLc2 a b _ ha hb, show (a * 256 + b) * 256 + c = a * 65536 + (b * 256 + c) by lia]
 exact (dvk (by lia)).2
theorem eAll_1 (p q : Nat) (hp : p < 64) (hq : q < 4) : eAll [p * 4 + q] = [b64c p, b64c (q * 16), 61, 61] := by
 show [b64c (eLc [p * 4 + q] 1 / 2 ^ 2 % 64)] ++ [b64c (eLc [p * 4 + q] 1 % 4 * 16), 61, 61] = _
 rw [eLc1 _ _ (by lia), show (p * 4 + q) / 2 ^ 2 = p from (dvk hq).1, (dvk hq).2, Nat.mod_eq_of_lt hp]; rfl
theorem eAll_2 (p q r s : Nat) (hp : p < 64) (hq : q < 4) (hr : r < 16) (hs : s < 16) : eAll [p * 4 + q, r * 16 + s] = [b64c p, b64c (q * 16 + r), b64c (s * 4), 61] := by
 show ([b64c (eLc [p * 4 + q, r * 16 + s] 1 / 2 ^ 2 % 64)] ++ [b64c (eLc [p * 4 + q, r * 16 + s] 2 / 2 ^ 4 % 64)]) ++ [b64c (eLc [p * 4 + q, r * 16 + s] 2 % 16 * 4), 61] = _
 rw [eLc1 _ _ (by lia), eLc2 _ _ _ (by lia) (by lia), show (p * 4 + q) / 2 ^ 2 = p from (dvk hq).1, Nat.mod_eq_of_lt hp, show (p * 4 + q) * 256 + (r * 16 + s) = (p * 64 + (q * 16 + r)) * 16 + s by lia, show ((p * 64 + (q * 16 + r)) * 16 + s) / 2 ^ 4 = p * 64 + (q * 16 + r) from (dvk hs).1, (dvk hs).2, (dvk (show q * 16 + r < 64 by lia)).2]; rfl
theorem eAll_3 (p q r s t v : Nat) (hp : p < 64) (hq : q < 4) (hr : r < 16) (hs : s < 16) (ht : t < 4) (hv : v < 64) : eAll [p * 4 + q, r * 16 + s, t * 64 + v] = [b64c p, b64c (q * 16 + r), b64c (s * 4 + t), b64c v] := by
 show (([b64c (eLc [p * 4 + q, r * 16 + s, t * 64 + v] 1 / 2 ^ 2 % 64)] ++ [b64c (eLc [p * 4 + q, r * 16 + s, t * 64 + v] 2 / 2 ^ 4 % 64)]) ++ [b64c (eLc [p * 4 + q, r * 16 + s, t * 64 + v] 3 / 2 ^ 6 % 64), b64c (eLc [p * 4 + q, r * 16 + s, t * 64 + v] 3 / 1 % 64)]) ++ [] = _
 rw [eLc1 _ _ (by lia), eLc2 _ _ _ (by lia) (by lia), eLc3 _ _ _ _ (by lia) (by lia) (by lia), show (p * 4 + q) / 2 ^ 2 = p from (dvk hq).1, Nat.mod_eq_of_lt hp, show (p * 4 + q) * 256 + (r * 16 + s) = (p * 64 + (q * 16 + r)) * 16 + s by lia, show ((p * 64 + (q * 16 + r)) * 16 + s) / 2 ^ 4 = p * 64 + (q * 16 + r) from (dvk hs).1, (dvk (show q * 16 + r < 64 by lia)).2,
  show (r * 16 + s) * 256 + (t * 64 + v) = (r * 64 + (s * 4 + t)) * 64 + v by lia, show ((r * 64 + (s * 4 + t)) * 64 + v) / 2 ^ 6 = r * 64 + (s * 4 + t) from (dvk hv).1, (dvk (show s * 4 + t < 64 by lia)).2, Nat.div_one, (dvk hv).2]; rfl
noncomputable def rOct (cs : List Nat) : List Nat := [rNum cs / 65536, rNum cs / 256 % 256, rNum cs % 256].take (3 - cs.count 61)
theorem b64i_at {n : Nat} (h : n < 64) : b64i (b64c n) = n := (b64i_c ⟨n, h⟩).1
theorem b64_ne {n : Nat} (h : n < 64) : (b64c n == 61) = false := beq_eq_false_iff_ne.mpr (b64i_c ⟨n, h⟩).2.2
theorem oct3 {a b c : Nat} (hb : b < 256) (hc : c < 256) : ((a * 256 + b) * 256 + c) / 65536 = a /\ ((a * 256 + b) * 256 + c) / 256 % 256 = b /\ ((a * 256 + b) * 256 + c) % 256 = c := by
 have h := (dvk (x := a * 256 + b) hc).1
 refine ⟨?_, by rw [h]; exact (dvk hb).2, (dvk hc).2⟩
 rw [show (65536 : Nat) = 256 * 256 from rfl, <- Nat.div_div_eq_div_mul, h]; exact (dvk hb).1
theorem rOct_eAll {os : List Nat} (h1 : 1 <= os.length) (h3 : os.length <= 3) (hos : ∀ x ∈ os, x < 256) : rOct (eAll os) = os := by
 match os, h1, h3, hos with
 | [a], _, _, hos =>
  obtain ⟨p, q, hp, hq, rfl⟩ := cut4 (hos a (by simp))
  rw [eAll_1 p q hp hq]
  have e : rNum [b64c p, b64c (q * 16), 61, 61] = ((p * 4 + q) * 256 + 0) * 256 + 0 := by
   show ((((0 * 64 + b64i (b64c p)) * 64 + b64i (b64c (q * 16))) * 64 + b64i 61) * 64 + b64i 61) = _
   rw [b64i_at hp, b64i_at (by lia), b64i_eq.1]; lia
  unfold rOct
  rw [e, (oct3 (by decide) (by decide)).1]
  simp only [List.count_cons, List.count_nil, b64_ne hp, b64_ne (show q * 16 < 64 by lia)]; rfl
 | [a, b], _, _, hos =>
  obtain ⟨p, q, hp, hq, rfl⟩ := cut4 (hos a (by simp))
  obtain ⟨r, s, hr, hs, rfl⟩ := cut16 (hos b (by simp))
  rw [eAll_2 p q r s hp hq hr hs]
  have e : rNum [b64c p, b64c (q * 16 + r), b64c (s * 4), 61] = ((p * 4 + q) * 256 + (r * 16 + s)) * 256 + 0 := by
   show ((((0 * 64 + b64i (b64c p)) * 64 + b64i (b64c (q * 16 + r))) * 64 + b64i (b64c (s * 4))) * 64 + b64i 61) = _
   rw [b64i_at hp, b64i_at (show q * 16 + r < 64 by lia), b64i_at (show s * 4 < 64 by lia), b64i_eq.1]; lia
  have o := oct3 (a := p * 4 + q) (b := r * 16 + s) (c := 0) (by lia) (by decide)
  unfold rOct
  rw [e, o.1, o.2.1]
  simp only [List.count_cons, List.count_nil, b64_ne hp, b64_ne (show q * 16 + r < 64 by lia), b64_ne (show s * 4 < 64 by lia)]; rfl
 | [a, b, c], _, _, hos =>
  obtain ⟨p, q, hp, hq, rfl⟩ := cut4 (hos a (by simp))
  obtain ⟨r, s, hr, hs, rfl⟩ := cut16 (hos b (by simp))
  obtain ⟨t, v, ht, hv, rfl⟩ := cut64 (hos c (by simp))
  rw [eAll_3 p q r s t v hp hq hr hs ht hv]
  have e : rNum [b64c p, b64c (q * 16 + r), b64c (s * 4 + t), b64c v] = ((p * 4 + q) * 256 + (r * 16 + s)) * 256 + (t * 64 + v) := by
   show ((((0 * 64 + b64i (b64c p)) * 64 + b64i (b64c (q * 16 + r))) * 64 + b64i (b64c (s * 4 + t))) * 64 + b64i (b64c v)) = _
   rw [b64i_at hp, b64i_at (show q * 16 + r < 64 by lia), b64i_at (show s * 4 + t < 64 by lia), b64i_at hv]; lia
  have o := oct3 (a := p * 4 + q) (b := r * 16 + s) (c := t * 64 + v) (by lia) (by lia)
  unfold rOct
  rw [e, o.1, o.2.1, o.2.2]
  simp only [List.count_cons, List.count_nil, b64_ne hp, b64_ne (show q * 16 + r < 64 by lia), b64_ne (show s * 4 + t < 64 by lia), b64_ne hv]; rfl
theorem fdivN (a d : Nat) : (a : Int).fdiv (d : Int) = ((a / d : Nat) : Int) := by
 rw [Int.fdiv_eq_ediv_of_nonneg _ (Int.natCast_nonneg _)]; rfl
theorem fmodN (a d : Nat) : (a : Int).fmod (d : Int) = ((a % d : Nat) : Int) := by
 rw [Int.fmod_eq_emod_of_nonneg _ (Int.natCast_nonneg _)]; rfl
theorem nd_read : ((fd_read pw).scope.names.map (·.1)).Nodup := by decide +kernel
theorem kd_read : ∀ x ∈ (fd_read pw).scope.names.take 1, x.2 = .local \/ x.2 = .cell := by decide +kernel
section
variable {prog : Program} {w : World} {A : Around} {X : List Addr} {h : Heap} {env : Env}
theorem eq_str' {A : Around} {E : Value -> Shared -> Prop} {s : Shared} {x y : Str} {t u : Tok} {Q : Value -> Shared -> Prop} (h : Q (.bool (x.cps.toList == y.cps.toList)) s) : wpAny (model prog w) A (compareOp .Eq (.str x t) (.str y u)) Q E s :=
 compareOp_gives (op := .Eq) (typeIs_str s x t) (typeIs_str s y u) PySem.F.slot_str_eq PySem.F.entry_str_eq (PySem.F.args_str_eq_2 _ _) (gives_str_eq x y t u) (fun e => nomatch e) h
theorem Tst.eqStr {l r : Expr} {pos : Pos} {a b : Str} (x : Ev prog w A env X h l (.str a)) (y : Ev prog w A env X h r (.str b)) (hm : behindInMarks .Eq r = false := by rfl) :
  Tst prog w A env h (.Compare l [.Eq] [r] pos) (a.cps.toList == b.cps.toList) :=
 Tst.cmp x y (fun s Q E u v _ ra rb hq => by
  unfold Rep at ra rb
  obtain ⟨t, rfl⟩ := ra
  obtain ⟨t', rfl⟩ := rb
  exact eq_str' (hq s (Gw.refl s))) hm
theorem Ev.find {o e : Expr} {apos pos : Pos} {x y : Str} {pl : Sem Bool} (eo : Ev prog w A env X h o (.str x)) (ea : Ev prog w A env X h e (.str y))
  (hse : starEach [e] env = [(false, eval e env)] := by rfl)
  (he : eval (.Call (.Attribute o "find" apos) [e] [] pos) env = (do
   let ov <- eval o env
   standAt apos.atName
   let (f, first) <- holding [ov] (getMethod ov "find" pl)
   callWith pos f first (backTo pos (starEach [e] env)) []) := by rfl) :
  Ev prog w A env X h (.Call (.Attribute o "find" apos) [e] [] pos) (.int (Txt.find x y)) := by
 refine Ev.meth (id := "str.find") (pl := pl) eo (EvL.cons ea EvL.nil hse) (fun s v k r => ?_) (fun s Q E v vs k r rl hq => ?_) (fun pos => by rw [hse]; rfl) he
 ·unfold Rep at r; obtain ⟨t, rfl⟩ := r
  exact GM.str PySem.F.slot_str_find PySem.F.type_str_find
 ·unfold Rep at r; obtain ⟨t, rfl⟩ := r
  obtain ⟨u, rfl, t', rfl⟩ := rl.one
  exact SC.find (hq _ _ (Gw.tok s) ⟨_, rfl⟩)
theorem Ev.count {o e : Expr} {apos pos : Pos} {x y : Str} {pl : Sem Bool} (eo : Ev prog w A env X h o (.str x)) (ea : Ev prog w A env X h e (.str y))
  (hse : starEach [e] env = [(false, eval e env)] := by rfl)
  (he : eval (.Call (.Attribute o "count" apos) [e] [] pos) env = (do
   let ov <- eval o env
   standAt apos.atName
   let (f, first) <- holding [ov] (getMethod ov "count" pl)
   callWith pos f first (backTo pos (starEach [e] env)) []) := by rfl) :
  Ev prog w A env X h (.Call (.Attribute o "count" apos) [e] [] pos) (.int (Txt.count x y)) := by
 refine Ev.meth (id := "str.count") (pl := pl) eo (EvL.cons ea EvL.nil hse) (fun s v k r => ?_) (fun s Q E v vs k r rl hq => ?_) (fun pos => by rw [hse]; rfl) he
 ·unfold Rep at r; obtain ⟨t, rfl⟩ := r
  exact GM.str PySem.F.slot_str_count PySem.F.type_str_count
 ·unfold Rep at r; obtain ⟨t, rfl⟩ := r
  obtain ⟨u, rfl, t', rfl⟩ := rl.one
  exact SC.count (hq _ _ (Gw.tok s) ⟨_, rfl⟩)
theorem Ev.sliceG {value : Expr} {lower upper : Option Expr} {p pos : Pos} {xs ys : List PV} {lo hi : Option Int} (xb : XB h X) (x : Ev prog w A env X h value (.list xs)) (l : EvP prog w A env h lower lo) (u : EvP prog w A env h upper hi)
  (hsz : xs.length <= sizeLine) (hp : ∀ (X : List Addr) (h : Heap) (vs : Array Value), RepL X h xs vs.toList -> RepL X h ys (slicePick vs lo hi none).toList) :
  Ev prog w A env X h (.Subscript value (.Slice lower upper none p) pos) (.list ys) := by
 intro s Q E k hq
 refine Subscript_ (x s _ _ k fun o s₁ g₁ r₁ => wpAny_Slice (l s₁ _ _ (k.trans g₁.hk) fun vl s₂ g₂ p₂ => u s₂ _ _ ((k.trans g₁.hk).trans g₂.hk) fun vu s₃ g₃ p₃ => ?_))
 have r₃ := (r₁.hk g₂.hk).hk g₃.hk
 unfold Rep at r₃
 obtain ⟨a, n, vs, rfl, ha, ho, rl⟩ := r₃
 have h1 : vs.size = xs.length := by simpa using rl.length
 rw [evalPart_none]
 have hl : s₃.heap.IsList a vs := ⟨_, ho, rfl, n, rfl⟩
 refine wpAny_pure ?_
 have k3 := ((k.trans g₁.hk).trans g₂.hk).trans g₃.hk
 refine tail_any (ops := [_, _]) (hl.push _).typeIs slot_list_getitem.lookup (wpAny_getItem_list_slice (hl.push _) (Heap.IsSliceOf.new ..) p₂ p₃ .none (by simp) ?_ (h1 ▸ hsz)) rfl
 refine hq _ _ (((g₁.trans g₂).trans g₃).trans ⟨⟨_, s₃.toks, rfl⟩, fun b o e => Heap.get?_push_of_some _ (Heap.get?_push_of_some _ e)⟩) (rep_new ((xb.hk k3).fresh ?_) (Heap.get?_push_size _ rfl) ?_)
 ·show s₃.heap.get? (s₃.heap.push _).objs.size = none
  rw [Heap.size_push]
  cases q : s₃.heap.get? (s₃.heap.objs.size + 1) with
  | none => rfl
  | some o => exact absurd (Heap.lt_size q) (Nat.not_lt.mpr (Nat.le_succ _))
 ·exact hp X _ vs (rl.hk fun b o e => Heap.get?_push_of_some _ (Heap.get?_push_of_some _ e))
end
theorem cnt_count (c : Nat) : ∀ l : List Nat, cnt c l = (l.count c : Int)
 | [] => rfl
 | x :: l => by
  rw [List.count_cons]
  rw [cnt_cons, cnt_count c l]
  by_cases e : x = c
  ·rw [if_pos e, if_pos (beq_iff_eq.mpr e)]; lia
  ·rw [if_neg e, if_neg (by simpa using e)]; lia
section
variable {w : World} {A : Around} {X : List Addr} {h : Heap}
theorem c_read_q (G : Grd pw h) (hd : A.depth + 120 < recursionLimit) (xb : XB h X) {o : Nat} (ho : o < 256) : Calls pw w A X h (.ref 272) [.str (txt (qText o))] (.str ⟨#[o]⟩) := by
 intro s Q E vs k r hq
 obtain ⟨v, rfl, r1⟩ := r.one
 refine wpAny_call (enter (fd := fd_read pw) (body := bodyOf (topS pw 40)) (binds := [("piece", v)]) (ps := [.str (txt (qText o))]) (X := X) (by lia) (k _ _ G.read.1) (G.lim.keeps k) (G.read.2.keeps k) rfl rfl rfl rfl kd_read nd_read (xb.hk k) r ?_)
 intro s₁ env henv g F
 have G₁ : Grd pw s₁.heap := G.hk (k.trans g.hk)
 have hn : env.scope.names = (fd_read pw).scope.names := by rw [henv]; rfl
 have eg : env.globals = mainGlobals := by rw [henv]; rfl
 have eb : env.builtins = builtinsNs := by rw [henv]; rfl
 replace F : Fm env (own env ++ X) [] s.heap s₁.heap [some (.str (txt (qText o))), none, none, none, none, none, none, none, none, none] := F
 refine x_if (Tst.hcast (Tst.ints i_eq (Ev.call (Ev.glob F.toRd 5 (nm hn rfl) G₁.g_len eg eb) (EvL.cons (Ev.name F.toRd 0 (nm hn rfl) rfl) EvL.nil) trivial (c_lenT (xs := qText o) (by show 3 < 2 ^ 60; decide))) Ev.int) (show (((qText o).length : Int) == 3) = true from rfl)) fun s₂ g₂ => ?_
 rw [if_pos rfl]
 have F₂ := F.hk g₂.hk
 have G₂ := G₁.hk g₂.hk
 have evu : ∀ (p1 p2 p3 : Pos), Ev pw w (A.deeper env) env (own env ++ X) s₂.heap (.Call (.Name "unquote" p1) [.Name "piece" p2] [] p3) (.str ⟨#[o]⟩) := fun p1 p2 p3 =>
  Ev.call (Ev.glob F₂.toRd 7 (nm hn rfl) G₂.g_unquote eg eb) (EvL.cons (Ev.name F₂.toRd 0 (nm hn rfl) rfl) EvL.nil) ⟨_, _, G₂.unquote.1, rfl⟩ (c_unquote G₂ (by show A.depth + 1 + 20 < _; lia) F₂.xb ho)
 refine x_return (X := own env ++ X) (p := .str ⟨#[o]⟩) (Ev.ifExp (c := true) (Tst.hcast (Tst.eqStr (Ev.call (Ev.glob F₂.toRd 6 (nm hn rfl) G₂.g_header_decode eg eb) (EvL.cons (Ev.name F₂.toRd 0 (nm hn rfl) rfl) EvL.nil) ⟨_, _, G₂.header_decode.1, rfl⟩ (c_header_decode G₂ (by show A.depth + 1 + 100 < _; lia) F₂.xb ho)) (evu _ _ _)) (beq_self_eq_true _)) (fun _ => evu _ _ _) (fun e => by cases e)) ?_
 intro v s' g' rv
 exact hq v s' (((g.mv _).trans ((g₂.trans g').mv _)).out (F₂.hk g'.hk)) (rv.less fun a ha => List.mem_append_right _ ha)
end
theorem rNum_take {cs : List Nat} {i c : Nat} (h : cs[i]? = some c) : rNum (cs.take (i + 1)) = rNum (cs.take i) * 64 + b64i c := by
 unfold rNum; rw [List.take_add_one, h, List.foldl_append]; rfl
theorem Ev.max2 {prog : Program} {w : World} {A : Around} {X : List Addr} {h : Heap} {env : Env} {vals : List (Option PV)} (r : Rd env X h vals) (hh : A.handled = none) (i : Nat) {px pos : Pos} (hx : env.scope.names[i]? = some (("max" : Str), NameKind.globalImplicit)) (g : GlobIs h "max" (.builtin "max")) (eg : env.globals = mainGlobals) (eb : env.builtins = builtinsNs) {e1 e2 : Expr} {a b z : Int} (x : Ev prog w A env X h e1 (.int a)) (y : Ev prog w A env X h e2 (.int b)) (hz : (if b > a then b else a) = z)
  (hst : starEach [e1, e2] env = (false, eval e1 env) :: starEach [e2] env := by rfl) (hst2 : starEach [e2] env = [(false, eval e2 env)] := by rfl) : Ev prog w A env X h (.Call (.Name "max" px) [e1, e2] [] pos) (.int z) :=
 Ev.call (Ev.glob r i hx g eg eb) (EvL.cons x (EvL.cons y EvL.nil hst2) hst) trivial ((c_max2 hh).cast rfl (by rw [hz])) (fun pos => by rw [hst, hst2]; rfl)
section
variable {w : World} {A : Around} {X : List Addr} {h : Heap}
set_option maxHeartbeats 1000000 in
theorem c_read_b (G : Grd pw h) (hd : A.depth + 120 < recursionLimit) (hh : A.handled = none) (xb : XB h X) {os : List Nat} (h1 : 1 <= os.length) (h3 : os.length <= 3) (hos : ∀ x ∈ os, x < 256) : Calls pw w A X h (.ref 272) [.str (txt (eAll os))] (.str (txt os)) := by
 intro s Q E vs k r hq
 obtain ⟨v, rfl, r1⟩ := r.one
 refine wpAny_call (enter (fd := fd_read pw) (body := bodyOf (topS pw 40)) (binds := [("piece", v)]) (ps := [.str (txt (eAll os))]) (X := X) (by lia) (k _ _ G.read.1) (G.lim.keeps k) (G.read.2.keeps k) rfl rfl rfl rfl kd_read nd_read (xb.hk k) r ?_)
 intro s₁ env henv g F
 have G₁ : Grd pw s₁.heap := G.hk (k.trans g.hk)
 have hn : env.scope.names = (fd_read pw).scope.names := by rw [henv]; rfl
 have eg : env.globals = mainGlobals := by rw [henv]; rfl
 have eb : env.builtins = builtinsNs := by rw [henv]; rfl
 have hA : (A.deeper env).handled = none := hh
 have hlen := eAll_len h1 h3
 have hB := eAll_isB os
 have hoct := rOct_eAll h1 h3 hos
 generalize hcs : eAll os = cs at *
 replace F : Fm env (own env ++ X) [] s.heap s₁.heap [some (.str (txt cs)), none, none, none, none, none, none, none, none, none] := F
 refine x_if (Tst.hcast (Tst.ints i_eq (Ev.call (Ev.glob F.toRd 5 (nm hn rfl) G₁.g_len eg eb) (EvL.cons (Ev.name F.toRd 0 (nm hn rfl) rfl) EvL.nil) trivial (c_lenT (xs := cs) (by rw [hlen]; decide))) Ev.int) (show ((cs.length : Int) == 3) = false by rw [hlen]; rfl)) fun s₂ g₂ => ?_
 rw [if_neg (by decide)]
 refine x_nil ?_
 have F₂ := F.hk g₂.hk
 refine x_assign F₂ 1 (nm hn rfl) (.inl rfl) Ev.str fun s₃ m₃ F₃ => ?_
 refine x_assign F₃ 2 (nm hn rfl) (.inl rfl) Ev.int fun s₄ m₄ F₄ => ?_
 refine x_forF hA F₄ 3 (nm hn rfl) (.inl rfl) (Ev.name F₄.toRd 0 (nm hn rfl) rfl) (Items.str _)
  (fun i => [some (.str (txt cs)), some (.str alphabet), some (.int (rNum (cs.take i))), (if i = 0 then none else (cs[i - 1]?).map fun c => PV.str ⟨#[c]⟩), none, none, none, none, none, none]) rfl ?_ ?_
 ·intro I i q s₅ E' hq' F₅
  have hq'' : (cs.map fun c => PV.str ⟨#[c]⟩)[i]? = some q := hq'
  rw [List.getElem?_map] at hq''
  cases hc : cs[i]? with
  | none => rw [hc] at hq''; cases hq''
  | some c =>
   rw [hc] at hq''
   obtain rfl : PV.str ⟨#[c]⟩ = q := by simpa using hq''
   have G₅ : Grd pw s₅.heap := G.hk (k.trans F₅.keep.hk)
   replace F₅ : Fm env (I :: (own env ++ X)) [] s.heap s₅.heap [some (.str (txt cs)), some (.str alphabet), some (.int (rNum (cs.take i))), some (PV.str ⟨#[c]⟩), none, none, none, none, none, none] := F₅
   refine x_assign F₅ 2 (nm hn rfl) (.inl rfl) (p := .int (rNum (cs.take (i + 1)))) (Ev.cast (Ev.add (Ev.mul (Ev.name F₅.toRd 2 (nm hn rfl) rfl) Ev.int (mulOk_small (by decide))) (Ev.max2 F₅.toRd hA 8 (nm hn rfl) G₅.g_max eg eb Ev.int (Ev.find (Ev.name F₅.toRd 1 (nm hn rfl) rfl) (Ev.name F₅.toRd 3 (nm hn rfl) rfl)) (isB_find (hB c (List.mem_of_getElem? hc))))) ?_) fun s₆ m₆ F₆ => x_nil ⟨m₆, ?_⟩
   ·congr 1; rw [rNum_take hc]; lia
   ·have e2 : (if i + 1 = 0 then (none : Option PV) else (cs[i + 1 - 1]?).map fun c => PV.str ⟨#[c]⟩) = some (PV.str ⟨#[c]⟩) := by
     rw [if_neg (by lia), Nat.add_sub_cancel, hc]; rfl
    rw [e2]; exact F₆
 ·intro s₅ m₅ F₅
  have G₅ : Grd pw s₅.heap := G.hk (k.trans F₅.keep.hk)
  have eIt : ((txt cs).cps.toList.map fun c => PV.str ⟨#[c]⟩).length = cs.length := by rw [List.length_map]
  rw [eIt, List.take_length] at F₅
  replace F₅ : Fm env (own env ++ X) [] s.heap s₅.heap [some (.str (txt cs)), some (.str alphabet), some (.int (rNum cs)), none, none, none, none, none, none, none] := F₅.forget 3
  have hcnt : Txt.count (txt cs) "=" = (cs.count 61 : Int) := by
   rw [show ("=" : Str) = ⟨#[61]⟩ from rfl, count_cnt]
   exact cnt_count 61 cs
  have hc3 : cs.count 61 <= 3 \/ 3 < cs.count 61 := by lia
  have hcl : cs.count 61 < 3 := by
   have := congrArg List.length hoct
   unfold rOct at this
   rw [List.length_take] at this
   simp only [List.length_cons, List.length_nil] at this
   lia
  have evn : ∀ (p : Pos), Ev pw w (A.deeper env) env (own env ++ X) s₅.heap (.Name "number" p) (.int (rNum cs)) := fun p => Ev.name F₅.toRd 2 (nm hn rfl) rfl
  have d1 : ((rNum cs : Int).fdiv 65536) = ((rNum cs / 65536 : Nat) : Int) := fdivN _ 65536
  have d2 : (((rNum cs : Int).fdiv 256).fmod 256) = ((rNum cs / 256 % 256 : Nat) : Int) := by
   have a := fdivN (rNum cs) 256
   have b := fmodN (rNum cs / 256) 256
   rw [show ((256 : Nat) : Int) = 256 from rfl] at a b
   rw [a, b]
  have d3 : ((rNum cs : Int).fmod 256) = ((rNum cs % 256 : Nat) : Int) := fmodN _ 256
  refine x_assign F₅ 4 (nm hn rfl) (.inl rfl) (p := pvN os) (Ev.cast (Ev.sliceG F₅.xb (Ev.lst F₅.xb (EvL.cons (Ev.fdiv (evn _) Ev.int (by decide) (PyProof.noPylong_small (by decide))) (EvL.cons (Ev.mod (Ev.fdiv (evn _) Ev.int (by decide) (PyProof.noPylong_small (by decide))) Ev.int (by decide)) (EvL.cons (Ev.mod (evn _) Ev.int (by decide)) EvL.nil))) sz3) EvP.none (EvP.some (X := own env ++ X) (i := ((3 - cs.count 61 : Nat) : Int)) (Ev.cast (Ev.sub Ev.int (Ev.count (Ev.name F₅.toRd 0 (nm hn rfl) rfl) Ev.str)) ?_)) sz3 slice_upto) ?_) fun s₆ m₆ F₆ => ?_
  ·rw [hcnt]; congr 1; lia
  ·rw [<- hoct, d1, d2, d3]
   unfold rOct
   show PV.list _ = PV.list _
   rw [List.map_take]; rfl
  have G₆ : Grd pw s₆.heap := G.hk (k.trans F₆.keep.hk)
  replace F₆ : Fm env (own env ++ X) [] s.heap s₆.heap [some (.str (txt cs)), some (.str alphabet), some (.int (rNum cs)), none, some (pvN os), none, none, none, none, none] := F₆
  refine x_return (X := own env ++ X) (p := .str (txt os)) (Ev.ifExp (c := true) (Tst.hcast (Tst.eqStr (Ev.call (Ev.glob F₆.toRd 9 (nm hn rfl) G₆.g_law_encoded eg eb) (EvL.cons (Ev.name F₆.toRd 4 (nm hn rfl) rfl) EvL.nil) ⟨_, _, G₆.encoded.1, rfl⟩ (c_encoded G₆ (by show A.depth + 1 + 50 < _; lia) hA F₆.xb os h1 h3 hos)) (Ev.name F₆.toRd 0 (nm hn rfl) rfl)) (by rw [hcs]; exact beq_self_eq_true _)) (fun _ => Ev.join1 (cs := os) (Ev.cast (Ev.comp F₆.toRd hA (its := os.map fun (n : Nat) => PV.int n) 1 [] (fun q => match q with | .int k => .str ⟨#[k.toNat]⟩ | _ => .none) (fun _ => true) (CompOk.of (has := [true, true, true, false, true, false, false, false, false, false]) (by rw [hn]; decide +kernel) rfl) rfl (Ev.name F₆.toRd 4 (nm hn rfl) rfl) (Items.list _) ?_ ?_ ?_ ?_ ?_) ?_) ?_) (fun e => by cases e)) ?_
  ·intro q hq; obtain ⟨i, _, rfl⟩ := List.mem_map.mp hq; exact trivial
  ·rw [List.length_map]; unfold sizeLine; lia
  ·intro q hq _; obtain ⟨i, _, rfl⟩ := List.mem_map.mp hq; exact trivial
  ·intros; exact TstAll.nil
  ·intro q hq _ en h' hcn eg' eb' kk rd
   obtain ⟨i, hi, rfl⟩ := List.mem_map.mp hq
   have := hos i hi
   exact Ev.call (Ev.glob rd 2 (nm hcn rfl) (G₆.hk kk).g_chr (eg'.trans eg) (eb'.trans eb)) (EvL.cons (Ev.name rd 1 (nm hcn rfl) rfl) EvL.nil) trivial (c_chr (by lia) (by lia))
  ·rw [filter_true, List.map_map]; show PV.list _ = PV.list ((ones os).map PV.str); rw [List.map_map]; rfl
  ·lia
  ·intro v s' g' rv
   exact hq v s' (((((((g.mv _).trans (g₂.mv _)).trans m₃).trans m₄).trans m₅).trans (m₆.trans (g'.mv _))).out (F₆.hk g'.hk)) (rv.less fun a ha => List.mem_append_right _ ha)
end
theorem valueAt_stored (kvs : List (Int × Value)) (k : Int) (v : Value) (x : Int) : valueAt (stored kvs k v) x = if x = k then some v else valueAt kvs x := by
 unfold stored
 by_cases h : kvs.any (fun kv => kv.1 = k) = true
 ·rw [if_pos h]
  unfold valueAt
  induction kvs with
  | nil => cases h
  | cons kv r ih =>
   rw [List.map_cons, List.find?_cons, List.find?_cons]
   by_cases hk : kv.1 = k
   ·rw [if_pos hk]
    by_cases hx : x = k
    ·subst hx; simp [hk]
    ·rw [if_neg hx]
     have h1 : decide ((kv.1, v).1 = x) = false := decide_eq_false (by rw [hk]; exact fun e => hx e.symm)
     have h2 : decide (kv.1 = x) = false := decide_eq_false (by rw [hk]; exact fun e => hx e.symm)
     simp only [h1]
     by_cases hr : r.any (fun kv => kv.1 = k) = true
     ·have := ih hr; rw [if_neg hx] at this; exact this
     ·congr 1
      have : r.map (fun kv => if kv.1 = k then (kv.1, v) else kv) = r := map_store_of_not_mem r k v (by
       intro hm; obtain ⟨y, hy, rfl⟩ := List.mem_map.mp hm
       exact hr (List.any_eq_true.mpr ⟨y, hy, decide_eq_true rfl⟩))
      rw [this]
   ·rw [if_neg hk]
    have hr : r.any (fun kv => kv.1 = k) = true := by
     rw [List.any_cons, decide_eq_false hk, Bool.false_or] at h; exact h
    by_cases hx : kv.1 = x
    ·have : x ≠ k := fun e => hk (hx.trans e)
     rw [if_neg this, decide_eq_true hx]
    ·rw [decide_eq_false hx]
     exact ih hr
 ·rw [if_neg h]
  unfold valueAt
  rw [List.find?_append]
  have hno : ∀ y ∈ kvs, y.1 ≠ k := fun y hy e => h (List.any_eq_true.mpr ⟨y, hy, decide_eq_true e⟩)
  by_cases hx : x = k
  ·subst hx
   rw [if_pos rfl, List.find?_eq_none.mpr (fun y hy => by simpa using hno y hy)]
   simp
  ·rw [if_neg hx]
   cases hf : kvs.find? (fun kv => kv.1 = x) with
   | some y => rfl
   | none => simp; exact fun e => hx e.symm
theorem stored_length (kvs : List (Int × Value)) (k : Int) (v : Value) : (stored kvs k v).length <= kvs.length + 1 := by
 unfold stored
 split
 ·rw [List.length_map]; lia
 ·rw [List.length_append]; simp
def HD (w : World) (h : Heap) (a : Addr) (N : Nat) (f : Nat -> Option Nat) : Prop :=
 ∃ kvs, h.DictOf (intKind pw w) a kvs /\ kvs.length <= N /\ ∀ c s, f c = some s -> ∃ t, valueAt kvs (c : Int) = some (.str ⟨#[s]⟩ t)
theorem HD.kp {w : World} {M : List Addr} {h h' : Heap} {a : Addr} {N : Nat} {f : Nat -> Option Nat} (x : HD w h a N f) (k : Kp M h h') (ha : a ∉ M) : HD w h' a N f :=
 let ⟨kvs, d, l, p⟩ := x
 ⟨kvs, by obtain ⟨o, es, ep, ho, r⟩ := d; exact ⟨o, es, ep, k _ _ ha ho, r⟩, l, p⟩
theorem HD.hk {w : World} {h h' : Heap} {a : Addr} {N : Nat} {f : Nat -> Option Nat} (x : HD w h a N f) (k : HK h h') : HD w h' a N f := x.kp (k.kp []) (by simp)
theorem HD.ex {w : World} {h : Heap} {a : Addr} {N : Nat} {f : Nat -> Option Nat} (x : HD w h a N f) : ∃ o, h.get? a = some o := let ⟨_, ⟨o, _, _, ho, _⟩, _⟩ := x; ⟨o, ho⟩
noncomputable def setF (f : Nat -> Option Nat) (c s : Nat) : Nat -> Option Nat := fun x => if x = c then some s else f x
section
variable {w : World} {A : Around} {E : Value -> Shared -> Prop} {s : Shared} {X M : List Addr} {env : Env} {h₀ h h' : Heap} {vals : List (Option PV)} {a : Addr} {N : Nat} {f : Nat -> Option Nat}
theorem isInt_int (i : Int) (t : Tok) : (intKind pw w).is i (.int i t) = true := by show Value.isInt i (.int i t) = true; simp [Value.isInt]
theorem Ev.itemD {value slice : Expr} {pos : Pos} {c sg : Nat} (D : HD w h a N f) (x : Ev pw w A env X h value (.obj (.ref a))) (y : Ev pw w A env X h slice (.int c)) (hf : f c = some sg)
  (hs : ∀ o i, subscripted slice false o i = operate [o, i] (getItem o i) := by intro _ _; rfl) : Ev pw w A env X h (.Subscript value slice pos) (.str ⟨#[sg]⟩) :=
 Ev.sub' x y fun s Q E u v k ra rb hq => by
  obtain rfl : u = .ref a := ra
  obtain ⟨t, rfl⟩ := rb
  obtain ⟨kvs, d, _, p⟩ := D.hk k
  obtain ⟨t', e⟩ := p c sg hf
  exact tail_any d.typeIs slot_dict_getitem.lookup (wpAny_getItem_of (isInt_int _ _) d.mapOf e (hq _ _ (Gw.tok s) ⟨_, rfl⟩)) (hs _ _)
theorem x_setD (F : Fm env X M h₀ s.heap vals) (D : HD w s.heap a N f) (ha : a ∈ X) (hao : a ∉ own env) (hM : a ∈ M \/ h₀.get? a = none) (hN : N <= 1000) {o ie e : Expr} {c sg : Nat} {tpos pos : Pos} {rest : List Stmt} {Q : Flow -> Shared -> Prop}
  (x : Ev pw w A env X s.heap o (.obj (.ref a))) (yi : Ev pw w A env X s.heap ie (.int c)) (y : Ev pw w A env X s.heap e (.str ⟨#[sg]⟩))
  (next : ∀ s', Mv [a] s s' -> Fm env X M h₀ s'.heap vals -> HD w s'.heap a (N + 1) (setF f c sg) -> wpAny (model pw w) A (execs rest env) Q E s')
  (hs : swapsWith e (some (.Subscript o ie tpos)) pos.line env = pure false := by rfl) :
  wpAny (model pw w) A (execs (.Assign [.Subscript o ie tpos] e pos :: rest) env) Q E s := by
 refine wpAny_execs_cons (wpAny_Assign_Subscript (y s _ _ (HK.refl _) fun v s₁ g r => x s₁ _ _ g.hk fun ov s₂ g₂ r₂ => yi s₂ _ _ (g.hk.trans g₂.hk) fun iv s₃ g₃ r₃ => ?_) hs)
 obtain rfl : ov = .ref a := r₂
 obtain ⟨t, rfl⟩ := r₃
 obtain ⟨tv, rfl⟩ := r
 have k3 := (g.hk.trans g₂.hk).trans g₃.hk
 obtain ⟨kvs, d, l, p⟩ := D.hk k3
 refine wpAny_setItem_pairs (k := (c : Int)) (isInt_int _ _) d (fun h' hd' sb => ?_) (by unfold sizeLine; lia)
 have ks : Kp [a] s₃.heap h' := Kp.of_same sb
 refine next _ ⟨?_, fun b ob hb e => ks b ob hb (k3 b ob e)⟩ ((F.hk k3).turn sb ha hao hM (let ⟨o, _, _, e, _⟩ := hd'; ⟨o, e⟩)) ⟨_, hd', Nat.le_trans (stored_length _ _ _) (by lia), fun c' s' e => ?_⟩
 ·obtain ⟨⟨h4, t4, e4⟩, _⟩ := (g.trans g₂).trans g₃; subst e4; exact ⟨h', _, rfl⟩
 ·rw [valueAt_stored]
  unfold setF at e
  by_cases hc : c' = c
  ·subst hc; rw [if_pos rfl] at e; cases e
   rw [if_pos rfl]; exact ⟨_, rfl⟩
  ·rw [if_neg hc] at e
   rw [if_neg (by lia)]
   exact p c' s' e
end
noncomputable abbrev zs (xs : List Nat) : List Int := xs.map fun (n : Nat) => (n : Int)
theorem zs_inj {a b : List Nat} (h : zs a = zs b) : a = b := (List.map_inj_right (fun x y e => by lia)).mp h
theorem pvN_zs (xs : List Nat) : (xs.map fun (n : Nat) => PV.int n) = (zs xs).map PV.int := by rw [List.map_map]; rfl
theorem wt_small {n : Nat} (h : n < 2 ^ 20) : PyData.weight (.int (n : Int)) <= 20 := by
 simp only [PyData.weight]
 split
 ·lia
 ·rename_i hne
  have h0 : n ≠ 0 := by rintro rfl; exact hne rfl
  have : n.log2 < 20 := (Nat.log2_lt h0).mpr h
  rw [Int.natAbs_natCast]; lia
theorem wts_small : ∀ (xs : List Nat), (∀ x ∈ xs, x < 2 ^ 20) -> PyData.weightAll ((zs xs).map PyData.int) <= 21 * xs.length
 | [], _ => by simp [PyData.weightAll]
 | x :: xs, h => by
  have a := wt_small (h x List.mem_cons_self)
  have b := wts_small xs fun y hy => h y (List.mem_cons_of_mem _ hy)
  simp only [zs, List.map_cons, PyData.weightAll, List.length_cons] at b ⊢
  lia
theorem lay_small {xs : List Nat} (h : ∀ x ∈ xs, x < 2 ^ 20) (hl : xs.length <= 1000) : PyData.layable0 (.list ((zs xs).map PyData.int)) = true := by
 have s := PySem.W.shaped_ints (zs xs)
 have w := wts_small xs h
 show (SeqAt.shaped (.list ((zs xs).map PyData.int)) && decide (PyData.weight (.list ((zs xs).map PyData.int)) <= 2 ^ 20)) = true
 rw [s, Bool.true_and]
 refine decide_eq_true ?_
 simp only [PyData.weight]
 lia
section
variable {prog : Program} {w : World} {A : Around} {E : Value -> Shared -> Prop} {s : Shared} {X M : List Addr} {env : Env} {h₀ h h' : Heap} {vals : List (Option PV)}
theorem rep_zs {xs : List Nat} {v : Value} (r : Rep X h (pvN xs) v) : ∃ a n vs, v = .ref a /\ a ∉ X /\ h.get? a = some (listObj vs n) /\ IntsAre vs.toList (zs xs) /\ h.IsList a vs.toList.toArray := by
 unfold Rep at r
 obtain ⟨a, n, vs, rfl, ha, ho, rl⟩ := r
 rw [pvN_zs] at rl
 exact ⟨a, n, vs, rfl, ha, ho, ints_are rl, by rw [arr_list]; exact ⟨_, ho, rfl, n, rfl⟩⟩
theorem Tst.neN {l r : Expr} {pos : Pos} {a b : List Nat} (hu : A.units + 64 < cLine) (x : Ev prog w A env X h l (pvN a)) (y : Ev prog w A env X h r (pvN b)) (hm : behindInMarks .NotEq r = false := by rfl) :
  Tst prog w A env h (.Compare l [.NotEq] [r] pos) (!decide (a = b)) :=
 Tst.cmp x y (fun s Q E u v _ ra rb hq => by
  obtain ⟨a1, n1, v1, rfl, _, _, i1, l1⟩ := rep_zs ra
  obtain ⟨a2, n2, v2, rfl, _, _, i2, l2⟩ := rep_zs rb
  refine PySem.W.ne_intsK l1 i1 l2 i2 hu ?_
  have e : decide (zs a = zs b) = decide (a = b) := by
   by_cases h : a = b
   ·subst h; simp
   ·rw [decide_eq_false h, decide_eq_false]
    intro z; apply h
    exact zs_inj z
  rw [e]; exact hq s (Gw.refl s)) hm
theorem any_zs (xs : List Nat) (c : Nat) : (zs xs).any (· == (c : Int)) = decide (c ∈ xs) := by
 induction xs with
 | nil => rfl
 | cons x xs ih =>
  have : (zs (x :: xs)).any (· == (c : Int)) = (((x : Int) == (c : Int)) || (zs xs).any (· == (c : Int))) := rfl
  rw [this, ih]
  by_cases h : x = c
  ·subst h; simp
  ·rw [show ((x : Int) == (c : Int)) = false from beq_eq_false_iff_ne.mpr (by lia), Bool.false_or]
   by_cases h2 : c ∈ xs
   ·simp [h2]
   ·simp [h2]; exact fun e => h e.symm
theorem Tst.inN {l r : Expr} {pos : Pos} {xs : List Nat} {c : Nat} (x : Ev prog w A env X h l (.int c)) (y : Ev prog w A env X h r (pvN xs)) (hm : behindInMarks .In r = false := by rfl) :
  Tst prog w A env h (.Compare l [.In] [r] pos) (decide (c ∈ xs)) :=
 Tst.cmp x y (fun s Q E u v _ ra rb hq => by
  unfold Rep at ra; obtain ⟨t, rfl⟩ := ra
  obtain ⟨a2, n2, v2, rfl, _, _, i2, l2⟩ := rep_zs rb
  exact in_list_ints l2 i2 (by rw [any_zs]; exact hq s (Gw.refl s))) hm
theorem Tst.notInN {l r : Expr} {pos : Pos} {xs : List Nat} {c : Nat} (x : Ev prog w A env X h l (.int c)) (y : Ev prog w A env X h r (pvN xs)) (hm : behindInMarks .NotIn r = false := by rfl) :
  Tst prog w A env h (.Compare l [.NotIn] [r] pos) (!decide (c ∈ xs)) :=
 Tst.cmp x y (fun s Q E u v _ ra rb hq => by
  unfold Rep at ra; obtain ⟨t, rfl⟩ := ra
  obtain ⟨a2, n2, v2, rfl, _, _, i2, l2⟩ := rep_zs rb
  exact notin_list_ints l2 i2 (by rw [any_zs]; exact hq s (Gw.refl s))) hm
theorem idx_zs {xs : List Nat} {c : Nat} : (zs xs).idxOf (c : Int) = xs.idxOf c := by
 induction xs with
 | nil => rfl
 | cons x xs ih =>
  show ((x : Int) :: zs xs).idxOf (c : Int) = _
  rw [List.idxOf_cons, List.idxOf_cons, ih]
  by_cases h : x = c
  ·subst h; simp
  ·rw [show ((x : Int) == (c : Int)) = false from beq_eq_false_iff_ne.mpr (by lia), show (x == c) = false from beq_eq_false_iff_ne.mpr h]
theorem Ev.index {o e : Expr} {apos pos : Pos} {xs : List Nat} {c : Nat} {pl : Sem Bool} (eo : Ev prog w A env X h o (pvN xs)) (ea : Ev prog w A env X h e (.int c)) (hm : c ∈ xs) (hs : ∀ x ∈ xs, x < 2 ^ 20) (hl : xs.length <= 1000)
  (hse : starEach [e] env = [(false, eval e env)] := by rfl)
  (he : eval (.Call (.Attribute o "index" apos) [e] [] pos) env = (do
   let ov <- eval o env
   standAt apos.atName
   let (f, first) <- holding [ov] (getMethod ov "index" pl)
   callWith pos f first (backTo pos (starEach [e] env)) []) := by rfl) :
  Ev prog w A env X h (.Call (.Attribute o "index" apos) [e] [] pos) (.int (xs.idxOf c)) := by
 refine Ev.meth (id := "list.index") (pl := pl) eo (EvL.cons ea EvL.nil hse) (fun s v k r => ?_) (fun s Q E v vs k r rl hq => ?_) (fun pos => by rw [hse]; rfl) he
 ·obtain ⟨a, n, vs, rfl, _, ho, _, _⟩ := rep_zs r
  exact GM.list ho PySem.F.slot_list_index PySem.F.type_list_index
 ·obtain ⟨a, n, vs, rfl, _, ho, i1, l1⟩ := rep_zs r
  obtain ⟨u, rfl, t', rfl⟩ := rl.one
  refine index_list_ints l1 i1 (lay_small hs hl) (List.mem_map.mpr ⟨c, hm, rfl⟩) ?_
  rw [idx_zs]
  exact hq _ _ (Gw.tok s) ⟨_, rfl⟩
end
noncomputable abbrev lc2 (elt : Expr) (x1 : Str) (p1 : Pos) (iter1 : Expr) (x2 : Str) (p2 : Pos) (iter2 : Expr) (ifs : List Expr) (scope : Scope) (pos : Pos) : Expr := .ListComp elt [⟨.Name x1 p1, iter1, [], 0⟩, ⟨.Name x2 p2, iter2, ifs, 0⟩] scope pos
theorem compTurn2_1 (elt : Expr) (x1 : Str) (p1 : Pos) (iter1 : Expr) (x2 : Str) (p2 : Pos) (iter2 : Expr) (ifs : List Expr) (scope : Scope) (pos : Pos) (it acc : Value) (env : Env) :
  compTurn (lc2 elt x1 p1 iter1 x2 p2 iter2 ifs scope pos) 1 it acc env = (do
   standAt iter2.pos
   match <- pyNext it with
   | none => pure (.done .next)
   | some v =>
    letOwnedTupleGo (.Name x2 p2) it v
    assign (.Name x2 p2) env v
    let mut ok := true
    for c in ifs do
     if ok then ok <- isTrue c env (eval c env)
    if ok then
     (do let _ <- call (.builtin "list.append") [acc, <- eval elt env])
    again (.compLoop (lc2 elt x1 p1 iter1 x2 p2 iter2 ifs scope pos) 1 it acc env)) := by rfl
section
variable {prog : Program} {w : World} {A : Around} {E : Value -> Shared -> Prop} {s : Shared} {R : Result -> Shared -> Prop}
theorem codeAny_compStart2 {elt : Expr} {x1 : Str} {p1 : Pos} {iter1 : Expr} {x2 : Str} {p2 : Pos} {iter2 : Expr} {ifs : List Expr} {scope : Scope} {pos : Pos} {it acc : Value} {env : Env}
  (h0 : codeAny (model prog w) A (.compLoop (lc2 elt x1 p1 iter1 x2 p2 iter2 ifs scope pos) 1 it acc env) R s)
  (h : wpAny (model prog w) A (pyIter it) (fun it' s' => codeAny (model prog w) A (.compLoop (lc2 elt x1 p1 iter1 x2 p2 iter2 ifs scope pos) 1 it' acc env) R s') (notedBy (model prog w) A env fun x s' => R (.error x) s') s) :
  codeAny (model prog w) A (.compStart (lc2 elt x1 p1 iter1 x2 p2 iter2 ifs scope pos) 1 it acc env) R s := by
 refine codeAny_of_tree ?_
 show wpAny _ _ ((compStart (lc2 elt x1 p1 iter1 x2 p2 iter2 ifs scope pos) 1 it acc env).onRaise (fun x => do noteFrame x env; standAt theWindowsPlace)) _ _ s
 refine wpAny_notedAt ?_
 unfold compStart
 show wpAny _ _ (ask >>= _) _ _ s
 refine wpAny_bind (wpAny_askSetting (wpAny_ite ?_))
 split
 ·first
   | exact wpAny_bind (wpAny_pure (wpAny_pure (And.intro rfl h0)))
   | exact wpAny_pure (And.intro rfl h0)
 ·refine wpAny_bind (wpAny_rule ?_)
  show wpAny _ _ (standAt iter2.pos >>= _) _ _ s
  exact wpAny_bind (wpAny_standAt (wpAny_bind (wpAny_mono h (fun it' s' h' => wpAny_pure (And.intro rfl h')) fun _ _ x => x)))
structure C2 (h : Heap) (C D : Addr) (x1 : Str) (ov : Option Value) (res : List Nat) (hp : Heap) : Prop where
 hk : HK h hp
 ns : ∃ m, hp.Ns C m /\ ∀ v, ov = some v -> m x1 = some v
 acc : ∃ ys : Array Value, hp.PlainList D ys /\ IntsAre ys.toList (zs res)
theorem C2.keeps {h hp hp' : Heap} {C D : Addr} {x1 : Str} {ov : Option Value} {res : List Nat} (c : C2 h C D x1 ov res hp) (k : HK hp hp') : C2 h C D x1 ov res hp' :=
 ⟨c.hk.trans k, let ⟨m, n, e⟩ := c.ns; ⟨m, n.keeps k, e⟩, let ⟨ys, p, i⟩ := c.acc; ⟨ys, p.at fun o e => k _ _ e, i⟩⟩
theorem C2.kp {h hp hp' : Heap} {C D : Addr} {x1 : Str} {ov : Option Value} {res : List Nat} {M : List Addr} (c : C2 h C D x1 ov res hp) (k : Kp M hp hp') (hC : C ∉ M) (hD : D ∉ M) (hM : ∀ a ∈ M, h.get? a = none) : C2 h C D x1 ov res hp' :=
 ⟨fun b o e => k b o (fun z => by rw [hM b z] at e; cases e) (c.hk b o e), let ⟨m, n, e⟩ := c.ns; ⟨m, n.at' fun o e => k _ _ hC e, e⟩, let ⟨ys, p, i⟩ := c.acc; ⟨ys, p.at fun o e => k _ _ hD e, i⟩⟩
theorem zs_append (a b : List Nat) : zs (a ++ b) = zs a ++ zs b := List.map_append
theorem ints_append {vs us : List Value} {a b : List Int} (x : IntsAre vs a) (y : IntsAre us b) : IntsAre (vs ++ us) (a ++ b) := by
 induction x with
 | nil => exact y
 | cons k t _ ih => exact .cons k t ih
theorem ints_len {vs : List Value} {a : List Int} (x : IntsAre vs a) : vs.length = a.length := x.length
theorem comp2_inner {elt : Expr} {x1 : Str} {p1 : Pos} {iter1 : Expr} {x2 : Str} {p2 : Pos} {iter2 : Expr} {ifs : List Expr} {scope : Scope} {pos : Pos} {cenv : Env} {h : Heap} {I D : Addr} {n : Nat} {fp : List Addr} {P : Nat -> Value -> Prop} {St : Nat -> Heap -> Prop} {v1 : Value} {res : List Nat} (pr : Nat -> Bool)
  (W : Walks prog w A I fp [I] n P St) (hP : ∀ i u, i < n -> P i u -> ∃ t, u = .int (i : Int) t) (hC : cenv.locals ∉ fp) (hD : D ∉ fp) (hCD : D ≠ cenv.locals) (hI : h.get? I = none) (hCn : h.get? cenv.locals = none) (hDn : h.get? D = none)
  (hx2 : cenv.kindOf x2 = some .local) (hp : (cenv.scope.kind == .class || (cenv.scope.kind == .module && cenv.locals != cenv.globals)) = false) (h12 : x1 ≠ x2) (hsz : res.length + n <= 10000)
  (hst : St 0 s.heap) (c0 : C2 h cenv.locals D x1 (some v1) res s.heap)
  (tests : ∀ i (s' : Shared) (Q : Bool -> Shared -> Prop) (E : Value -> Shared -> Prop) m t, i < n -> HK h s'.heap -> s'.heap.Ns cenv.locals m -> m x1 = some v1 -> m x2 = some (.int (i : Int) t) -> (∀ s'', Gw s' s'' -> Q (pr i) s'') ->
   wpAny (model prog w) A (forIn ifs true fun c r => if r = true then do let ok <- isTrue c cenv (eval c cenv); pure (ForInStep.yield ok) else pure (ForInStep.yield r)) Q E s')
  (elts : ∀ i (s' : Shared) (Q : Value -> Shared -> Prop) (E : Value -> Shared -> Prop) m t, i < n -> HK h s'.heap -> s'.heap.Ns cenv.locals m -> m x1 = some v1 -> m x2 = some (.int (i : Int) t) -> (∀ t' s'', Gw s' s'' -> Q (.int (i : Int) t') s'') -> wpAny (model prog w) A (eval elt cenv) Q E s')
  (fin : ∀ s', Mv [cenv.locals, D, I] s s' -> C2 h cenv.locals D x1 (some v1) (res ++ (List.range n).filter pr) s'.heap -> R (.ok .next) s') :
  codeAny (model prog w) A (.compLoop (lc2 elt x1 p1 iter1 x2 p2 iter2 ifs scope pos) 1 (.ref I) (.ref D) cenv) R s := by
 have hIC : I ≠ cenv.locals := fun e => hC (e ▸ W.sub I (by simp))
 have hID : I ≠ D := fun e => hD (e ▸ W.sub I (by simp))
 refine codeAny_loop rfl (fun k s' => ∃ i, i <= n /\ k = n - i /\ St i s'.heap /\ C2 h cenv.locals D x1 (some v1) (res ++ (List.range i).filter pr) s'.heap /\ Mv [cenv.locals, D, I] s s') ?_ n ⟨0, Nat.zero_le _, by simp, hst, by simpa using c0, Mv.refl _ _⟩
 rintro k s' ⟨i, hi, rfl, st, c, mv⟩
 show wpAny _ A ((compTurn (lc2 elt x1 p1 iter1 x2 p2 iter2 ifs scope pos) 1 (.ref I) (.ref D) cenv).onRaise (fun x => do noteFrame x cenv; theTreesLotGoes x)) _ _ s'
 refine wpAny_noted ?_
 rw [compTurn2_1]
 refine wpAny_bind (wpAny_standAt (wpAny_bind ?_))
 by_cases hlt : i < n
 ·refine W.item i s' _ _ hlt st fun u h₁ tk hPu st₁ hk₁ => ?_
  obtain ⟨t, rfl⟩ := hP i u hlt hPu
  have kI : Kp [I] s'.heap h₁ := fun b o hb e => hk₁ b o hb e
  have c₁ := c.kp kI (by simp; exact fun e => hIC e.symm) (by simp; exact fun e => hID e.symm) (by simpa using hI)
  obtain ⟨m, hns, hm1⟩ := c₁.ns
  refine wpAny_bind (wpAny_pure ?_)
  refine wpAny_bind (wpAny_assign_Name (wpAny_storeName_local (s := { s' with heap := h₁, toks := tk }) hx2 hns (fun h₂ hn₂ hs₂ => ?_) hp))
  have kC : Kp [cenv.locals] h₁ h₂ := Kp.of_same hs₂
  have hk2 : HK h h₂ := fun b o e => kC b o (by simp; rintro rfl; rw [hCn] at e; cases e) (c₁.hk b o e)
  have hm2 : (fun y => if y = x2 then some (Value.int (i : Int) t) else m y) x1 = some v1 := by
   dsimp only; rw [if_neg h12]; exact hm1 v1 rfl
  have hmx : (fun y => if y = x2 then some (Value.int (i : Int) t) else m y) x2 = some (.int (i : Int) t) := by dsimp only; rw [if_pos rfl]
  refine wpAny_bind (tests i _ _ _ _ t hlt hk2 hn₂ hm2 hmx fun s₃ g₃ => ?_)
  obtain ⟨ys, pl, ii⟩ := c₁.acc
  have pl₂ : h₂.PlainList D ys := pl.at fun o e => kC _ _ (by simpa using hCD) e
  have st₂ : St (i + 1) h₂ := W.frame _ _ _ st₁ fun b hb o e => kC b o (by simp; rintro rfl; exact hC hb) e
  have mv₂ : Mv [cenv.locals, D, I] s { s' with heap := h₂, toks := tk + 1 } := mv.trans ⟨⟨h₂, tk + 1, rfl⟩, fun b o hb e => kC b o (fun z => hb (by simp at z; simp [z])) (kI b o (fun z => hb (by simp at z; simp [z])) e)⟩
  have hrange : (List.range (i + 1)).filter pr = (List.range i).filter pr ++ (if pr i = true then [i] else []) := by
   rw [List.range_succ, List.filter_append]
   congr 1
   by_cases h : pr i = true
   ·simp [h]
   ·simp [h]
  cases hpr : pr i with
  | false =>
   refine wpAny_pure ?_
   refine ⟨rfl, n - (i + 1), by lia, i + 1, hlt, rfl, W.frame _ _ _ st₂ fun b hb o e => g₃.hk b o e, ?_, mv₂.trans (g₃.mv _)⟩
   rw [hrange, hpr, if_neg (by decide), List.append_nil]
   exact ⟨hk2.trans g₃.hk, ⟨_, hn₂.keeps g₃.hk, fun v e => by cases e; exact hm2⟩, ys, pl₂.at fun o e => g₃.hk _ _ e, ii⟩
  | true =>
   refine wpAny_bind (wpAny_bind (elts i s₃ _ _ _ t hlt (hk2.trans g₃.hk) (hn₂.keeps g₃.hk) hm2 hmx fun t' s₄ g₄ => ?_))
   have kk := g₃.hk.trans g₄.hk
   have pl₄ : s₄.heap.PlainList D ys := pl₂.at fun o e => kk _ _ e
   have hyl : ys.size <= 10000 := by
    have := ints_len ii
    have e2 : ys.toList.length = ys.size := Array.length_toList
    have e3 : (zs (res ++ (List.range i).filter pr)).length = res.length + ((List.range i).filter pr).length := by rw [List.length_map, List.length_append]
    have e4 := List.length_filter_le pr (List.range i)
    rw [List.length_range] at e4
    lia
   refine wpAny_bind (wpAny_list_append_plain (hsz := by unfold sizeLine; lia) pl₄ fun h₅ pl₅ hs₅ => wpAny_pure (wpAny_pure ?_))
   have kD : Kp [D] s₄.heap h₅ := Kp.of_same hs₅
   refine ⟨rfl, n - (i + 1), by lia, i + 1, hlt, rfl, W.frame _ _ _ st₂ fun b hb o e => kD b o (by simp; rintro rfl; exact hD hb) (kk b o e), ?_, ?_⟩
   ·rw [hrange, hpr, if_pos rfl]
    refine ⟨fun b o e => kD b o (by simp; rintro rfl; rw [hDn] at e; cases e) (kk b o (hk2 b o e)), ⟨_, (hn₂.keeps kk).at' fun o e => kD _ _ (by simp; exact fun z => hCD z.symm) e, fun v e => by cases e; exact hm2⟩, _, pl₅, ?_⟩
    rw [<- List.append_assoc, zs_append, Array.toList_push]
    exact ints_append ii (.cons _ _ .nil)
   ·refine mv₂.trans ((g₃.mv _).trans ((g₄.mv _).trans ⟨⟨h₅, s₄.toks, rfl⟩, fun b o hb e => kD b o (fun z => hb (by simp at z; simp [z])) e⟩))
 ·have hin : i = n := by lia
  subst hin
  refine W.done s' _ _ st fun h₁ tk hk₁ => wpAny_pure ?_
  have kI : Kp [I] s'.heap h₁ := fun b o hb e => hk₁ b o hb e
  exact fin _ (mv.trans ⟨⟨h₁, tk, rfl⟩, kI.mono (by simp)⟩) (c.kp kI (by simp; exact fun e => hIC e.symm) (by simp; exact fun e => hID e.symm) (by simpa using hI))
end
section
variable {prog : Program} {w : World} {A : Around} {E : Value -> Shared -> Prop} {s : Shared} {R : Result -> Shared -> Prop} {env : Env} {X : List Addr} {h : Heap}
theorem comp_env {vals : List (Option PV)} (r : Rd env X h vals) {x : Str} {scope : Scope} {li : Nat} {jm : List (Nat × Nat)} (ok : CompOk scope.names env.scope.names vals li x jm) (hkind : scope.kind = .function) :
  ∃ cl, closureFor scope env = pure cl /\ (∀ C, (compEnvC scope cl C env).scope.names = relN scope.names) /\ ∀ C (h' : Heap) (m : Str -> Option Value) (vals' : List (Option PV)), HK h h' -> h'.Ns C m ->
   (∀ i pv, vals'[i]? = some (some pv) -> (∃ y v, scope.names[i]? = some (y, .local) /\ m y = some v /\ Rep X h' pv v) \/ ∃ j, jm.lookup i = some j /\ vals[j]? = some (some pv)) -> Rd (compEnvC scope cl C env) X h' vals' := by
 obtain ⟨hli, hnd, hnc, hfree', hjm'⟩ := ok
 have hfree : ∀ y, (y, NameKind.free) ∈ scope.names -> env.kindOf y = some .cell /\ ∃ c, env.cells.lookup y = some c := fun y hy => by
  obtain ⟨i, hi⟩ := List.mem_iff_getElem?.mp hy
  obtain ⟨j, pv, e1, e2, e3⟩ := hfree' i y hi
  refine ⟨r.kindOf e2, ?_⟩
  obtain ⟨v, hv, _⟩ := r.rd j y .cell pv e2 e3
  rcases hv with ⟨z, _⟩ | ⟨_, c, hc, _⟩
  ·cases z
  ·exact ⟨c, hc⟩
 have hjm : ∀ i j, jm.lookup i = some j -> ∃ y, scope.names[i]? = some (y, .free) /\ env.scope.names[j]? = some (y, .cell) := fun i j e => by
  obtain ⟨y, hy⟩ := hjm' i j e
  obtain ⟨j', pv, e1, e2, e3⟩ := hfree' i y hy
  rw [e] at e1; cases e1
  exact ⟨y, hy, e2⟩
 have hrel : ∀ {cl : List (Str × Addr)} (C : Addr), (compEnvC scope cl C env).scope.names = relN scope.names := fun C => by
  show (relabel scope env).names = _
  unfold relabel relN
  refine List.map_congr_left fun y hy => ?_
  obtain ⟨y, kk⟩ := y
  dsimp only
  by_cases hk : kk = .free
  ·subst hk
   rw [if_pos, if_pos rfl]
   simp only [Bool.and_eq_true, beq_iff_eq]
   exact ⟨⟨trivial, r.kind⟩, (hfree y hy).1⟩
  ·rw [if_neg, if_neg hk]
   simp [hk]
 obtain ⟨cl, ecl, hcl, _, hcl3⟩ := closure_of (env := env) (scope := scope) (names := scope.names) (acc := []) (fun y hy => (hfree y hy).2)
 have hclos : closureFor scope env = pure cl := by
  have e0 : closureFor scope env = ((forIn scope.names ([] : List (Str × Addr)) fun p cs => if p.2 == .free then do let a <- cellOf env p.1; pure (ForInStep.yield ((p.1, a) :: cs)) else pure (ForInStep.yield cs)) >>= fun cs => (pure cs : Sem _)) := rfl
  rw [e0, ecl]; rfl
 have hclk : ∀ y c, env.cells.lookup y = some c -> (y, NameKind.free) ∈ scope.names -> cl.lookup y = some c := fun y c hc hy => by
  obtain ⟨c', hc'⟩ := hcl3 y hy
  obtain ⟨d, hd⟩ := Option.isSome_iff_exists.mp (lookup_some_of_mem hc')
  rcases hcl _ (mem_of_lookup hd) with z | ⟨_, z⟩
  ·cases z
  ·dsimp only at z; rw [hc] at z; cases z; exact hd
 have hxl : scope.names.lookup x = some .local := lookup_of_nodup hnd hli
 refine ⟨cl, hclos, fun C => hrel C, fun C h' m vals' hk' ns hv => ?_⟩
 exact {
   kind := hkind
   nodup := by
    show (((relabel scope env).names).map (·.1)).Nodup
    have : (relabel scope env).names.map (·.1) = scope.names.map (·.1) := by
     unfold relabel
     rw [List.map_map]
     refine List.map_congr_left fun y _ => ?_
     obtain ⟨y, k⟩ := y
     dsimp only [Function.comp]
     split <;> rfl
    rw [this]; exact hnd
   rd := fun i y ky pv e1 e2 => by
    obtain ⟨k', e3, hk3⟩ := relabel_names e1
    rcases hv i pv e2 with ⟨z, v, f0, hm, rv⟩ | ⟨j, hj, hvj⟩
    ·rw [f0] at e3; cases e3
     rcases hk3 with ⟨rfl, _⟩ | ⟨z, _⟩
     ·exact ⟨v, .inl ⟨rfl, m, ns, hm⟩, rv⟩
     ·cases z
    ·obtain ⟨z, f1, f2⟩ := hjm i j hj
     rw [e3] at f1; cases f1
     obtain ⟨u, ru, rep⟩ := r.rd j y .cell pv f2 hvj
     have hmem := List.mem_of_getElem? e3
     rcases hk3 with ⟨_, hn'⟩ | ⟨_, rfl, _⟩
     ·exact absurd ⟨rfl, r.kind, (hfree y hmem).1⟩ hn'
     ·rcases ru with ⟨z, _⟩ | ⟨_, c, hc, hcell⟩
      ·cases z
      ·exact ⟨u, .inr ⟨rfl, c, hclk y c hc hmem, hcell.keeps hk'⟩, rep.hk hk'⟩
   xb := r.xb.hk hk' }
theorem turn0 {elt : Expr} {x1 : Str} {p1 : Pos} {iter1 : Expr} {x2 : Str} {p2 : Pos} {iter2 : Expr} {ifs : List Expr} {scope : Scope} {pos : Pos} {cenv : Env} {it acc : Value} {Q : PySem.Fin -> Shared -> Prop} (hs : ∀ x, foldedSetIterable iter2 cenv x = pure x)
  (h : wpAny (model prog w) A (pyNext it) (fun r s₁ => match r with
   | none => Q (.done .next) s₁
   | some v => wpAny (model prog w) A (assign (.Name x1 p1) cenv v) (fun _ s₂ => wpAny (model prog w) A (eval iter2 cenv) (fun x s₃ => wpAny (model prog w) A (pyIter x) (fun it2 s₄ =>
     codeAny (model prog w) A (.compStart (lc2 elt x1 p1 iter1 x2 p2 iter2 ifs scope pos) 1 it2 acc cenv) (fun r s₅ => match r with | .ok _ => Q (.again (.compLoop (lc2 elt x1 p1 iter1 x2 p2 iter2 ifs scope pos) 0 it acc cenv)) s₅ | .error e => cameBackBy (model prog w) A cenv E e s₅) s₄) E s₃) E s₂) E s₁) E s) :
  wpAny (model prog w) A (compTurn (lc2 elt x1 p1 iter1 x2 p2 iter2 ifs scope pos) 0 it acc cenv) Q E s := by
 unfold compTurn lc2
 dsimp only [List.getElem?_cons_zero]
 refine wpAny_bind (wpAny_standAt (wpAny_bind (wpAny_mono h (fun r s₁ h₁ => ?_) fun _ _ z => z)))
 cases r with
 | none => exact wpAny_pure h₁
 | some v =>
  refine wpAny_bind (wpAny_pure ?_)
  refine wpAny_bind (wpAny_mono h₁ (fun _ s₂ h₂ => ?_) fun _ _ z => z)
  refine wpAny_bind (wpAny_pure ?_)
  refine wpAny_bind (wpAny_mono h₂ (fun x s₃ h₃ => ?_) fun _ _ z => z)
  refine wpAny_bind (wpAny_standAt ?_)
  dsimp only
  rw [hs x]
  refine wpAny_bind (wpAny_pure ?_)
  refine wpAny_bind (wpAny_holding (wpAny_mono h₃ (fun it2 s₄ h₄ => ?_) fun _ _ z => z))
  refine wpAny_bind (wpAny_runOwn (codeAny_mono h₄ fun r s₅ h₅ => ?_))
  cases r with
  | ok f => exact wpAny_pure h₅
  | error e => exact h₅
end
noncomputable def cvals2 (n c : Nat) (ok : Option Nat) (jm : List (Nat × Nat)) (vals : List (Option PV)) : List (Option PV) :=
 (List.range n).map fun i => if i = 1 then some (.int c) else if i = 2 then ok.map fun k => PV.int k else match jm.lookup i with
  | some j => (vals[j]?).getD none
  | none => none
theorem cvals2_get {n c : Nat} {ok : Option Nat} {jm : List (Nat × Nat)} {vals : List (Option PV)} {p : PV} {i : Nat} (e : (cvals2 n c ok jm vals)[i]? = some (some p)) : (i = 1 /\ p = .int c) \/ (i = 2 /\ ∃ k : Nat, ok = some k /\ p = .int k) \/ ∃ j, jm.lookup i = some j /\ vals[j]? = some (some p) := by
 unfold cvals2 at e
 rw [List.getElem?_map] at e
 cases hr : (List.range n)[i]? with
 | none => rw [hr] at e; simp at e
 | some k =>
  have hk : k = i := by have := List.getElem?_eq_some_iff.mp hr; simpa using this.2.symm
  subst hk
  rw [hr] at e
  simp only [Option.map_some, Option.some.injEq] at e
  by_cases h1 : k = 1
  ·rw [if_pos h1] at e; exact .inl ⟨h1, (Option.some.inj e).symm⟩
  ·rw [if_neg h1] at e
   by_cases h2 : k = 2
   ·rw [if_pos h2] at e
    cases ok with
    | none => cases e
    | some z => exact .inr (.inl ⟨h2, z, rfl, (Option.some.inj e).symm⟩)
   ·rw [if_neg h2] at e
    refine .inr (.inr ?_)
    cases hj : jm.lookup k with
    | none => rw [hj] at e; cases e
    | some j =>
     rw [hj] at e
     dsimp only at e
     refine ⟨j, rfl, ?_⟩
     cases hv : vals[j]? with
     | none => rw [hv] at e; cases e
     | some z => rw [hv] at e; exact congrArg some e
section
variable {prog : Program} {w : World} {A : Around} {env : Env} {X : List Addr} {h : Heap}
theorem rel_local {names : List (Str × NameKind)} {i : Nat} {x : Str} (e : names[i]? = some (x, .local)) : (relN names)[i]? = some (x, .local) := by
 unfold relN
 rw [List.getElem?_map, e]; rfl
theorem cvals2_two {n c k : Nat} {jm : List (Nat × Nat)} {vals : List (Option PV)} (h : 2 < n) : (cvals2 n c (some k) jm vals)[2]? = some (some (.int k)) := by
 unfold cvals2
 rw [List.getElem?_map, List.getElem?_range h]; rfl
theorem take_flat {cs : List Nat} {i cc : Nat} (f : Nat -> List Nat) (e : cs[i]? = some cc) : (cs.take (i + 1)).flatMap f = (cs.take i).flatMap f ++ f cc := by
 rw [List.take_add_one, e]
 simp
theorem iter_rng {N : Nat} (hN : (N : Int) < 2 ^ 62) {s : Shared} {v : Value} (r : Rep X s.heap (.rng 0 N) v) {E : Value -> Shared -> Prop} {Q : Value -> Shared -> Prop}
  (hQ : ∀ (I : Addr) (P : Nat -> Value -> Prop) (St : Nat -> Heap -> Prop) (s₂ : Shared), Gw s s₂ -> (∀ A' : Around, A'.handled = none -> Walks prog w A' I [I] [I] N P St) -> St 0 s₂.heap -> (∀ i u, i < N -> P i u -> ∃ t, u = .int (i : Int) t) -> s.heap.get? I = none -> (∃ o, s₂.heap.get? I = some o) -> Q (.ref I) s₂) :
  wpAny (model prog w) A (pyIter v) Q E s := by
 unfold Rep at r
 obtain ⟨rr, t, u, k, rfl, hr, ho⟩ := r
 have hsz : Builtin.Range.rangeSize 0 (N : Int) 1 = (N : Int) := by
  unfold Builtin.Range.rangeSize
  rw [if_pos (by decide)]
  split
  ·rw [Int.ediv_one]; lia
  ·lia
 have hfit : ∀ x : Int, -(2 ^ 63) <= x -> x < 2 ^ 63 -> Builtin.Range.rangeFitsLong x = true := fun x h1 h2 => by
  unfold Builtin.Range.rangeFitsLong
  rw [Bool.and_eq_true]
  exact ⟨decide_eq_true h1, decide_eq_true h2⟩
 have hsmall : Builtin.Range.small 0 (N : Int) 1 = true := by
  unfold Builtin.Range.small
  rw [hsz, hfit 0 (by lia) (by lia), hfit N (by lia) (by lia), hfit 1 (by decide) (by decide), if_pos (by decide), hfit ((N : Int) + (1 - 1)) (by lia) (by lia)]
  simp
 refine wpAny_pyIter_range ho hsmall (hQ _ _ _ _ (Gw.push s _) (fun A' hA => Walks.range hA s.heap.objs.size 0 1 N) ?_ ?_ (fresh_size _) ⟨_, Heap.get?_push_size _ rfl⟩)
 ·show IsRangeIter (s.heap.push _) _ _ _ _
  rw [hsz]
  have : (0 : Int) + ((0 : Nat) : Int) * 1 = 0 := by simp
  rw [this]
  have : ((N : Int) - ((0 : Nat) : Int)) = (N : Int) := by simp
  rw [this]
  exact Heap.get?_push_size _ rfl
 ·rintro i u' hi' ⟨t', rfl⟩
  exact ⟨t', by simp⟩
theorem Ev.comp2 {vals : List (Option PV)} (r : Rd env X h vals) (hh : A.handled = none) {x1 x2 : Str} {p1 p2 pe pos : Pos} {iter1 iter2 : Expr} {ifs : List Expr} {scope : Scope} {cs : List Nat} {N : Nat} (jm : List (Nat × Nat)) (pr : Nat -> Nat -> Bool)
  (ok : CompOk scope.names env.scope.names vals 1 x1 jm) (h2 : scope.names[2]? = some (x2, .local)) (hkind : scope.kind = .function) (h12 : x1 ≠ x2)
  (ev1 : Ev prog w A env X h iter1 (pvN cs)) (hsz : cs.length * N <= 9000) (hcl : cs.length <= 1000) (hN : N <= 1000)
  (ev2 : ∀ c ∈ cs, ∀ (en : Env) (h' : Heap), en.scope.names = relN scope.names -> en.globals = env.globals -> en.builtins = env.builtins -> HK h h' -> Rd en X h' (cvals2 scope.names.length c none jm vals) -> Ev prog w A en X h' iter2 (.rng 0 N))
  (tests : ∀ c ∈ cs, ∀ k < N, ∀ (en : Env) (h' : Heap), en.scope.names = relN scope.names -> en.globals = env.globals -> en.builtins = env.builtins -> HK h h' -> Rd en X h' (cvals2 scope.names.length c (some k) jm vals) -> TstAll prog w A en h' ifs (pr c k))
  (hs : ∀ x, foldedSetIterable iter1 env x = pure x := by intro _; rfl) (hs2 : ∀ en x, foldedSetIterable iter2 en x = pure x := by intro _ _; rfl) (hd : (x2 == ("__debug__" : Str)) = false := by rfl) :
  Ev prog w A env X h (lc2 (.Name x2 pe) x1 p1 iter1 x2 p2 iter2 ifs scope pos) (pvN (cs.flatMap fun c => (List.range N).filter (pr c))) := by
 intro s Q E k hq
 show wpAny _ _ (eval (.ListComp _ _ _ _) env) _ _ _
 rw [eval_ListComp]
 obtain ⟨cl, hclos, hrel, hrd⟩ := comp_env r ok hkind
 have hli := ok.hli
 have hnd := ok.hnd
 have hlook : ∀ {i : Nat} {x : Str}, scope.names[i]? = some (x, .local) -> scope.names.lookup x = some .local := fun e => lookup_of_nodup hnd e
 have hkx : ∀ {i : Nat} {x : Str} (C : Addr), scope.names[i]? = some (x, .local) -> (compEnvC scope cl C env).kindOf x = some .local := fun C e => lookup_relabel_local (hlook e)
 refine wpAny_comprehension_free (use := none) rfl hs hclos hkind (fun y hy hl => ?_) (ev1 s _ _ k fun v s₁ g rv => ?_)
 ·obtain ⟨i, hi'⟩ := List.mem_iff_getElem?.mp hy
  rw [lookup_of_nodup hnd hi', hl]
 refine iter_of (Items.list _) rv fun I fp n P St s₂ g₂ hn' W hst hex hP hfr hfp hlt hStI => ?_
 have W := W A hh
 rw [pvN_len] at hn'
 refine wpAny_newObj_type (wpAny_newFunctionEnv ok.hnc (by intro y hy; simp at hy) (fun h₁ hns₁ hsb₁ => ?_) hkind)
 dsimp only at hns₁ hsb₁ ⊢
 generalize hH2 : s₂.heap.push { cls := .type "list", dict := none, data := .seq ([] : List Value).toArray } = H2 at hns₁ hsb₁ ⊢
 have hC : H2.objs.size = s₂.heap.objs.size + 1 := by rw [<- hH2, Heap.size_push]
 generalize hDd : s₂.heap.objs.size = D at hns₁ hsb₁ hC ⊢
 generalize hCc : H2.objs.size = C at hns₁ hsb₁ hC ⊢
 have hDC : D ≠ C := by rw [hC]; exact Nat.ne_of_lt (Nat.lt_succ_self _)
 have belowN : ∀ b : Addr, b < s₂.heap.objs.size -> b ≠ C /\ b ≠ D := fun b hb => by
  rw [hDd] at hb
  exact ⟨by rw [hC]; exact Nat.ne_of_lt (Nat.lt_succ_of_lt hb), Nat.ne_of_lt hb⟩
 have below : ∀ b o, s₂.heap.get? b = some o -> b ≠ C /\ b ≠ D := fun b o e => belowN b (Heap.lt_size e)
 have kb : HK h s₂.heap := (k.trans g.hk).trans g₂.hk
 have hCn : h.get? C = none := by
  cases q : h.get? C with
  | none => rfl
  | some o => exact absurd rfl (below C o (kb C o q)).1
 have hDn : h.get? D = none := by
  cases q : h.get? D with
  | none => rfl
  | some o => exact absurd rfl (below D o (kb D o q)).2
 have hIn : h.get? I = none := by
  cases q : h.get? I with
  | none => rfl
  | some o => have := (k.trans g.hk) I o q; rw [hfr] at this; cases this
 have old : HK s₂.heap h₁ := fun b o e => hsb₁.extBut b o (below b o e).1 (Heap.get?_push_of_some _ (hH2 ▸ Heap.get?_push_of_some _ e))
 have hH2D : H2.get? D = some (listObj #[] 0) := by rw [<- hH2, <- hDd]; exact Heap.get?_push_size _ rfl
 have hacc : h₁.PlainList D #[] := ⟨_, hsb₁.extBut _ _ hDC (Heap.get?_push_of_some _ hH2D)⟩
 have hDf : D ∉ fp := fun hm => (belowN _ (hlt _ hm)).2 rfl
 have hCf : C ∉ fp := fun hm => (belowN _ (hlt _ hm)).1 rfl
 obtain ⟨oI, hoI⟩ := hex
 have hIC : I ≠ C := (below I oI hoI).1
 have hID : I ≠ D := (below I oI hoI).2
 have hst₁ : St 0 h₁ := W.frame _ _ _ hst fun b _ o e => old b o e
 have hp : ((compEnvC scope cl C env).scope.kind == .class || ((compEnvC scope cl C env).scope.kind == .module && (compEnvC scope cl C env).locals != (compEnvC scope cl C env).globals)) = false := by
  show (scope.kind == .class || (scope.kind == .module && _)) = false
  rw [hkind]; rfl
 have loop : ∀ s₃ : Shared, s₃ = { s₂ with heap := h₁, toks := s₂.toks + ([] : List (Str × Value)).length } ->
   codeAny (model prog w) A (.compLoop (lc2 (.Name x2 pe) x1 p1 iter1 x2 p2 iter2 ifs scope pos) 0 (.ref I) (.ref D) (compEnvC scope cl C env)) (compPost (model prog w) A E none Q (.ref D) C) s₃ := by
  rintro s₃ rfl
  refine codeAny_loop rfl (fun kk s' => ∃ i, i <= n /\ kk = n - i /\ St i s'.heap /\ C2 h C D x1 none ((cs.take i).flatMap fun c => (List.range N).filter (pr c)) s'.heap /\ Mv [C, D, I] { s₂ with heap := h₁, toks := s₂.toks + ([] : List (Str × Value)).length } s') ?_ n ⟨0, Nat.zero_le _, by simp, hst₁, ⟨kb.trans old, ⟨_, hns₁, fun v e => by cases e⟩, #[], hacc, .nil⟩, Mv.refl _ _⟩
  rintro kk s' ⟨i, hi, rfl, st, c, mv⟩
  show wpAny _ A ((compTurn (lc2 (.Name x2 pe) x1 p1 iter1 x2 p2 iter2 ifs scope pos) 0 (.ref I) (.ref D) (compEnvC scope cl C env)).onRaise (fun x => do noteFrame x (compEnvC scope cl C env); theTreesLotGoes x)) _ _ s'
  refine wpAny_noted (turn0 (hs2 _) ?_)
  by_cases hlt' : i < n
  ·refine W.item i s' _ _ hlt' st fun u h₂ tk hPu st₂ hk₂ => ?_
   obtain ⟨q, hqi, rq⟩ := hP i u hlt' hPu
   rw [List.getElem?_map] at hqi
   cases hci : cs[i]? with
   | none => rw [hci] at hqi; cases hqi
   | some cc =>
   rw [hci] at hqi
   obtain rfl : PV.int cc = q := by simpa using hqi
   have hmem := List.mem_of_getElem? hci
   obtain ⟨t, rfl⟩ := rq
   have kI : Kp [I] s'.heap h₂ := fun b o hb e => hk₂ b o hb e
   have c₁ := c.kp kI (by simp; exact fun e => hIC e.symm) (by simp; exact fun e => hID e.symm) (by simpa using hIn)
   obtain ⟨m, hns, _⟩ := c₁.ns
   refine wpAny_assign_Name (wpAny_storeName_local (s := { s' with heap := h₂, toks := tk }) (hkx C hli) hns (fun h₃ hn₃ hs₃ => ?_) hp)
   have kC : Kp [C] h₂ h₃ := Kp.of_same hs₃
   have hk3 : HK h h₃ := fun b o e => kC b o (by simp; rintro rfl; rw [hCn] at e; cases e) (c₁.hk b o e)
   have st₃ : St (i + 1) h₃ := W.frame _ _ _ st₂ fun b hb o e => kC b o (by simp; rintro rfl; exact hCf hb) e
   have rd1 : Rd (compEnvC scope cl C env) X h₃ (cvals2 scope.names.length cc none jm vals) := hrd C h₃ _ _ hk3 hn₃ fun j pv e => by
    rcases cvals2_get e with ⟨rfl, rfl⟩ | ⟨rfl, z, hz, _⟩ | z
    ·exact .inl ⟨x1, .int cc t, hli, by simp, t, rfl⟩
    ·cases hz
    ·exact .inr z
   refine ev2 cc hmem _ h₃ (hrel C) rfl rfl hk3 rd1 _ _ _ (HK.refl _) fun vr s₄ g₄ r₄ => ?_
   refine iter_rng (by lia) r₄ fun I2 P2 St2 s₅ g₅ W2 hst2 hP2 hfr2 hex2 => ?_
   have W2 := W2 A hh
   have kk5 : HK h₃ s₅.heap := g₄.hk.trans g₅.hk
   obtain ⟨ys, pl, ii⟩ := c₁.acc
   have plD : h₃.PlainList D ys := pl.at fun o e => kC _ _ (by simpa using hDC) e
   have hI2n : h.get? I2 = none := by
    cases q : h.get? I2 with
    | none => rfl
    | some o => have := g₄.hk I2 o (hk3 I2 o q); rw [hfr2] at this; cases this
   have hI2D : D ≠ I2 := by
    rintro rfl
    obtain ⟨nn, e⟩ := plD
    have := g₄.hk _ _ e
    rw [hfr2] at this; cases this
   have hI2C : C ≠ I2 := by
    rintro rfl
    obtain ⟨_, _, _, hoC, _⟩ := hn₃
    have : s₄.heap.get? C = some _ := g₄.hk _ _ hoC
    rw [hfr2] at this; cases this
   have c₅ : C2 h C D x1 (some (.int cc t)) ((cs.take i).flatMap fun c => (List.range N).filter (pr c)) s₅.heap := ⟨hk3.trans kk5, ⟨_, hn₃.keeps kk5, fun v e => by cases e; simp⟩, ys, plD.at fun o e => kk5 _ _ e, ii⟩
   have hlen : ((cs.take i).flatMap fun c => (List.range N).filter (pr c)).length + N <= 10000 := by
    have h1 : ∀ l : List Nat, (l.flatMap fun c => (List.range N).filter (pr c)).length <= l.length * N := by
     intro l
     induction l with
     | nil => simp
     | cons z l ih =>
      rw [List.flatMap_cons, List.length_append, List.length_cons, Nat.succ_mul]
      have := List.length_filter_le (pr z) (List.range N)
      rw [List.length_range] at this
      lia
    have h2' := h1 (cs.take i)
    have h3 : (cs.take i).length * N <= cs.length * N := Nat.mul_le_mul_right _ (by rw [List.length_take]; lia)
    lia
   have rd2 : ∀ (k2 : Nat) (h' : Heap) m t', HK h h' -> h'.Ns C m -> m x1 = some (.int cc t) -> m x2 = some (.int (k2 : Int) t') -> Rd (compEnvC scope cl C env) X h' (cvals2 scope.names.length cc (some k2) jm vals) := fun k2 h' m t' hk' hn' e1 e2 => hrd C h' m _ hk' hn' fun j pv e => by
    rcases cvals2_get e with ⟨rfl, rfl⟩ | ⟨rfl, z, hz, rfl⟩ | z
    ·exact .inl ⟨x1, .int cc t, hli, e1, t, rfl⟩
    ·cases hz; exact .inl ⟨x2, .int k2 t', h2, e2, t', rfl⟩
    ·exact .inr z
   have kpo : ∀ {Ma : List Addr} {ha hb : Heap}, Kp Ma ha hb -> I ∉ Ma -> (∀ b ∈ fp, b ∉ Ma) -> St (i + 1) ha -> St (i + 1) hb := fun q _ hf st => W.frame _ _ _ st fun b hb o e => q b o (hf b hb) e
   have loop2 : ∀ RR : Result -> Shared -> Prop, (∀ s₆, Mv [C, D, I2] s₅ s₆ -> C2 h C D x1 (some (.int cc t)) (((cs.take i).flatMap fun c => (List.range N).filter (pr c)) ++ (List.range N).filter (pr cc)) s₆.heap -> RR (.ok .next) s₆) -> codeAny (model prog w) A (.compLoop (lc2 (.Name x2 pe) x1 p1 iter1 x2 p2 iter2 ifs scope pos) 1 (.ref I2) (.ref D) (compEnvC scope cl C env)) RR s₅ := fun RR fin =>
    comp2_inner (cenv := compEnvC scope cl C env) (res := (cs.take i).flatMap fun c => (List.range N).filter (pr c)) (pr cc) W2 hP2 (fun z => hI2C (List.mem_singleton.mp z)) (fun z => hI2D (List.mem_singleton.mp z)) hDC hI2n hCn hDn (hkx C h2) hp h12 hlen hst2 c₅
     (fun k2 s' Q' E' m t' hlt2 hk' hn' e1 e2 hq' => (tests cc hmem k2 hlt2 _ s'.heap (hrel C) rfl rfl hk' (rd2 k2 s'.heap m t' hk' hn' e1 e2)) s' _ _ (HK.refl _) fun s'' g' => hq' s'' g')
     (fun k2 s' Q' E' m t' hlt2 hk' hn' e1 e2 hq' => by
      have r2 := rd2 k2 s'.heap m t' hk' hn' e1 e2
      refine (Ev.name r2 2 (by rw [hrel C]; exact rel_local h2) (cvals2_two (List.getElem?_eq_some_iff.mp h2).1) hd) s' _ _ (HK.refl _) fun v' s'' g' rv' => ?_
      obtain ⟨t'', rfl⟩ := rv'
      exact hq' t'' s'' g')
     fin
   have start2 : ∀ RR : Result -> Shared -> Prop, codeAny (model prog w) A (.compLoop (lc2 (.Name x2 pe) x1 p1 iter1 x2 p2 iter2 ifs scope pos) 1 (.ref I2) (.ref D) (compEnvC scope cl C env)) RR s₅ -> codeAny (model prog w) A (.compStart (lc2 (.Name x2 pe) x1 p1 iter1 x2 p2 iter2 ifs scope pos) 1 (.ref I2) (.ref D) (compEnvC scope cl C env)) RR s₅ := fun RR hl => codeAny_compStart2 hl (W2.self 0 _ _ _ hst2 hl)
   refine start2 _ (loop2 _ fun s₆ mv₆ c₆ => ?_)
   have kp6 := mv₆.kp
   have off2 : ∀ b o, h₃.get? b = some o -> b ≠ I2 := by
    rintro b o e rfl
    have := g₄.hk _ _ e
    rw [hfr2] at this; cases this
   have st₆ : St (i + 1) s₆.heap := W.frame _ _ _ st₃ fun b hb o e => kp6 b o (by
    simp only [List.mem_cons, List.not_mem_nil, or_false, not_or]
    exact ⟨fun z => hCf (show C ∈ fp from (show b = C from z) ▸ hb), fun z => hDf (z ▸ hb), off2 b o e⟩) (kk5 b o e)
   refine ⟨rfl, n - (i + 1), by lia, i + 1, hlt', rfl, st₆, ?_, ?_⟩
   ·rw [take_flat _ hci]
    exact ⟨c₆.hk, let ⟨m, n, _⟩ := c₆.ns; ⟨m, n, fun v e => by cases e⟩, c₆.acc⟩
   ·refine mv.trans ⟨?_, fun b o hb e => ?_⟩
    ·obtain ⟨⟨ha, ta, e₁⟩, _⟩ := g₄
     obtain ⟨⟨ha', ta', e₂⟩, _⟩ := g₅
     obtain ⟨⟨hb, tb, e₃⟩, _⟩ := mv₆
     subst e₁ e₂ e₃
     exact ⟨hb, tb, rfl⟩
    ·have hb' : b ≠ C /\ b ≠ D /\ b ≠ I := by simpa only [List.mem_cons, List.not_mem_nil, or_false, not_or] using hb
     have e3 : h₃.get? b = some o := kC b o (by simpa using hb'.1) (kI b o (by simpa using hb'.2.2) e)
     exact kp6 b o (by
      simp only [List.mem_cons, List.not_mem_nil, or_false, not_or]
      exact ⟨hb'.1, hb'.2.1, off2 b o e3⟩) (kk5 b o e3)
  ·have hin : i = n := by lia
   subst hin
   refine W.done s' _ _ st fun h₂ tk hk₂ => ?_
   have kI : Kp [I] s'.heap h₂ := fun b o hb e => hk₂ b o hb e
   have c₁ := c.kp kI (by simp; exact fun e => hIC e.symm) (by simp; exact fun e => hID e.symm) (by simpa using hIn)
   have mv₁ := mv.trans (⟨⟨h₂, tk, rfl⟩, kI.mono (by simp)⟩ : Mv [C, D, I] s' { s' with heap := h₂, toks := tk })
   obtain ⟨m, hns, _⟩ := c₁.ns
   refine ⟨m, hns, fun h₃ sb => ?_⟩
   obtain ⟨ys, pl, ii⟩ := c₁.acc
   obtain ⟨nn, hobj⟩ := pl.at fun o e => sb.extBut _ _ hDC e
   have kp₃ : HK s.heap h₃ := fun b o e => by
    have e1 := g.hk b o e
    have hbI : b ≠ I := by rintro rfl; rw [hfr] at e1; cases e1
    have e2 := g₂.hk b o e1
    have hb := below b o e2
    have e3 : h₂.get? b = some o := mv₁.kp b o (by
     simp only [List.mem_cons, List.not_mem_nil, or_false, not_or]
     exact ⟨hb.1, hb.2, hbI⟩) (show h₁.get? b = some o from old b o e2)
    exact sb.extBut _ _ hb.1 e3
   refine hq _ _ ⟨?_, kp₃⟩ ?_
   ·obtain ⟨⟨ha, ta, e₁⟩, _⟩ := g
    obtain ⟨⟨ha', ta', e₂⟩, _⟩ := g₂
    obtain ⟨⟨hb, tb, e₃⟩, _⟩ := mv
    subst e₁ e₂ e₃
    exact ⟨h₃, tk, rfl⟩
   ·show Rep X h₃ (.list _) _
    unfold Rep
    refine ⟨D, nn, ys, rfl, fun hD => ?_, hobj, ?_⟩
    ·obtain ⟨o, e⟩ := r.xb D hD
     rw [hDn] at e; cases e
    ·have hn3 : i = cs.length := hn'
     rw [hn3, List.take_length] at ii
     have := rep_ints (X := X) (h := h₃) ii
     unfold zs at this
     rw [List.map_map] at this
     exact this
 show codeAny _ _ (.compStart _ 0 _ _ (compEnvC scope cl C env)) _ _
 exact codeAny_compStart_list (loop _ rfl) (W.self 0 _ _ _ hst₁ (loop _ rfl))
end
theorem nd_needs : ((fd_needs pw).scope.names.map (·.1)).Nodup := by decide +kernel
theorem kd_needs : ∀ x ∈ (fd_needs pw).scope.names.take 2, x.2 = .local \/ x.2 = .cell := by decide +kernel
noncomputable def sd (side : Nat) (d : List Nat × List Nat) : List Nat := if side = 0 then d.1 else d.2
theorem pvD_get {side : Nat} (h : side = 0 \/ side = 1) (d : List Nat × List Nat) : [pvN d.1, pvN d.2][(side : Int).toNat]? = some (pvN (sd side d)) := by
 rcases h with rfl | rfl <;> rfl
noncomputable def needK (deeds : List (List Nat × List Nat)) (side : Nat) (c k : Nat) : Bool := decide (c ∈ sd (1 - side) (deeds.getD k ([], [])))
noncomputable def needOf (deeds : List (List Nat × List Nat)) (side : Nat) (d : List Nat × List Nat) : List Nat := (sd side d).flatMap fun c => (List.range deeds.length).filter (needK deeds side c)
section
variable {w : World} {A : Around} {X : List Addr} {h : Heap}
set_option maxHeartbeats 2000000 in
theorem c_needs (G : Grd pw h) (hd : A.depth + 20 < recursionLimit) (hu : A.units + 500 < cLine) (hh : A.handled = none) (xb : XB h X) (deeds : List (List Nat × List Nat)) {side : Nat} (hside : side = 0 \/ side = 1) (hn5 : deeds.length <= 100) (hl : ∀ d ∈ deeds, (sd side d).length <= 50) (hl2 : ∀ d ∈ deeds, ∀ c ∈ sd (1 - side) d, c < 2 ^ 20) (hl3 : ∀ d ∈ deeds, (sd (1 - side) d).length <= 50) :
  Calls pw w A X h (.ref 262) [.list (deeds.map pvD), .int side] (.list ((deeds.map (needOf deeds side)).map pvN)) := by
 intro s Q E vs k r hq
 obtain ⟨v1, v2, rfl, r1, r2⟩ := r.two
 refine wpAny_call (enter (fd := fd_needs pw) (body := bodyOf (topS pw 38)) (binds := [("deeds", v1), ("side", v2)]) (ps := [.list (deeds.map pvD), .int side]) (X := X) (by lia) (k _ _ G.needs.1) (G.lim.keeps k) (G.needs.2.keeps k) rfl rfl rfl rfl kd_needs nd_needs (xb.hk k) r ?_)
 intro s₁ env henv g F
 have hn : env.scope.names = (fd_needs pw).scope.names := by rw [henv]; rfl
 have eg : env.globals = mainGlobals := by rw [henv]; rfl
 have eb : env.builtins = builtinsNs := by rw [henv]; rfl
 have hA : (A.deeper env).handled = none := hh
 have huA : (A.deeper env).units + 64 < cLine := by rw [Around.deeper_units]; lia
 replace F : Fm env (own env ++ X) [] s.heap s₁.heap [some (.list (deeds.map pvD)), some (.int side), none, none] := F
 have G₁ : Grd pw s₁.heap := G.hk (k.trans F.keep.hk)
 refine x_newlist F 2 (nm hn rfl) (.inl rfl) rfl EvL.nil (by decide) fun a s₄ haX has h0a m₄ F₄ L₄ => ?_
 have hao : a ∉ own env := fun z => haX (List.mem_append_left _ z)
 replace F₄ : Fm env (a :: (own env ++ X)) [] s.heap s₄.heap [some (.list (deeds.map pvD)), some (.int side), some (.obj (.ref a)), none] := F₄
 refine x_forR hA F₄ 3 (nm hn rfl) (.inl rfl) [a] (by simp) (by simp) (fun I i h => Ls (I :: a :: (own env ++ X)) h a (((deeds.take i).map (needOf deeds side)).map pvN))
  (Ev.name F₄.toRd 0 (nm hn rfl) rfl) (Items.list _)
  (fun i => [some (.list (deeds.map pvD)), some (.int side), some (.obj (.ref a)), none]) rfl ?_ ?_ ?_ ?_
 ·intro I h' k' hI
  obtain ⟨vs, n, e, rl⟩ := L₄
  exact Ls.hk ⟨vs, n, e, RepL.more (fun b hb => (List.mem_cons.mp hb).elim (fun e => .inr (e ▸ hI)) .inl) rl⟩ k'
 ·intro I i h1 h2 hI kp l
  have haI : a ≠ I := by rintro rfl; obtain ⟨vs, n, e, _⟩ := L₄; rw [hI] at e; cases e
  exact l.kp kp (fun b hb => (List.mem_cons.mp hb).elim (fun e => e ▸ List.mem_cons_self) fun z => List.mem_cons_of_mem _ (List.mem_cons_of_mem _ (List.mem_append_left _ z))) (by simp; exact ⟨haI, hao⟩)
 ·intro I i q s₅ E' hI hq' F₅ L₅
  rw [List.getElem?_map] at hq'
  cases hni : deeds[i]? with
  | none => rw [hni] at hq'; cases hq'
  | some d =>
  rw [hni] at hq'
  obtain rfl : pvD d = q := by simpa using hq'
  have hdm := List.mem_of_getElem? hni
  replace F₅ : Fm env (I :: a :: (own env ++ X)) [] s.heap s₅.heap [some (.list (deeds.map pvD)), some (.int side), some (.obj (.ref a)), some (pvD d)] := F₅
  have G₅ : Grd pw s₅.heap := G.hk (k.trans F₅.keep.hk)
  refine x_append (p := pvN (needOf deeds side d)) F₅ L₅ (by simp) hao (.inr h0a) (by rw [List.length_map, List.length_map, List.length_take]; unfold sizeLine; lia) (Ev.name F₅.toRd 2 (nm hn rfl) rfl)
   (Ev.comp2 (A := A.deeper env) F₅.toRd hA (x1 := "cell") (x2 := "k") (N := deeds.length) [(5, 0), (6, 1)] (needK deeds side) (CompOk.of (has := [true, true, true, true]) (by rw [hn]; decide +kernel) rfl) rfl rfl (by decide) (cs := sd side d) ?_ ?_ ?_ (by lia) ?_ ?_) (fun s₁₅ m₁₅ F₁₅ L₁₅ => x_nil ?_) rfl rfl (by rw [henv]; rfl) rfl
  ·exact Ev.itemT (Ev.name F₅.toRd 3 (nm hn rfl) rfl) (Ev.name F₅.toRd 1 (nm hn rfl) rfl) (by lia) (by lia) (pvD_get hside d)
  ·have := hl d hdm
   exact Nat.le_trans (Nat.mul_le_mul this hn5) (by decide)
  ·have := hl d hdm; lia
  ·intro c hc en h' hcn eg' eb' kk rd
   replace rd : Rd en (I :: a :: (own env ++ X)) h' [none, some (.int c), none, none, none, some (.list (deeds.map pvD)), some (.int side)] := rd
   exact Ev.cast (Ev.call (Ev.glob rd 3 (nm hcn rfl) (G₅.hk kk).g_range (eg'.trans eg) (eb'.trans eb)) (EvL.cons (Ev.call (Ev.glob rd 4 (nm hcn rfl) (G₅.hk kk).g_len (eg'.trans eg) (eb'.trans eb)) (EvL.cons (Ev.name rd 5 (nm hcn rfl) rfl) EvL.nil) trivial (c_len (by rw [List.length_map]; lia))) EvL.nil) trivial (c_range1 rd.xb)) (by rw [List.length_map])
  ·intro c hc kx hkx en h' hcn eg' eb' kk rd
   replace rd : Rd en (I :: a :: (own env ++ X)) h' [none, some (.int c), some (.int kx), none, none, some (.list (deeds.map pvD)), some (.int side)] := rd
   have hgk : deeds[kx]? = some (deeds.getD kx ([], [])) := by rw [List.getD_eq_getElem?_getD, List.getElem?_eq_getElem hkx]; rfl
   have hmk := List.mem_of_getElem? hgk
   refine TstAll.one (Tst.inN (Ev.name rd 1 (nm hcn rfl) rfl) (Ev.itemT (i := ((1 - side : Nat) : Int)) (Ev.item (z := pvD (deeds.getD kx ([], []))) (Ev.name rd 5 (nm hcn rfl) rfl) (Ev.name rd 2 (nm hcn rfl) rfl) (by lia) (by lia) (by rw [List.getElem?_map, Int.toNat_natCast, hgk]; rfl)) (Ev.cast (Ev.sub Ev.int (Ev.name rd 6 (nm hcn rfl) rfl)) (by congr 1; lia)) (by lia) (by lia) (pvD_get (by lia) _)))
  refine ⟨?_, ?_, ?_⟩
  ·exact (m₁₅.mono (by simp))
  ·exact F₁₅.forget 3
  ·rw [List.take_add_one, hni]
   show Ls _ _ a (((deeds.take i ++ [d]).map (needOf deeds side)).map pvN)
   rw [List.map_append, List.map_append]; exact L₁₅
 ·intro I s₅ hI m₅ F₅ L₅
  rw [List.length_map, List.take_length] at L₅
  refine x_return (Ev.name F₅.toRd 2 (nm hn rfl) rfl) ?_
  intro v s' g' rv
  obtain rfl : v = .ref a := rv
  refine hq _ s' ⟨ex_tr g.ex (ex_tr m₄.ex (ex_tr m₅.ex g'.ex)), F₅.keep.hk.trans g'.hk⟩ ?_
  exact (L₅.hk g'.hk).rep (fun b hb => List.mem_cons_of_mem _ (List.mem_cons_of_mem _ (List.mem_append_right _ hb))) fun z => haX (List.mem_append_right _ z)
end
section
open PySem.W
noncomputable def sDict (t1 t2 t3 t4 : Int × Tok) (D : Addr) (rv : Value) (np nf : Int) (k1 k2 : Tok) (n : Nat) : Obj :=
 {cls := .type "dict", data := .dict #[⟨t1.1, .str "_node2info" t1.2, .ref D⟩, ⟨t2.1, .str "_ready_nodes" t2.2, rv⟩, ⟨t3.1, .str "_npassedout" t3.2, .int np k1⟩, ⟨t4.1, .str "_nfinished" t4.2, .int nf k2⟩] n }
noncomputable def nObj (dx : Addr) (k : Int) (t : Tok) (np : Int) (t' : Tok) (y : Addr) : Obj := { instObj 141 dx with slots := #[some (.int k t), some (.int np t'), some (.ref y)] }
section
variable {P : Params} {t1 t2 t3 t4 : Int × Tok} {D : Addr} {rv : Value} {np nf : Int} {k1 k2 : Tok} {n : Nat} {od : Option Obj}
theorem f_sga : findIn (Kts P pw) (.ref 238) "__getattribute__" = some (some (.builtin "object.__getattribute__")) := by kernel_rfl
theorem f_nga : findIn (Kts P pw) (.ref 141) "__getattribute__" = some (some (.builtin "object.__getattribute__")) := by kernel_rfl
theorem f_sgk : findIn (Kts P pw) (.ref 238) "__getattr__" = some none := by kernel_rfl
theorem f_ngk : findIn (Kts P pw) (.ref 141) "__getattr__" = some none := by kernel_rfl
theorem f_ssa : findIn (Kts P pw) (.ref 238) "__setattr__" = some (some (.builtin "object.__setattr__")) := by kernel_rfl
theorem f_nsa : findIn (Kts P pw) (.ref 141) "__setattr__" = some (some (.builtin "object.__setattr__")) := by kernel_rfl
theorem f_a1 : findObj (Kts P pw) 238 (some (sDict t1 t2 t3 t4 D rv np nf k1 k2 n)) "_node2info" = some (.value (.ref D)) := by kernel_rfl
theorem f_a2 : findObj (Kts P pw) 238 (some (sDict t1 t2 t3 t4 D rv np nf k1 k2 n)) "_ready_nodes" = some (.value rv) := by kernel_rfl
theorem f_a3 : findObj (Kts P pw) 238 (some (sDict t1 t2 t3 t4 D rv np nf k1 k2 n)) "_npassedout" = some (.value (.int np k1)) := by kernel_rfl
theorem f_a4 : findObj (Kts P pw) 238 (some (sDict t1 t2 t3 t4 D rv np nf k1 k2 n)) "_nfinished" = some (.value (.int nf k2)) := by kernel_rfl
theorem f_n0 : findObj (Kts P pw) 141 (some emptyDict) "node" = some (.bind (.builtin "member_descriptor.__get__") (.ref 142)) := by kernel_rfl
theorem f_n1 : findObj (Kts P pw) 141 (some emptyDict) "npredecessors" = some (.bind (.builtin "member_descriptor.__get__") (.ref 143)) := by kernel_rfl
theorem f_n2 : findObj (Kts P pw) 141 (some emptyDict) "successors" = some (.bind (.builtin "member_descriptor.__get__") (.ref 144)) := by kernel_rfl
theorem f_s0 : slotIn (Kts P pw) 142 141 = some 0 := by kernel_rfl
theorem f_s1 : slotIn (Kts P pw) 143 141 = some 1 := by kernel_rfl
theorem f_s2 : slotIn (Kts P pw) 144 141 = some 2 := by kernel_rfl
theorem f_t0 : takerIn (Kts P pw) 141 "node" = some (some (.ref 142)) := by kernel_rfl
theorem f_t1 : takerIn (Kts P pw) 141 "npredecessors" = some (some (.ref 143)) := by kernel_rfl
theorem f_t2 : takerIn (Kts P pw) 141 "successors" = some (some (.ref 144)) := by kernel_rfl
theorem f_st1 : takerIn (Kts P pw) 238 "_node2info" = some none := by kernel_rfl
theorem f_st2 : takerIn (Kts P pw) 238 "_ready_nodes" = some none := by kernel_rfl
theorem f_st3 : takerIn (Kts P pw) 238 "_npassedout" = some none := by kernel_rfl
theorem f_st4 : takerIn (Kts P pw) 238 "_nfinished" = some none := by kernel_rfl
theorem f_po : plainOver (Kts P pw) 238 = true := by kernel_rfl
theorem f_npo : plainOver (Kts P pw) 141 = true := by kernel_rfl
theorem f_hd : (clsIn (Kts P pw) 238).any (·.hasDict) = true := by kernel_rfl
theorem f_md0 : typeIn (Kts P pw) (.ref 142) = some (.type "member_descriptor") := by kernel_rfl
theorem f_md1 : typeIn (Kts P pw) (.ref 143) = some (.type "member_descriptor") := by kernel_rfl
theorem f_md2 : typeIn (Kts P pw) (.ref 144) = some (.type "member_descriptor") := by kernel_rfl
theorem f_m1 : findIn (Kts P pw) (.ref 238) "_get_nodeinfo" = some (some (.ref 181)) := by kernel_rfl
theorem f_m3 : findIn (Kts P pw) (.ref 238) "prepare" = some (some (.ref 193)) := by kernel_rfl
theorem f_m4 : findIn (Kts P pw) (.ref 238) "get_ready" = some (some (.ref 200)) := by kernel_rfl
theorem f_m5 : findIn (Kts P pw) (.ref 238) "is_active" = some (some (.ref 207)) := by kernel_rfl
theorem f_m6 : findIn (Kts P pw) (.ref 238) "done" = some (some (.ref 221)) := by kernel_rfl
theorem f_m7 : findIn (Kts P pw) (.ref 238) "_find_cycle" = some (some (.ref 228)) := by kernel_rfl
theorem f_mi : findIn (Kts P pw) (.ref 238) "__init__" = some (some (.ref 174)) := by kernel_rfl
theorem f_ni : findIn (Kts P pw) (.ref 141) "__init__" = some (some (.ref 137)) := by kernel_rfl
theorem f_ft : typeIn (Kts P pw) (.ref 181) = some (.type "function") /\ typeIn (Kts P pw) (.ref 188) = some (.type "function") /\ typeIn (Kts P pw) (.ref 193) = some (.type "function") /\ typeIn (Kts P pw) (.ref 200) = some (.type "function") /\ typeIn (Kts P pw) (.ref 207) = some (.type "function") /\ typeIn (Kts P pw) (.ref 221) = some (.type "function") /\ typeIn (Kts P pw) (.ref 228) = some (.type "function") /\ typeIn (Kts P pw) (.ref 174) = some (.type "function") /\ typeIn (Kts P pw) (.ref 137) = some (.type "function") :=
 ⟨by kernel_rfl, by kernel_rfl, by kernel_rfl, by kernel_rfl, by kernel_rfl, by kernel_rfl, by kernel_rfl, by kernel_rfl, by kernel_rfl⟩
theorem f_mk : makesIn (Kts P pw) 238 = true /\ makesIn (Kts P pw) 141 = true := ⟨by kernel_rfl, by kernel_rfl⟩
theorem f_sh (name : Str) (h : name ∈ (["_get_nodeinfo", "add", "prepare", "get_ready", "is_active", "done", "_find_cycle"] : List Str)) : shadowIn (some (sDict t1 t2 t3 t4 D rv np nf k1 k2 n)) name = some false := by
 simp only [List.mem_cons, List.not_mem_nil, or_false] at h
 rcases h with rfl | rfl | rfl | rfl | rfl | rfl | rfl <;> kernel_rfl
end
end
section
open PySem.W PySem.Builtin PySem.Builtin.ObjectAttr PySem.Builtin.Getset_descriptor
section
variable {w : World} {A : Around} {K : Frag} {C x : Addr} {s : Shared} {E : Value -> Shared -> Prop} {R : Result -> Shared -> Prop}
theorem slot_put {ox ox' : Obj} {od : Option Obj} {v : Value} {p i : Nat} (X : K.In s.heap) (I : InstAt s.heap x ox C od) (hp : slotIn K p C = some i) (hi : i < 1000)
  (e : { ox with slots := (ox.slots ++ Array.replicate (i + 1 - ox.slots.size) none).setIfInBounds i (some v) } = ox') (hf : ox'.isFreed = false)
  (h : ∀ h', Heap.SameBut x s.heap h' -> h'.get? x = some ox' -> R (.ok (.ret .none)) { s with heap := h' }) :
  codeAny (model pw w) A (.call (.builtin "member_descriptor.__set__") ⟨[.ref p, .ref x, v], []⟩) R s := by
 obtain ⟨n, tn, owner, behind, tb, d, sl, cd, ho, hc, hm, hb, rfl⟩ := slot_of X hp
 have hk := h _ (Heap.SameBut.update s.heap x fun o => { o with slots := (o.slots ++ Array.replicate (cd.slotNames.length - 1 - behind.toNat + 1 - o.slots.size) none).setIfInBounds (cd.slotNames.length - 1 - behind.toNat) (some v) }) (e ▸ Heap.get?_update_self _ I.at_ (e ▸ hf))
 obtain ⟨hh, g, dr, t, os⟩ := s
 have l0 := I.type (M := model pw w)
 have l1 := looks_mroIn (M := model pw w) X hm
 have l2 : Looks (model pw w) hh (Slots.slotNamesOf (.ref C)) cd.slotNames := (looks_clsIn X hc).andThen .now
 have hx := I.at_
 dsimp only at ho hx l0 l1
 have f0 := looks_field (M := model pw w) ho 0 (v := .str n tn) rfl
 have f1 := looks_field (M := model pw w) ho 1 (v := owner) rfl
 have f3 := looks_field (M := model pw w) ho 3 (v := .builtin "proto.slot#set") rfl
 have f4 := looks_field (M := model pw w) ho 4 (v := .int behind tb) rfl
 refine codeAny_call_builtin KF.slot_mset.plain KF.entry_mset (KF.slot_mset.check _ _ _ _ _ _ _ _ ⟨_, ho, rfl⟩ (KF.args_mset _ _ _) ?_)
 unfold Builtin.«member_descriptor.__set__» descrSet descrStoreThrough descrCheckInstance descrNameAndClass isInstance
 have f5 : Looks (model pw w) hh (descrItself (.ref p)) [.ref p] := ((Looks.ld (part := none) ho).andThen .now).andThen (Looks.of_pure (by kernel_rfl))
 repeat lk
 refine ⟨Code.quiet_builtin _ (by decide +kernel), codeAny_builtin KF.entry_slotset ?_⟩
 unfold Builtin.«proto.slot#set» Slots.target
 repeat lk
 rw [if_neg hb]
 refine wpAny_pure (wpAny_bind ?_)
 unfold setSlotAt
 dsimp only
 rw [if_neg (by rw [sizeLine_eq]; lia)]
 exact wpAny_updatePart hx (wpAny_pure hk)
theorem dict_put {ox od od' : Obj} {dx : Addr} {name : Str} {tk : Tok} {v : Value} {es : List DictEntry} {n : Nat} (X : K.In s.heap)
  (I : InstAt s.heap x ox C (some od)) (hd : ox.dict = some dx) (hp : plainOver K C = true) (ht : takerIn K C name = some none) (hh : (clsIn K C).any (·.hasDict) = true)
  (hl : (lookIn name od).isSome = true) (e : Obj.putName name (PyData.keyHash w.params name) (.str name s.toks) v od = od') (e' : od'.data = .dict es.toArray n) (hz : es.length <= 1000)
  (h : ∀ h', Heap.SameBut dx s.heap h' -> h'.get? dx = some od' -> R (.ok (.ret .none)) { s with heap := h', toks := s.toks + 1 }) :
  codeAny (model pw w) A (.call (.builtin "object.__setattr__") ⟨[.ref x, .str name tk, v], []⟩) R s := by
 refine osa_open X I hp ht fun b => ?_
 obtain ⟨cd, hc, hd'⟩ := any_some hh
 have I' := I
 obtain ⟨hx, hcl, hn, hdd⟩ := I
 obtain ⟨oc, odi, oda, osl⟩ := ox
 dsimp only at hcl hd hdd
 subst hcl hd
 have hk := h _ (Heap.SameBut.update s.heap dx (Obj.putName name (PyData.keyHash w.params name) (.str name s.toks) v)) (e ▸ Heap.get?_update_self _ hdd (by rw [e]; obtain ⟨_, _, dd, _⟩ := od'; cases e'; rfl))
 have hD' : (s.heap.update dx (Obj.putName name (PyData.keyHash w.params name) (.str name s.toks) v)).get? dx = some od' := e ▸ Heap.get?_update_self _ hdd (by rw [e]; obtain ⟨_, _, dd, _⟩ := od'; cases e'; rfl)
 refine wpAny_bind (wpAny_pure (wpAny_bind (wpAny_bind (wpAny_loadPart hx (wpAny_bind ((looks_clsIn X hc).here ?_))))))
 rw [hd']
 refine wpAny_pure (a := some dx) (wpAny_bind (wpAny_pure (wpAny_bind ?_)))
 unfold nsSet
 refine wpAny_bind (wpAny_bind (wpAny_askSetting (wpAny_pure (wpAny_bind (wpAny_mkText (wpAny_bind (wpAny_loadPart hdd ?_)))))))
 unfold lookIn at hl
 split at hl
 ·rename_i es₀ n₀ q
  rw [q]
  dsimp only
  have c : (!es₀.any (·.key.isStr name) && es₀.any (·.refKey)) = false := by
   rw [<- Array.any_toList, <- Array.any_toList]
   split at hl
   ·rename_i en he
    rw [List.any_eq_true.mpr ⟨en, List.mem_of_find?_eq_some he, List.find?_some he⟩]; rfl
   ·split at hl
    ·cases hl
    ·rename_i z; rw [Bool.not_eq_true] at z; rw [z, Bool.and_false]
  rw [aRefKeyMayBeTheName_at, c]
  refine wpAny_updatePart hdd ?_
  refine wpAny_bind (wpAny_lookBehind hD' (by rw [e']; exact pastItsLine_dict (by rw [List.size_toArray, sizeLine_eq]; lia)) ?_)
  exact wpAny_pure hk
 ·cases hl
theorem set_slot {P : Params} {ox ox' : Obj} {od : Option Obj} {name : Str} {v : Value} {p i : Nat} {Q : Unit -> Shared -> Prop} (X : (Kts P pw).In s.heap) (I : InstAt s.heap x ox 141 od) (ht : takerIn (Kts P pw) 141 name = some (some (.ref p)))
  (hT : typeIn (Kts P pw) (.ref p) = some (.type "member_descriptor")) (hp : slotIn (Kts P pw) p 141 = some i) (hi : i < 1000)
  (e : { ox with slots := (ox.slots ++ Array.replicate (i + 1 - ox.slots.size) none).setIfInBounds i (some v) } = ox') (hf : ox'.isFreed = false)
  (h : ∀ h', Heap.SameBut x s.heap h' -> h'.get? x = some ox' -> Q () { s with heap := h', toks := s.toks + 1 }) : wpAny (model pw w) A (setAttr (.ref x) name v) Q E s := by
 have X' : (Kts P pw).In ({ s with toks := s.toks + 1 } : Shared).heap := X
 have I' : InstAt ({ s with toks := s.toks + 1 } : Shared).heap x ox 141 od := I
 refine set_plain X I f_nsa (osa_descr KF.slot_mset X' I' f_npo ht hT (slot_put X' I' hp hi e hf fun h' sb ho => ?_))
 exact h h' sb ho
theorem set_sd {P : Params} {t1 t2 t3 t4 : Int × Tok} {D d : Addr} {rv : Value} {np nf : Int} {k1 k2 : Tok} {n : Nat} {name : Str} {v : Value} {od' : Obj} {es : List DictEntry} {n' : Nat} {Q : Unit -> Shared -> Prop} (X : (Kts P pw).In s.heap) (ho : s.heap.get? x = some (instObj 238 d)) {od : Obj} (hd : s.heap.get? d = some od)
  (ht : takerIn (Kts P pw) 238 name = some none) (hl : (lookIn name od).isSome = true) (e : Obj.putName name (PyData.keyHash w.params name) (.str name (s.toks + 1)) v od = od') (e' : od'.data = .dict es.toArray n') (hz : es.length <= 1000)
  (h : ∀ h', Heap.SameBut d s.heap h' -> h'.get? d = some od' -> Q () { s with heap := h', toks := s.toks + 1 + 1 }) : wpAny (model pw w) A (setAttr (.ref x) name v) Q E s := by
 have I : InstAt s.heap x (instObj 238 d) 238 (some od) := ⟨ho, rfl, rfl, hd⟩
 have X' : (Kts P pw).In ({ s with toks := s.toks + 1 } : Shared).heap := X
 have I' : InstAt ({ s with toks := s.toks + 1 } : Shared).heap x (instObj 238 d) 238 (some od) := I
 refine set_plain X I f_ssa (dict_put X' I' rfl f_po ht f_hd hl e e' hz fun h' sb ho => ?_)
 exact h h' sb ho
end
end
section
open PySem.W
structure SG where
 a : Addr
 d : Addr
 D : Addr
 r : Addr
 rdy : Bool
 order : List Nat
 x : Nat -> Addr
 y : Nat -> Addr
 z : Nat -> Addr
 tag : Addr -> Nat × Nat
structure SV where
 np : Nat -> Int
 succ : Nat -> List Nat
 ready : List Nat
 pas : Int
 fin : Int
noncomputable def SG.rs (G : SG) : List Addr := if G.rdy then [G.r] else []
noncomputable def SG.fp (G : SG) : List Addr := G.a :: G.d :: G.D :: (G.rs ++ G.order.flatMap fun k => [G.x k, G.y k, G.z k])
noncomputable def SG.rv (G : SG) : Value := if G.rdy then .ref G.r else .none
def IL (h : Heap) (a : Addr) (xs : List Nat) : Prop := ∃ vs n, h.get? a = some (listObj vs n) /\ IntsAre vs.toList (zs xs)
theorem IL.at_ {h h' : Heap} {a : Addr} {xs : List Nat} (l : IL h a xs) (k : ∀ o, h.get? a = some o -> h'.get? a = some o) : IL h' a xs := let ⟨vs, n, e, i⟩ := l; ⟨vs, n, k _ e, i⟩
theorem IL.rep {X : List Addr} {h : Heap} {a : Addr} {xs : List Nat} (l : IL h a xs) (ha : a ∉ X) : Rep X h (pvN xs) (.ref a) := by
 obtain ⟨vs, n, e, i⟩ := l
 unfold Rep
 refine ⟨a, n, vs, rfl, ha, e, ?_⟩
 have := rep_ints (X := X) (h := h) i
 unfold zs at this
 rw [List.map_map] at this
 exact this
structure TS (w : World) (h : Heap) (G : SG) (V : SV) : Prop where
 at_ : h.get? G.a = some (instObj 238 G.d)
 dict : ∃ t1 t2 t3 t4 k1 k2 n, h.get? G.d = some (sDict t1 t2 t3 t4 G.D G.rv V.pas V.fin k1 k2 n)
 map : h.DictOf (intKind pw w) G.D (G.order.map fun (k : Nat) => ((k : Int), Value.ref (G.x k)))
 node : ∀ k ∈ G.order, ∃ t t', h.get? (G.x k) = some (nObj (G.z k) k t (V.np k) t' (G.y k))
 emp : ∀ k ∈ G.order, h.get? (G.z k) = some emptyDict
 succ : ∀ k ∈ G.order, IL h (G.y k) (V.succ k)
 ready : G.rdy = true -> IL h G.r V.ready
 nd : G.order.Nodup
 ta : G.tag G.a = (0, 0)
 td : G.tag G.d = (1, 0)
 tD : G.tag G.D = (2, 0)
 tr : G.rdy = true -> G.tag G.r = (3, 0)
 tx : ∀ k ∈ G.order, G.tag (G.x k) = (4, k)
 ty : ∀ k ∈ G.order, G.tag (G.y k) = (5, k)
 tz : ∀ k ∈ G.order, G.tag (G.z k) = (6, k)
 out : ∀ k, k ∉ G.order -> V.np k = 0 /\ V.succ k = []
 small : G.order.length <= 200
 dn : (G.D == sysModules) = false
theorem mem_fp {G : SG} {b : Addr} : b ∈ G.fp ↔ b = G.a \/ b = G.d \/ b = G.D \/ (G.rdy = true /\ b = G.r) \/ ∃ k ∈ G.order, b = G.x k \/ b = G.y k \/ b = G.z k := by
 unfold SG.fp SG.rs
 cases G.rdy <;> simp
section
variable {w : World} {h h' : Heap} {G : SG} {V : SV} {M : List Addr}
theorem TS.kp (T : TS w h G V) (k : Kp M h h') (hM : ∀ b ∈ G.fp, b ∉ M) : TS w h' G V :=
 have q : ∀ b o, b ∈ G.fp -> h.get? b = some o -> h'.get? b = some o := fun b o hb e => k b o (hM b hb) e
 have mx : ∀ j ∈ G.order, G.x j ∈ G.fp /\ G.y j ∈ G.fp /\ G.z j ∈ G.fp := fun j hj => ⟨mem_fp.mpr (.inr (.inr (.inr (.inr ⟨j, hj, .inl rfl⟩)))), mem_fp.mpr (.inr (.inr (.inr (.inr ⟨j, hj, .inr (.inl rfl)⟩)))), mem_fp.mpr (.inr (.inr (.inr (.inr ⟨j, hj, .inr (.inr rfl)⟩))))⟩
 {T with
  at_ := q _ _ (mem_fp.mpr (.inl rfl)) T.at_
  dict := let ⟨t1, t2, t3, t4, k1, k2, n, e⟩ := T.dict; ⟨t1, t2, t3, t4, k1, k2, n, q _ _ (mem_fp.mpr (.inr (.inl rfl))) e⟩
  map := let ⟨o, es, ep, ho, r⟩ := T.map; ⟨o, es, ep, q _ _ (mem_fp.mpr (.inr (.inr (.inl rfl)))) ho, r⟩
  node := fun j hj => let ⟨t, t', e⟩ := T.node j hj; ⟨t, t', q _ _ (mx j hj).1 e⟩
  emp := fun j hj => q _ _ (mx j hj).2.2 (T.emp j hj)
  succ := fun j hj => (T.succ j hj).at_ fun o => q _ o (mx j hj).2.1
  ready := fun hr => (T.ready hr).at_ fun o => q _ o (mem_fp.mpr (.inr (.inr (.inr (.inl ⟨hr, rfl⟩))))) }
theorem TS.hk (T : TS w h G V) (k : HK h h') : TS w h' G V := T.kp (k.kp []) (by simp)
theorem TS.ex (T : TS w h G V) : ∀ b ∈ G.fp, ∃ o, h.get? b = some o := fun b hb => by
 rcases mem_fp.mp hb with rfl | rfl | rfl | ⟨hr, rfl⟩ | ⟨k, hk, rfl | rfl | rfl⟩
 ·exact ⟨_, T.at_⟩
 ·obtain ⟨_, _, _, _, _, _, _, e⟩ := T.dict; exact ⟨_, e⟩
 ·obtain ⟨o, _, _, e, _⟩ := T.map; exact ⟨o, e⟩
 ·obtain ⟨_, _, e, _⟩ := T.ready hr; exact ⟨_, e⟩
 ·obtain ⟨_, _, e⟩ := T.node k hk; exact ⟨_, e⟩
 ·obtain ⟨_, _, e, _⟩ := T.succ k hk; exact ⟨_, e⟩
 ·exact ⟨_, T.emp k hk⟩
theorem TS.ne_d (T : TS w h G V) : G.a ≠ G.d /\ G.D ≠ G.d /\ (∀ k ∈ G.order, G.x k ≠ G.d /\ G.y k ≠ G.d /\ G.z k ≠ G.d) /\ (G.rdy = true -> G.r ≠ G.d) := by
 have key : ∀ b, G.tag b ≠ (1, 0) -> b ≠ G.d := fun b hb e => hb (e ▸ T.td)
 exact ⟨key _ (by rw [T.ta]; decide), key _ (by rw [T.tD]; decide), fun k hk => ⟨key _ (by rw [T.tx k hk]; simp), key _ (by rw [T.ty k hk]; simp), key _ (by rw [T.tz k hk]; simp)⟩, fun hr => key _ (by rw [T.tr hr]; decide)⟩
theorem TS.ne_x (T : TS w h G V) {j : Nat} (hj : j ∈ G.order) : G.a ≠ G.x j /\ G.d ≠ G.x j /\ G.D ≠ G.x j /\ (∀ k ∈ G.order, k ≠ j -> G.x k ≠ G.x j) /\ (∀ k ∈ G.order, G.y k ≠ G.x j /\ G.z k ≠ G.x j) /\ (G.rdy = true -> G.r ≠ G.x j) := by
 have key : ∀ b, G.tag b ≠ (4, j) -> b ≠ G.x j := fun b hb e => hb (e ▸ T.tx j hj)
 exact ⟨key _ (by rw [T.ta]; simp), key _ (by rw [T.td]; simp), key _ (by rw [T.tD]; simp), fun k hk hne => key _ (by rw [T.tx k hk]; simpa using hne), fun k hk => ⟨key _ (by rw [T.ty k hk]; simp), key _ (by rw [T.tz k hk]; simp)⟩, fun hr => key _ (by rw [T.tr hr]; simp)⟩
theorem TS.ne_y (T : TS w h G V) {j : Nat} (hj : j ∈ G.order) : G.a ≠ G.y j /\ G.d ≠ G.y j /\ G.D ≠ G.y j /\ (∀ k ∈ G.order, k ≠ j -> G.y k ≠ G.y j) /\ (∀ k ∈ G.order, G.x k ≠ G.y j /\ G.z k ≠ G.y j) /\ (G.rdy = true -> G.r ≠ G.y j) := by
 have key : ∀ b, G.tag b ≠ (5, j) -> b ≠ G.y j := fun b hb e => hb (e ▸ T.ty j hj)
 exact ⟨key _ (by rw [T.ta]; simp), key _ (by rw [T.td]; simp), key _ (by rw [T.tD]; simp), fun k hk hne => key _ (by rw [T.ty k hk]; simpa using hne), fun k hk => ⟨key _ (by rw [T.tx k hk]; simp), key _ (by rw [T.tz k hk]; simp)⟩, fun hr => key _ (by rw [T.tr hr]; simp)⟩
theorem TS.ne_r (T : TS w h G V) (hr : G.rdy = true) : G.a ≠ G.r /\ G.d ≠ G.r /\ G.D ≠ G.r /\ ∀ k ∈ G.order, G.x k ≠ G.r /\ G.y k ≠ G.r /\ G.z k ≠ G.r := by
 have key : ∀ b, G.tag b ≠ (3, 0) -> b ≠ G.r := fun b hb e => hb (e ▸ T.tr hr)
 exact ⟨key _ (by rw [T.ta]; decide), key _ (by rw [T.td]; decide), key _ (by rw [T.tD]; decide), fun k hk => ⟨key _ (by rw [T.tx k hk]; simp), key _ (by rw [T.ty k hk]; simp), key _ (by rw [T.tz k hk]; simp)⟩⟩
theorem DictOf.at_ {D : Addr} {kvs : List (Int × Value)} (x : h.DictOf (intKind pw w) D kvs) (k : ∀ o, h.get? D = some o -> h'.get? D = some o) : h'.DictOf (intKind pw w) D kvs := let ⟨o, es, ep, ho, r⟩ := x; ⟨o, es, ep, k _ ho, r⟩
theorem TS.setPF (T : TS w h G V) {p f : Int} (sb : Kp [G.d] h h') (e : ∃ t1 t2 t3 t4 k1 k2 n, h'.get? G.d = some (sDict t1 t2 t3 t4 G.D G.rv p f k1 k2 n)) : TS w h' G { V with pas := p, fin := f } := by
 obtain ⟨na, nD, nk, nr⟩ := T.ne_d
 have q : ∀ b o, b ≠ G.d -> h.get? b = some o -> h'.get? b = some o := fun b o hb e => sb b o (by simpa using hb) e
 exact { T with
  at_ := q _ _ na T.at_
  dict := e
  map := DictOf.at_ T.map fun o => q _ o nD
  node := fun j hj => let ⟨t, t', e⟩ := T.node j hj; ⟨t, t', q _ _ (nk j hj).1 e⟩
  emp := fun j hj => q _ _ (nk j hj).2.2 (T.emp j hj)
  succ := fun j hj => (T.succ j hj).at_ fun o => q _ o (nk j hj).2.1
  ready := fun hr => (T.ready hr).at_ fun o => q _ o (nr hr) }
theorem TS.setReady (T : TS w h G V) {r : Addr} {xs : List Nat} (hr0 : G.rdy = false) (sb : Kp [G.d] h h') (e : ∃ t1 t2 t3 t4 k1 k2 n, h'.get? G.d = some (sDict t1 t2 t3 t4 G.D (.ref r) V.pas V.fin k1 k2 n)) (il : IL h r xs) (hrf : r ∉ G.fp) :
  TS w h' { G with rdy := true, r := r, tag := fun b => if b = r then (3, 0) else G.tag b } { V with ready := xs } := by
 obtain ⟨na, nD, nk, nr⟩ := T.ne_d
 have q : ∀ b o, b ≠ G.d -> h.get? b = some o -> h'.get? b = some o := fun b o hb e => sb b o (by simpa using hb) e
 have hne : ∀ b ∈ G.fp, b ≠ r := fun b hb e => hrf (e ▸ hb)
 have mx : ∀ j ∈ G.order, G.x j ∈ G.fp /\ G.y j ∈ G.fp /\ G.z j ∈ G.fp := fun j hj => ⟨mem_fp.mpr (.inr (.inr (.inr (.inr ⟨j, hj, .inl rfl⟩)))), mem_fp.mpr (.inr (.inr (.inr (.inr ⟨j, hj, .inr (.inl rfl)⟩)))), mem_fp.mpr (.inr (.inr (.inr (.inr ⟨j, hj, .inr (.inr rfl)⟩))))⟩
 have hrd : r ≠ G.d := fun z => hrf (z ▸ mem_fp.mpr (.inr (.inl rfl)))
 exact {
  at_ := q _ _ na T.at_
  dict := e
  map := DictOf.at_ T.map fun o => q _ o nD
  node := fun j hj => let ⟨t, t', e⟩ := T.node j hj; ⟨t, t', q _ _ (nk j hj).1 e⟩
  emp := fun j hj => q _ _ (nk j hj).2.2 (T.emp j hj)
  succ := fun j hj => (T.succ j hj).at_ fun o => q _ o (nk j hj).2.1
  ready := fun _ => il.at_ fun o => q _ o hrd
  nd := T.nd
  ta := by show (if G.a = r then _ else _) = _; rw [if_neg (hne _ (mem_fp.mpr (.inl rfl)))]; exact T.ta
  td := by show (if G.d = r then _ else _) = _; rw [if_neg (hne _ (mem_fp.mpr (.inr (.inl rfl))))]; exact T.td
  tD := by show (if G.D = r then _ else _) = _; rw [if_neg (hne _ (mem_fp.mpr (.inr (.inr (.inl rfl)))))]; exact T.tD
  tr := fun _ => by show (if r = r then _ else _) = _; rw [if_pos rfl]
  tx := fun j hj => by show (if G.x j = r then _ else _) = _; rw [if_neg (hne _ (mx j hj).1)]; exact T.tx j hj
  ty := fun j hj => by show (if G.y j = r then _ else _) = _; rw [if_neg (hne _ (mx j hj).2.1)]; exact T.ty j hj
  tz := fun j hj => by show (if G.z j = r then _ else _) = _; rw [if_neg (hne _ (mx j hj).2.2)]; exact T.tz j hj
  out := T.out
  small := T.small
  dn := T.dn }
noncomputable def updI (f : Nat -> Int) (k : Nat) (v : Int) : Nat -> Int := fun j => if j = k then v else f j
noncomputable def updL (f : Nat -> List Nat) (k : Nat) (v : List Nat) : Nat -> List Nat := fun j => if j = k then v else f j
theorem TS.setNp (T : TS w h G V) {j : Nat} (hj : j ∈ G.order) {c : Int} (sb : Kp [(G.x j)] h h') (e : ∃ t t', h'.get? (G.x j) = some (nObj (G.z j) j t c t' (G.y j))) : TS w h' G { V with np := updI V.np j c } := by
 obtain ⟨na, nd, nD, nx, nyz, nr⟩ := T.ne_x hj
 have q : ∀ b o, b ≠ G.x j -> h.get? b = some o -> h'.get? b = some o := fun b o hb e => sb b o (by simpa using hb) e
 exact { T with
  at_ := q _ _ na T.at_
  dict := let ⟨t1, t2, t3, t4, k1, k2, n, e⟩ := T.dict; ⟨t1, t2, t3, t4, k1, k2, n, q _ _ nd e⟩
  map := DictOf.at_ T.map fun o => q _ o nD
  node := fun i hi => by
   by_cases hij : i = j
   ·subst hij
    show ∃ t t', h'.get? (G.x i) = some (nObj (G.z i) i t (if i = i then c else V.np i) t' (G.y i))
    rw [if_pos rfl]; exact e
   ·obtain ⟨t, t', e⟩ := T.node i hi
    refine ⟨t, t', ?_⟩
    show h'.get? (G.x i) = some (nObj (G.z i) i t (if i = j then c else V.np i) t' (G.y i))
    rw [if_neg hij]; exact q _ _ (nx i hi hij) e
  emp := fun i hi => q _ _ (nyz i hi).2 (T.emp i hi)
  succ := fun i hi => (T.succ i hi).at_ fun o => q _ o (nyz i hi).1
  ready := fun hr => (T.ready hr).at_ fun o => q _ o (nr hr)
  out := fun i hi => by
   have hij : i ≠ j := fun z => hi (z ▸ hj)
   show (if i = j then c else V.np i) = 0 /\ _
   rw [if_neg hij]; exact T.out i hi }
theorem TS.setSucc (T : TS w h G V) {j : Nat} (hj : j ∈ G.order) {xs : List Nat} (sb : Kp [(G.y j)] h h') (e : IL h' (G.y j) xs) : TS w h' G { V with succ := updL V.succ j xs } := by
 obtain ⟨na, nd, nD, ny, nxz, nr⟩ := T.ne_y hj
 have q : ∀ b o, b ≠ G.y j -> h.get? b = some o -> h'.get? b = some o := fun b o hb e => sb b o (by simpa using hb) e
 exact { T with
  at_ := q _ _ na T.at_
  dict := let ⟨t1, t2, t3, t4, k1, k2, n, e⟩ := T.dict; ⟨t1, t2, t3, t4, k1, k2, n, q _ _ nd e⟩
  map := DictOf.at_ T.map fun o => q _ o nD
  node := fun i hi => let ⟨t, t', e⟩ := T.node i hi; ⟨t, t', q _ _ (nxz i hi).1 e⟩
  emp := fun i hi => q _ _ (nxz i hi).2 (T.emp i hi)
  succ := fun i hi => by
   by_cases hij : i = j
   ·subst hij
    show IL h' (G.y i) (if i = i then xs else V.succ i)
    rw [if_pos rfl]; exact e
   ·show IL h' (G.y i) (if i = j then xs else V.succ i)
    rw [if_neg hij]; exact (T.succ i hi).at_ fun o => q _ o (ny i hi hij)
  ready := fun hr => (T.ready hr).at_ fun o => q _ o (nr hr)
  out := fun i hi => by
   have hij : i ≠ j := fun z => hi (z ▸ hj)
   show _ /\ (if i = j then xs else V.succ i) = []
   rw [if_neg hij]; exact T.out i hi }
theorem TS.setR (T : TS w h G V) (hr : G.rdy = true) {xs : List Nat} (sb : Kp [G.r] h h') (e : IL h' G.r xs) : TS w h' G { V with ready := xs } := by
 obtain ⟨na, nd, nD, nk⟩ := T.ne_r hr
 have q : ∀ b o, b ≠ G.r -> h.get? b = some o -> h'.get? b = some o := fun b o hb e => sb b o (by simpa using hb) e
 exact { T with
  at_ := q _ _ na T.at_
  dict := let ⟨t1, t2, t3, t4, k1, k2, n, e⟩ := T.dict; ⟨t1, t2, t3, t4, k1, k2, n, q _ _ nd e⟩
  map := DictOf.at_ T.map fun o => q _ o nD
  node := fun i hi => let ⟨t, t', e⟩ := T.node i hi; ⟨t, t', q _ _ (nk i hi).1 e⟩
  emp := fun i hi => q _ _ (nk i hi).2.2 (T.emp i hi)
  succ := fun i hi => (T.succ i hi).at_ fun o => q _ o (nk i hi).2.1
  ready := fun _ => e }
theorem TS.addN (T : TS w h G V) {k : Nat} (hk : k ∉ G.order) {xa ya za : Addr} (hx : xa ∉ G.fp) (hy : ya ∉ G.fp) (hz : za ∉ G.fp) (hxy : xa ≠ ya) (hxz : xa ≠ za) (hyz : ya ≠ za) (sb : Kp [G.D] h h') (dict : h'.DictOf (intKind pw w) G.D (G.order.map (fun (k : Nat) => ((k : Int), Value.ref (G.x k))) ++ [((k : Int), .ref xa)]))
  (e : ∃ t t', h.get? xa = some (nObj za k t 0 t' ya)) (ez : h.get? za = some emptyDict) (il : IL h ya []) (hs : G.order.length < 200) :
  TS w h' { G with order := G.order ++ [k], x := fun j => if j = k then xa else G.x j, y := fun j => if j = k then ya else G.y j, z := fun j => if j = k then za else G.z j, tag := fun b => if b = xa then (4, k) else if b = ya then (5, k) else if b = za then (6, k) else G.tag b } V := by
 have key : ∀ b, G.tag b ≠ (2, 0) -> b ≠ G.D := fun b hb e => hb (e ▸ T.tD)
 have q : ∀ b o, b ≠ G.D -> h.get? b = some o -> h'.get? b = some o := fun b o hb e => sb b o (by simpa using hb) e
 have fa : G.a ∈ G.fp := mem_fp.mpr (.inl rfl)
 have fd : G.d ∈ G.fp := mem_fp.mpr (.inr (.inl rfl))
 have fD : G.D ∈ G.fp := mem_fp.mpr (.inr (.inr (.inl rfl)))
 have mx : ∀ j ∈ G.order, G.x j ∈ G.fp /\ G.y j ∈ G.fp /\ G.z j ∈ G.fp := fun j hj => ⟨mem_fp.mpr (.inr (.inr (.inr (.inr ⟨j, hj, .inl rfl⟩)))), mem_fp.mpr (.inr (.inr (.inr (.inr ⟨j, hj, .inr (.inl rfl)⟩)))), mem_fp.mpr (.inr (.inr (.inr (.inr ⟨j, hj, .inr (.inr rfl)⟩))))⟩
 have tg : ∀ b ∈ G.fp, (if b = xa then (4, k) else if b = ya then (5, k) else if b = za then (6, k) else G.tag b) = G.tag b := fun b hb => by
  have e1 : b ≠ xa := fun z => hx (z ▸ hb)
  have e2 : b ≠ ya := fun z => hy (z ▸ hb)
  have e3 : b ≠ za := fun z => hz (z ▸ hb)
  rw [if_neg e1, if_neg e2, if_neg e3]
 have nek : ∀ j ∈ G.order, j ≠ k := fun j hj z => hk (z ▸ hj)
 have split : ∀ {Pr : Nat -> Prop}, (∀ j ∈ G.order, Pr j) -> Pr k -> ∀ j ∈ G.order ++ [k], Pr j := fun a b j hj => (List.mem_append.mp hj).elim (a j) fun z => by rw [List.mem_singleton.mp z]; exact b
 exact {
  at_ := q _ _ (key _ (by rw [T.ta]; decide)) T.at_
  dict := let ⟨t1, t2, t3, t4, k1, k2, n, e⟩ := T.dict; ⟨t1, t2, t3, t4, k1, k2, n, q _ _ (key _ (by rw [T.td]; decide)) e⟩
  map := by
   have : (G.order ++ [k]).map (fun (j : Nat) => ((j : Int), Value.ref (if j = k then xa else G.x j))) = G.order.map (fun (k : Nat) => ((k : Int), Value.ref (G.x k))) ++ [((k : Int), .ref xa)] := by
    rw [List.map_append]
    congr 1
    ·exact List.map_congr_left fun j hj => by rw [if_neg (nek j hj)]
    ·simp
   show h'.DictOf _ G.D ((G.order ++ [k]).map (fun (j : Nat) => ((j : Int), Value.ref (if j = k then xa else G.x j))))
   rw [this]; exact dict
  node := split (fun j hj => by
    obtain ⟨t, t', e⟩ := T.node j hj
    refine ⟨t, t', ?_⟩
    dsimp only
    rw [if_neg (nek j hj), if_neg (nek j hj), if_neg (nek j hj)]
    exact q _ _ (key _ (by rw [T.tx j hj]; simp)) e) (by
    obtain ⟨t, t', e⟩ := e
    refine ⟨t, t', ?_⟩
    dsimp only
    rw [if_pos rfl, if_pos rfl, if_pos rfl, (T.out k hk).1]
    exact q _ _ (fun z => hx (z ▸ fD)) e)
  emp := split (fun j hj => by
    dsimp only
    rw [if_neg (nek j hj)]
    exact q _ _ (key _ (by rw [T.tz j hj]; simp)) (T.emp j hj)) (by
    dsimp only
    rw [if_pos rfl]
    exact q _ _ (fun z => hz (z ▸ fD)) ez)
  succ := split (fun j hj => by
    dsimp only
    rw [if_neg (nek j hj)]
    exact (T.succ j hj).at_ fun o => q _ o (key _ (by rw [T.ty j hj]; simp))) (by
    dsimp only
    rw [if_pos rfl, (T.out k hk).2]
    exact il.at_ fun o => q _ o (fun z => hy (z ▸ fD)))
  ready := fun hr => (T.ready hr).at_ fun o => q _ o (key _ (by rw [T.tr hr]; decide))
  nd := by
   rw [List.nodup_append]
   refine ⟨T.nd, by simp, fun a ha b hb => ?_⟩
   rw [List.mem_singleton.mp hb]; exact nek a ha
  ta := (tg _ fa).trans T.ta
  td := (tg _ fd).trans T.td
  tD := (tg _ fD).trans T.tD
  tr := fun hr => (tg _ (mem_fp.mpr (.inr (.inr (.inr (.inl ⟨hr, rfl⟩)))))).trans (T.tr hr)
  tx := split (fun j hj => by
    dsimp only
    rw [if_neg (nek j hj)]; exact (tg _ (mx j hj).1).trans (T.tx j hj)) (by
    dsimp only
    rw [if_pos rfl, if_pos rfl])
  ty := split (fun j hj => by
    dsimp only
    rw [if_neg (nek j hj)]; exact (tg _ (mx j hj).2.1).trans (T.ty j hj)) (by
    dsimp only
    rw [if_pos rfl, if_neg hxy.symm, if_pos rfl])
  tz := split (fun j hj => by
    dsimp only
    rw [if_neg (nek j hj)]; exact (tg _ (mx j hj).2.2).trans (T.tz j hj)) (by
    dsimp only
    rw [if_pos rfl, if_neg hxz.symm, if_neg hyz.symm, if_pos rfl])
  out := fun j hj => T.out j fun z => hj (List.mem_append_left _ z)
  small := by show (G.order ++ [k]).length <= 200; rw [List.length_append]; simp; lia
  dn := T.dn }
end
section
variable {w : World} {A : Around} {E : Value -> Shared -> Prop} {s : Shared} {X M : List Addr} {env : Env} {h₀ h h' : Heap} {vals : List (Option PV)} {G : SG} {V : SV}
theorem Ev.attr {value : Expr} {name : Str} {pos : Pos} {x : Addr} {v : Value} {p : PV} (e : Ev pw w A env X h value (.obj (.ref x)))
  (get : ∀ (s : Shared) (Q : Value -> Shared -> Prop) (E : Value -> Shared -> Prop), HK h s.heap -> Q v { s with toks := s.toks + 1 } -> wpAny (model pw w) A (getAttr (.ref x) name true) Q E s)
  (rp : ∀ h', HK h h' -> Rep X h' p v) (hb : attributeBase value name env (eval value env) = eval value env := by rfl) : Ev pw w A env X h (.Attribute value name pos) p := by
 intro s Q E k hq
 rw [arm_eval_Attribute, hb]
 refine wpAny_bind (e s _ _ k fun o s₁ g r => ?_)
 obtain rfl : o = .ref x := r
 refine wpAny_bind (wpAny_standAt (wpAny_bind (wpAny_holding (get s₁ _ _ (k.trans g.hk) ?_))))
 exact wpAny_bind (wpAny_letTemporaryGo (wpAny_pure (hq v _ (g.trans (Gw.tok s₁)) (rp _ (k.trans g.hk)))))
theorem I_s (T : TS w h G V) : ∃ t1 t2 t3 t4 k1 k2 n, InstAt h G.a (instObj 238 G.d) 238 (some (sDict t1 t2 t3 t4 G.D G.rv V.pas V.fin k1 k2 n)) :=
 let ⟨t1, t2, t3, t4, k1, k2, n, e⟩ := T.dict
 ⟨t1, t2, t3, t4, k1, k2, n, ⟨T.at_, rfl, rfl, e⟩⟩
theorem I_n (T : TS w h G V) {j : Nat} (hj : j ∈ G.order) : ∃ t t', InstAt h (G.x j) (nObj (G.z j) j t (V.np j) t' (G.y j)) 141 (some emptyDict) :=
 let ⟨t, t', e⟩ := T.node j hj
 ⟨t, t', ⟨e, rfl, rfl, T.emp j hj⟩⟩
theorem InstAt.hk {x : Addr} {ox : Obj} {C : Addr} {od : Option Obj} (I : InstAt h x ox C od) (k : HK h h') : InstAt h' x ox C od :=
 ⟨k _ _ I.at_, I.cls, I.no, by
  have := I.dict
  split at this <;> first | exact k _ _ this | trivial | exact this.elim⟩
section
variable {P : Params} (K : (Kts P pw).In h) (T : TS w h G V) {value : Expr} {pos : Pos}
include K T
theorem Ev.sMap (e : Ev pw w A env X h value (.obj (.ref G.a))) (hb : attributeBase value "_node2info" env (eval value env) = eval value env := by rfl) : Ev pw w A env X h (.Attribute value "_node2info" pos) (.obj (.ref G.D)) := by
 obtain ⟨t1, t2, t3, t4, k1, k2, n, I⟩ := I_s T
 exact Ev.attr e (fun s Q E k hq => get_value (K.keeps k) (InstAt.hk I k) f_sga f_a1 rfl hq) (fun _ _ => by unfold Rep; rfl) hb
theorem Ev.sReady (e : Ev pw w A env X h value (.obj (.ref G.a))) (hr : G.rdy = true) (hb : attributeBase value "_ready_nodes" env (eval value env) = eval value env := by rfl) : Ev pw w A env X h (.Attribute value "_ready_nodes" pos) (.obj (.ref G.r)) := by
 obtain ⟨t1, t2, t3, t4, k1, k2, n, I⟩ := I_s T
 have hv : G.rv = .ref G.r := by unfold SG.rv; rw [hr]; rfl
 rw [hv] at I
 exact Ev.attr e (fun s Q E k hq => get_value (K.keeps k) (InstAt.hk I k) f_sga f_a2 rfl hq) (fun _ _ => by unfold Rep; rfl) hb
theorem Ev.sReadyL (e : Ev pw w A env X h value (.obj (.ref G.a))) (hr : G.rdy = true) (hX : G.r ∉ X) (hb : attributeBase value "_ready_nodes" env (eval value env) = eval value env := by rfl) : Ev pw w A env X h (.Attribute value "_ready_nodes" pos) (pvN V.ready) := by
 obtain ⟨t1, t2, t3, t4, k1, k2, n, I⟩ := I_s T
 have hv : G.rv = .ref G.r := by unfold SG.rv; rw [hr]; rfl
 rw [hv] at I
 exact Ev.attr e (fun s Q E k hq => get_value (K.keeps k) (InstAt.hk I k) f_sga f_a2 rfl hq) (fun _ k => ((T.ready hr).at_ fun o => k _ o).rep hX) hb
theorem Ev.sReady0 (e : Ev pw w A env X h value (.obj (.ref G.a))) (hr : G.rdy = false) (hb : attributeBase value "_ready_nodes" env (eval value env) = eval value env := by rfl) : Ev pw w A env X h (.Attribute value "_ready_nodes" pos) .none := by
 obtain ⟨t1, t2, t3, t4, k1, k2, n, I⟩ := I_s T
 have hv : G.rv = .none := by unfold SG.rv; rw [hr]; rfl
 rw [hv] at I
 exact Ev.attr e (fun s Q E k hq => get_value (K.keeps k) (InstAt.hk I k) f_sga f_a2 rfl hq) (fun _ _ => by unfold Rep; rfl) hb
theorem Ev.sPas (e : Ev pw w A env X h value (.obj (.ref G.a))) (hb : attributeBase value "_npassedout" env (eval value env) = eval value env := by rfl) : Ev pw w A env X h (.Attribute value "_npassedout" pos) (.int V.pas) := by
 obtain ⟨t1, t2, t3, t4, k1, k2, n, I⟩ := I_s T
 exact Ev.attr e (fun s Q E k hq => get_value (K.keeps k) (InstAt.hk I k) f_sga f_a3 rfl hq) (fun _ _ => ⟨_, rfl⟩) hb
theorem Ev.sFin (e : Ev pw w A env X h value (.obj (.ref G.a))) (hb : attributeBase value "_nfinished" env (eval value env) = eval value env := by rfl) : Ev pw w A env X h (.Attribute value "_nfinished" pos) (.int V.fin) := by
 obtain ⟨t1, t2, t3, t4, k1, k2, n, I⟩ := I_s T
 exact Ev.attr e (fun s Q E k hq => get_value (K.keeps k) (InstAt.hk I k) f_sga f_a4 rfl hq) (fun _ _ => ⟨_, rfl⟩) hb
theorem getNp {j : Nat} (hj : j ∈ G.order) {s : Shared} {Q : Value -> Shared -> Prop} {E : Value -> Shared -> Prop} (k : HK h s.heap) (hq : ∀ t, Q (.int (V.np j) t) { s with toks := s.toks + 1 }) : wpAny (model pw w) A (getAttr (.ref (G.x j)) "npredecessors" true) Q E s := by
 obtain ⟨t, t', I⟩ := I_n T hj
 have I' := InstAt.hk I k
 refine get_bind (K.keeps k) I' f_nga f_n1 f_ngk (wpAny_call (slot_get (s := { s with toks := s.toks + 1 }) (K.keeps k) I' f_s1 rfl ?_))
 show wpAny _ _ (handedOut _) _ _ _
 rw [handedOut_of rfl]
 exact wpAny_pure (hq t')
theorem getNode {j : Nat} (hj : j ∈ G.order) {s : Shared} {Q : Value -> Shared -> Prop} {E : Value -> Shared -> Prop} (k : HK h s.heap) (hq : ∀ t, Q (.int j t) { s with toks := s.toks + 1 }) : wpAny (model pw w) A (getAttr (.ref (G.x j)) "node" true) Q E s := by
 obtain ⟨t, t', I⟩ := I_n T hj
 have I' := InstAt.hk I k
 refine get_bind (K.keeps k) I' f_nga f_n0 f_ngk (wpAny_call (slot_get (s := { s with toks := s.toks + 1 }) (K.keeps k) I' f_s0 rfl ?_))
 show wpAny _ _ (handedOut _) _ _ _
 rw [handedOut_of rfl]
 exact wpAny_pure (hq t)
theorem getSucc {j : Nat} (hj : j ∈ G.order) {s : Shared} {Q : Value -> Shared -> Prop} {E : Value -> Shared -> Prop} (k : HK h s.heap) (hq : Q (.ref (G.y j)) { s with toks := s.toks + 1 }) : wpAny (model pw w) A (getAttr (.ref (G.x j)) "successors" true) Q E s := by
 obtain ⟨t, t', I⟩ := I_n T hj
 have I' := InstAt.hk I k
 refine get_bind (K.keeps k) I' f_nga f_n2 f_ngk (wpAny_call (slot_get (s := { s with toks := s.toks + 1 }) (K.keeps k) I' f_s2 rfl ?_))
 show wpAny _ _ (handedOut _) _ _ _
 rw [handedOut_of rfl]
 exact wpAny_pure hq
theorem Ev.nNp {j : Nat} (hj : j ∈ G.order) (e : Ev pw w A env X h value (.obj (.ref (G.x j)))) (hb : attributeBase value "npredecessors" env (eval value env) = eval value env := by rfl) : Ev pw w A env X h (.Attribute value "npredecessors" pos) (.int (V.np j)) := by
 intro s Q E k hq
 rw [arm_eval_Attribute, hb]
 refine wpAny_bind (e s _ _ k fun o s₁ g r => ?_)
 obtain rfl : o = .ref (G.x j) := r
 refine wpAny_bind (wpAny_standAt (wpAny_bind (wpAny_holding (getNp K T hj (k.trans g.hk) fun t => ?_))))
 exact wpAny_bind (wpAny_letTemporaryGo (wpAny_pure (hq _ _ (g.trans (Gw.tok s₁)) ⟨t, rfl⟩)))
theorem Ev.nNode {j : Nat} (hj : j ∈ G.order) (e : Ev pw w A env X h value (.obj (.ref (G.x j)))) (hb : attributeBase value "node" env (eval value env) = eval value env := by rfl) : Ev pw w A env X h (.Attribute value "node" pos) (.int j) := by
 intro s Q E k hq
 rw [arm_eval_Attribute, hb]
 refine wpAny_bind (e s _ _ k fun o s₁ g r => ?_)
 obtain rfl : o = .ref (G.x j) := r
 refine wpAny_bind (wpAny_standAt (wpAny_bind (wpAny_holding (getNode K T hj (k.trans g.hk) fun t => ?_))))
 exact wpAny_bind (wpAny_letTemporaryGo (wpAny_pure (hq _ _ (g.trans (Gw.tok s₁)) ⟨t, rfl⟩)))
theorem Ev.nSucc {j : Nat} (hj : j ∈ G.order) (e : Ev pw w A env X h value (.obj (.ref (G.x j)))) (hb : attributeBase value "successors" env (eval value env) = eval value env := by rfl) : Ev pw w A env X h (.Attribute value "successors" pos) (.obj (.ref (G.y j))) :=
 Ev.attr e (fun s Q E k hq => getSucc K T hj k hq) (fun _ _ => by unfold Rep; rfl) hb
theorem Ev.nSuccL {j : Nat} (hj : j ∈ G.order) (e : Ev pw w A env X h value (.obj (.ref (G.x j)))) (hX : G.y j ∉ X) (hb : attributeBase value "successors" env (eval value env) = eval value env := by rfl) : Ev pw w A env X h (.Attribute value "successors" pos) (pvN (V.succ j)) :=
 Ev.attr e (fun s Q E k hq => getSucc K T hj k hq) (fun _ k => ((T.succ j hj).at_ fun o => k _ o).rep hX) hb
end
section
variable {P : Params} {Q : Unit -> Shared -> Prop} (K : (Kts P pw).In s.heap) (T : TS w s.heap G V)
include K T
theorem putNp {j : Nat} (hj : j ∈ G.order) {c : Int} {t : Tok} (hq : ∀ s', Mv [G.x j] s s' -> TS w s'.heap G { V with np := updI V.np j c } -> Q () s') : wpAny (model pw w) A (setAttr (.ref (G.x j)) "npredecessors" (.int c t)) Q E s := by
 obtain ⟨t0, t', I⟩ := I_n T hj
 refine set_slot (ox' := nObj (G.z j) j t0 c t (G.y j)) K I f_t1 f_md1 f_s1 (by decide) rfl rfl fun h' sb ho => ?_
 exact hq _ ⟨⟨h', _, rfl⟩, Kp.of_same sb⟩ (T.setNp hj (Kp.of_same sb) ⟨t0, t, ho⟩)
theorem putPas {c : Int} {t : Tok} (hq : ∀ s', Mv [G.d] s s' -> TS w s'.heap G { V with pas := c } -> Q () s') : wpAny (model pw w) A (setAttr (.ref G.a) "_npassedout" (.int c t)) Q E s := by
 obtain ⟨t1, t2, t3, t4, k1, k2, n, hd⟩ := T.dict
 refine set_sd (t1 := t1) (t2 := t2) (t3 := t3) (t4 := t4) (D := G.D) (rv := G.rv) (np := c) (nf := V.fin) (k1 := t) (k2 := k2) (n := n) (od' := sDict t1 t2 t3 t4 G.D G.rv c V.fin t k2 n) (es := [_, _, _, _]) (n' := n) K T.at_ hd f_st3 (by kernel_rfl) (by kernel_rfl) rfl (by simp) fun h' sb ho => ?_
 exact hq _ ⟨⟨h', _, rfl⟩, Kp.of_same sb⟩ (T.setPF (Kp.of_same sb) ⟨t1, t2, t3, t4, t, k2, n, ho⟩)
theorem putFin {c : Int} {t : Tok} (hq : ∀ s', Mv [G.d] s s' -> TS w s'.heap G { V with fin := c } -> Q () s') : wpAny (model pw w) A (setAttr (.ref G.a) "_nfinished" (.int c t)) Q E s := by
 obtain ⟨t1, t2, t3, t4, k1, k2, n, hd⟩ := T.dict
 refine set_sd (t1 := t1) (t2 := t2) (t3 := t3) (t4 := t4) (D := G.D) (rv := G.rv) (np := V.pas) (nf := c) (k1 := k1) (k2 := t) (n := n) (od' := sDict t1 t2 t3 t4 G.D G.rv V.pas c k1 t n) (es := [_, _, _, _]) (n' := n) K T.at_ hd f_st4 (by kernel_rfl) (by kernel_rfl) rfl (by simp) fun h' sb ho => ?_
 exact hq _ ⟨⟨h', _, rfl⟩, Kp.of_same sb⟩ (T.setPF (Kp.of_same sb) ⟨t1, t2, t3, t4, k1, t, n, ho⟩)
theorem putReady {r : Addr} {xs : List Nat} (hr : G.rdy = false) (il : IL s.heap r xs) (hrf : r ∉ G.fp) (hq : ∀ s', Mv [G.d] s s' -> TS w s'.heap { G with rdy := true, r := r, tag := fun b => if b = r then (3, 0) else G.tag b } { V with ready := xs } -> Q () s') : wpAny (model pw w) A (setAttr (.ref G.a) "_ready_nodes" (.ref r)) Q E s := by
 obtain ⟨t1, t2, t3, t4, k1, k2, n, hd⟩ := T.dict
 refine set_sd (t1 := t1) (t2 := t2) (t3 := t3) (t4 := t4) (D := G.D) (rv := .ref r) (np := V.pas) (nf := V.fin) (k1 := k1) (k2 := k2) (n := n) (od' := sDict t1 t2 t3 t4 G.D (.ref r) V.pas V.fin k1 k2 n) (es := [_, _, _, _]) (n' := n) K T.at_ hd f_st2 (by kernel_rfl) (by kernel_rfl) rfl (by simp) fun h' sb ho => ?_
 exact hq _ ⟨⟨h', _, rfl⟩, Kp.of_same sb⟩ (T.setReady hr (Kp.of_same sb) ⟨t1, t2, t3, t4, k1, k2, n, ho⟩ il hrf)
end
end
section
variable {w : World} {A : Around} {E : Value -> Shared -> Prop} {s : Shared} {X M : List Addr} {env : Env} {h₀ h h' : Heap} {vals : List (Option PV)} {G : SG} {V : SV}
theorem x_ifW {prog : Program} {test : Expr} {body orelse rest : List Stmt} {pos : Pos} {Q : Flow -> Shared -> Prop}
  (t : wpAny (model prog w) A (isTrue test env (eval test env)) (fun b s' => wpAny (model prog w) A (execs (if b = true then body else orelse) env) (onw prog w A env rest Q E) E s') E s) :
  wpAny (model prog w) A (execs (.If test body orelse pos :: rest) env) Q E s := by
 refine x_cons (wpAny_If (wpAny_mono t (fun b s' z => ?_) fun _ _ z => z))
 cases b <;> exact z
theorem x_setA {o value : Expr} {attr : Str} {tpos pos : Pos} {a : Addr} {p : PV} {rest : List Stmt} {Q : Flow -> Shared -> Prop} (ev : Ev pw w A env X s.heap value p) (eo : Ev pw w A env X s.heap o (.obj (.ref a)))
  (next : ∀ v s', Gw s s' -> Rep X s'.heap p v -> wpAny (model pw w) A (setAttr (.ref a) attr v) (fun _ s'' => wpAny (model pw w) A (execs rest env) Q E s'') E s')
  (hs : swapsWith value (some (.Attribute o attr tpos)) pos.line env = pure false := by rfl) :
  wpAny (model pw w) A (execs (.Assign [.Attribute o attr tpos] value pos :: rest) env) Q E s := by
 refine wpAny_execs_cons (plainObj_wpAny_Assign_Attribute (ev s _ _ (HK.refl _) fun v s₁ g r => eo s₁ _ _ g.hk fun ov s₂ g₂ r₂ => ?_) hs)
 obtain rfl : ov = .ref a := r₂
 exact next v s₂ (g.trans g₂) (r.hk g₂.hk)
theorem x_augA {o value : Expr} {attr : Str} {tpos pos : Pos} {op : Operator} {a : Addr} {i j c : Int} {rest : List Stmt} {Q : Flow -> Shared -> Prop} (eo : Ev pw w A env X s.heap o (.obj (.ref a)))
  (get : ∀ (s' : Shared) (Q : Value -> Shared -> Prop) (E : Value -> Shared -> Prop), HK s.heap s'.heap -> (∀ t, Q (.int i t) { s' with toks := s'.toks + 1 }) -> wpAny (model pw w) A (getAttr (.ref a) attr true) Q E s')
  (ev : Ev pw w A env X s.heap value (.int j))
  (hop : ∀ (s' : Shared) (Q : Value -> Shared -> Prop) (E : Value -> Shared -> Prop) t u, (∀ t' s'', Gw s' s'' -> Q (.int c t') s'') -> wpAny (model pw w) A (inplaceOp op (.int i t) (.int j u)) Q E s')
  (next : ∀ t s', Gw s s' -> wpAny (model pw w) A (setAttr (.ref a) attr (.int c t)) (fun _ s'' => wpAny (model pw w) A (execs rest env) Q E s'') E s') :
  wpAny (model pw w) A (execs (.AugAssign (.Attribute o attr tpos) op value pos :: rest) env) Q E s := by
 refine wpAny_execs_cons (wpAny_AugAssign_AttributeAny (eo s _ _ (HK.refl _) fun ov s₁ g r => ?_))
 obtain rfl : ov = .ref a := r
 refine get s₁ _ _ g.hk fun t => ?_
 have g1 := g.trans (Gw.tok s₁)
 refine ev _ _ _ g1.hk fun v s₂ g₂ r₂ => ?_
 obtain ⟨u, rfl⟩ := r₂
 exact hop s₂ _ _ t u fun t' s₃ g₃ => next t' s₃ ((g1.trans g₂).trans g₃)
theorem iadd_i {i j : Int} : ∀ (s' : Shared) (Q : Value -> Shared -> Prop) (E : Value -> Shared -> Prop) t u, (∀ t' s'', Gw s' s'' -> Q (.int (i + j) t') s'') -> wpAny (model pw w) A (inplaceOp .Add (.int i t) (.int j u)) Q E s' :=
 fun s' Q E t u hq => PySem.AutoIntOps.iadd_0 (hq _ _ (Gw.tok s'))
theorem isub_i {i j : Int} : ∀ (s' : Shared) (Q : Value -> Shared -> Prop) (E : Value -> Shared -> Prop) t u, (∀ t' s'', Gw s' s'' -> Q (.int (i - j) t') s'') -> wpAny (model pw w) A (inplaceOp .Sub (.int i t) (.int j u)) Q E s' :=
 fun s' Q E t u hq => PySem.AutoIntOps.isub_0 (hq _ _ (Gw.tok s'))
theorem call_s {P : Params} (K : (Kts P pw).In s.heap) (T : TS w s.heap G V) {value : Expr} {name : Str} {args : List Expr} {ps : List PV} {f : Addr} {apos pos : Pos} {pl : Sem Bool} {Q : Value -> Shared -> Prop} {fd : FuncData} (hf : findIn (Kts P pw) (.ref 238) name = some (some (.ref f))) (ht : typeIn (Kts P pw) (.ref f) = some (.type "function")) (hfn : s.heap.get? f = some (fnObj fd))
  (hsh : name ∈ (["_get_nodeinfo", "add", "prepare", "get_ready", "is_active", "done", "_find_cycle"] : List Str)) (e : Ev pw w A env X s.heap value (.obj (.ref G.a))) (ys : EvL pw w A env X s.heap args ps)
  (next : ∀ vs s', Gw s s' -> RepL X s'.heap ps vs -> wpAny (model pw w) A (PySem.call (.ref f) (.ref G.a :: vs) []) Q E s')
  (hp : (backTo pos (starEach args env)).any (·.1) = false := by rfl)
  (he : eval (.Call (.Attribute value name apos) args [] pos) env = (do
   let ov <- eval value env
   standAt apos.atName
   let (f, first) <- holding [ov] (getMethod ov name pl)
   callWith pos f first (backTo pos (starEach args env)) []) := by rfl) :
  wpAny (model pw w) A (eval (.Call (.Attribute value name apos) args [] pos) env) Q E s := by
 refine MethodCall_ (e s _ _ (HK.refl _) fun v s₁ g r => ?_) he
 obtain rfl : v = .ref G.a := r
 obtain ⟨t1, t2, t3, t4, k1, k2, n, I⟩ := I_s T
 refine method_fn (K.keeps g.hk) (InstAt.hk I g.hk) f_sga f_sgk hf ht (f_sh name hsh) ?_
 refine callWith_plain hp ⟨_, fd, g.hk _ _ hfn, rfl⟩ (evalArgs_L ys hp g.hk fun vs s₂ g₂ r₂ => ⟨g₂.hk, ?_⟩)
 exact next vs s₂ (g.trans g₂) r₂
theorem vAt_map {order : List Nat} {f : Nat -> Addr} {k : Nat} : valueAt (order.map fun (j : Nat) => ((j : Int), Value.ref (f j))) (k : Int) = if k ∈ order then some (.ref (f k)) else none := by
 unfold valueAt
 induction order with
 | nil => simp
 | cons j order ih =>
  rw [List.map_cons, List.find?_cons]
  by_cases h : j = k
  ·subst h; simp
  ·have h1 : decide (((j : Int), Value.ref (f j)).1 = (k : Int)) = false := decide_eq_false (by show ¬((j : Int) = (k : Int)); lia)
   simp only [h1]
   rw [ih]
   have h2 : ¬k = j := fun e => h e.symm
   simp [List.mem_cons, h2]
theorem Ev.mapItem (T : TS w h G V) {value slice : Expr} {pos : Pos} {k : Nat} (hk : k ∈ G.order) (x : Ev pw w A env X h value (.obj (.ref G.D))) (y : Ev pw w A env X h slice (.int k))
  (hs : ∀ o i, subscripted slice false o i = operate [o, i] (getItem o i) := by intro _ _; rfl) : Ev pw w A env X h (.Subscript value slice pos) (.obj (.ref (G.x k))) :=
 Ev.sub' x y fun s Q E u v kk ra rb hq => by
  obtain rfl : u = .ref G.D := ra
  obtain ⟨t, rfl⟩ := rb
  have d : s.heap.DictOf (intKind pw w) G.D _ := DictOf.at_ T.map fun o => kk _ o
  exact tail_any d.typeIs slot_dict_getitem.lookup (wpAny_getItem_of (isInt_int _ _) d.mapOf (by rw [vAt_map, if_pos hk]) (hq _ _ (Gw.tok s) (by unfold Rep; rfl))) (hs _ _)
theorem mapGet (T : TS w h G V) {value e : Expr} {apos pos : Pos} {k : Nat} {pl : Sem Bool} (x : Ev pw w A env X h value (.obj (.ref G.D))) (y : Ev pw w A env X h e (.int k))
  (hse : starEach [e] env = [(false, eval e env)] := by rfl)
  (he : eval (.Call (.Attribute value "get" apos) [e] [] pos) env = (do
   let ov <- eval value env
   standAt apos.atName
   let (f, first) <- holding [ov] (getMethod ov "get" pl)
   callWith pos f first (backTo pos (starEach [e] env)) []) := by rfl) :
  Ev pw w A env X h (.Call (.Attribute value "get" apos) [e] [] pos) (.obj (if k ∈ G.order then .ref (G.x k) else .none)) := by
 intro s Q E kk hq
 refine MethodCall_ (x s _ _ kk fun v s₁ g r => ?_) he
 obtain rfl : v = .ref G.D := r
 have d : s₁.heap.DictOf (intKind pw w) G.D _ := DictOf.at_ T.map fun o e => g.hk _ o (kk _ o e)
 refine getMethod_builtin d.typeIs PySem.F.plainAttrs_dict PySem.F.slot_dict_get PySem.F.type_dict_get d.mapOf.noDict ?_
 rw [hse]
 refine wpAny_dict_get1 (knd := intKind pw w) T.dn (by
  rw [if_neg (by decide)]
  refine y s₁ _ _ (kk.trans g.hk) fun v s₂ g₂ r₂ => ?_
  obtain ⟨t, rfl⟩ := r₂
  have d₂ : s₂.heap.DictOf (intKind pw w) G.D _ := DictOf.at_ d fun o => g₂.hk _ o
  refine ⟨(k : Int), _, isInt_int _ _, d₂.mapOf, ?_⟩
  rw [vAt_map]
  refine hq _ _ ((g.trans g₂).trans (Gw.tok s₂)) ?_
  unfold Rep
  split <;> rfl)
theorem Fm.grow (F : Fm env X M h₀ h vals) {fp fp' : List Addr} (k : Kp fp h h') (sub : ∀ b ∈ fp, b ∈ X /\ b ∉ own env /\ (b ∈ M \/ h₀.get? b = none)) (ex : ∀ b ∈ fp', ∃ o, h'.get? b = some o) (ex0 : ∀ b ∈ fp, ∃ o, h'.get? b = some o) (new : ∀ b ∈ fp', b ∈ fp \/ h.get? b = none) :
  Fm env (fp' ++ X) M h₀ h' vals := by
 have F1 : Fm env X M h₀ h' vals := F.other k (fun a ha => (sub a ha).2.1) (fun a ha => (sub a ha).1) (fun a ha => (sub a ha).2.2) fun b hb => by
  by_cases hf : b ∈ fp
  ·exact ex0 b hf
  ·obtain ⟨o, ho⟩ := F.xb b hb; exact ⟨o, k b o hf ho⟩
 exact { F1 with
  rd := fun i x kd pv e1 e2 => by
   obtain ⟨v, a, b⟩ := F.rd i x kd pv e1 e2
   obtain ⟨v', a', b'⟩ := F1.rd i x kd pv e1 e2
   have b2 : Rep (fp' ++ X) h pv v := Rep.more (fun c hc => (List.mem_append.mp hc).elim (fun z => (new c z).elim (fun q => .inl (sub c q).1) .inr) .inl) b
   refine ⟨v, ?_, Rep.kp (k.mono fun c hc => List.mem_append_right _ (sub c hc).1) b2⟩
   rcases a with ⟨e, m, n, hm⟩ | ⟨e, c, l, hc⟩
   ·exact .inl ⟨e, m, n.at' fun o ho => k _ o (fun hz => (sub _ hz).2.1 List.mem_cons_self) ho, hm⟩
   ·obtain ⟨o, ho, hd⟩ := hc
    exact .inr ⟨e, c, l, o, k _ o (fun hz => (sub _ hz).2.1 (mem_own_of_lookup l)) ho, hd⟩
  xb := fun a ha => (List.mem_append.mp ha).elim (ex a) (F1.xb a)
  ox := fun a ha => List.mem_append_right _ (F1.ox a ha) }
theorem sub_grow (F : Fm env X M h₀ h vals) {fp fp' : List Addr} (sub : ∀ b ∈ fp, b ∈ X /\ b ∉ own env /\ (b ∈ M \/ h₀.get? b = none)) (new : ∀ b ∈ fp', b ∈ fp \/ h.get? b = none) : ∀ b ∈ fp', b ∈ fp' ++ X /\ b ∉ own env /\ (b ∈ M \/ h₀.get? b = none) := fun b hb => by
 refine ⟨List.mem_append_left _ hb, ?_⟩
 rcases new b hb with q | q
 ·exact (sub b q).2
 ·refine ⟨fun z => ?_, ?_⟩
  ·obtain ⟨o, e⟩ := F.xb b (F.ox b z); rw [q] at e; cases e
  ·by_cases hM : b ∈ M
   ·exact .inl hM
   ·right
    cases e : h₀.get? b with
    | none => rfl
    | some o => rw [F.keep b o hM e] at q; cases q
structure MvB (hb : Heap) (N : List Addr) (s s' : Shared) : Prop where
 ex : ∃ h' tk, s' = { s with heap := h', toks := tk }
 kp : ∀ b o, b ∉ N -> (∃ o', hb.get? b = some o') -> s.heap.get? b = some o -> s'.heap.get? b = some o
theorem MvB.refl (hb : Heap) (N : List Addr) (s : Shared) : MvB hb N s s := ⟨⟨s.heap, s.toks, rfl⟩, fun _ _ _ _ e => e⟩
theorem MvB.trans {hb : Heap} {N : List Addr} {a b c : Shared} (x : MvB hb N a b) (y : MvB hb N b c) : MvB hb N a c := by
 obtain ⟨⟨h, t, rfl⟩, q⟩ := x
 obtain ⟨⟨h', t', rfl⟩, q'⟩ := y
 exact ⟨⟨h', t', rfl⟩, fun b o h1 h2 e => q' b o h1 h2 (q b o h1 h2 e)⟩
theorem MvB.of {hb : Heap} {N N' : List Addr} {a b : Shared} (x : Mv N' a b) (h : ∀ m ∈ N', m ∈ N \/ hb.get? m = none) : MvB hb N a b :=
 ⟨x.ex, fun b o h1 ⟨o', h2⟩ e => x.kp b o (fun z => (h b z).elim h1 fun q => by rw [q] at h2; cases h2) e⟩
theorem MvB.mono {hb : Heap} {N N' : List Addr} {a b : Shared} (x : MvB hb N a b) (h : ∀ m ∈ N, m ∈ N') : MvB hb N' a b := ⟨x.ex, fun b o h1 => x.kp b o fun z => h1 (h b z)⟩
theorem x_forS {prog : Program} {p : PV} {its : List PV} {target iter : Expr} {body rest : List Stmt} {pos : Pos} {Q : Flow -> Shared -> Prop} (hh : A.handled = none) (N : List Addr) (hN : ∀ b ∈ N, b ∈ X) (xb : XB s.heap X)
  (ev : Ev prog w A env X s.heap iter p) (hi : Items p its) (Inv : Addr -> Heap -> Nat -> Shared -> Prop)
  (h0 : ∀ I s₁, Gw s s₁ -> s.heap.get? I = none -> (∃ o, s₁.heap.get? I = some o) -> Inv I s₁.heap 0 s₁)
  (stable : ∀ I hb i s₁ s₂, HK s.heap hb -> s.heap.get? I = none -> (∃ o, hb.get? I = some o) -> Inv I hb i s₁ -> Mv [I] s₁ s₂ -> (∃ o, s₂.heap.get? I = some o) -> Inv I hb i s₂)
  (turn : ∀ I hb i q v s₁ E', HK s.heap hb -> s.heap.get? I = none -> (∃ o, hb.get? I = some o) -> its[i]? = some q -> Inv I hb i s₁ -> Rep (I :: X) s₁.heap q v -> (∃ o, s₁.heap.get? I = some o) ->
   wpAny (model prog w) A (assign target env v) (fun _ s₂ => wpAny (model prog w) A (execs body env) (turnQ prog w A env rest Q E fun s₃ => MvB hb N s₁ s₃ /\ Inv I hb (i + 1) s₃) E' s₂) E' s₁)
  (fin : ∀ I hb s₁ s₂, HK s.heap hb -> s.heap.get? I = none -> (∃ o, hb.get? I = some o) -> Inv I hb its.length s₁ -> Mv [I] s₁ s₂ -> wpAny (model prog w) A (execs rest env) Q E s₂)
  (hs : ∀ x, foldedSetIterable iter env x = pure x := by intro _; rfl) (ht : ∀ it v, letOwnedTupleGo target it v = pure () := by intro _ _; rfl) :
  wpAny (model prog w) A (execs (.For target iter body [] pos :: rest) env) Q E s := by
 refine x_cons (wpAny_For (ev s _ _ (HK.refl _) fun v s₁ g r => ?_) hs)
 refine iter_of hi r fun I fp n P St s₂ g₂ hn W hst hex hP hfr hfp hlt hStI => ?_
 have k2 : HK s.heap s₂.heap := g.hk.trans g₂.hk
 have hfr0 : s.heap.get? I = none := by
  cases q : s.heap.get? I with
  | none => rfl
  | some o => rw [g.hk _ _ q] at hfr; cases hfr
 have hIX : I ∉ X := fun hx => by obtain ⟨o, e⟩ := xb I hx; rw [hfr0] at e; cases e
 have hIN : I ∉ N := fun hx => hIX (hN I hx)
 have W := W A hh
 refine codeAny_forLoop (fun k sx => ∃ i, k = n + 1 - i /\ i <= n /\ St i sx.heap /\ Inv I s₂.heap i sx /\ MvB s₂.heap (I :: N) s₂ sx) ?_ (n + 1) ⟨0, rfl, Nat.zero_le _, hst, h0 I s₂ (g.trans g₂) hfr0 hex, MvB.refl _ _ _⟩ (ht _)
 rintro k sx ⟨i, rfl, hle, hsti, hinv, hmv⟩
 by_cases hlt' : i < n
 ·refine W.item i sx _ _ hlt' hsti fun u h' tk hPu hst' hk => ?_
  have mv1 : Mv [I] sx { sx with heap := h', toks := tk } := ⟨⟨h', tk, rfl⟩, hk⟩
  obtain ⟨q, hq, hrep⟩ := hP i u hlt' hPu
  have hex' := hStI _ _ hst'
  have rep : Rep (I :: X) h' q u := by
   have r1 : Rep (I :: X) s₁.heap q u := Rep.more (fun a ha => (List.mem_cons.mp ha).elim (fun e => .inr (e ▸ hfr)) .inl) hrep
   refine Rep.kp (fun b o hb e => ?_) r1
   have hbI : b ≠ I := fun z => hb (z ▸ List.mem_cons_self)
   have hbN : b ∉ I :: N := fun z => (List.mem_cons.mp z).elim hbI fun z => hb (List.mem_cons_of_mem _ (hN b z))
   exact hk b o (by simpa using hbI) (hmv.kp b o hbN ⟨o, g₂.hk b o e⟩ (g₂.hk b o e))
  refine wpAny_mono (turn I s₂.heap i q u _ _ k2 hfr0 hex hq (stable I _ i _ _ k2 hfr0 hex hinv mv1 hex') rep hex') (fun _ s₄ h₄ => wpAny_mono h₄ (fun f s₅ h₅ => ?_) fun _ _ z => z) fun _ _ z => z
  have step : MvB s₂.heap N { sx with heap := h', toks := tk } s₅ /\ Inv I s₂.heap (i + 1) s₅ -> ∃ m, m < n + 1 - i /\ ∃ j, m = n + 1 - j /\ j <= n /\ St j s₅.heap /\ Inv I s₂.heap j s₅ /\ MvB s₂.heap (I :: N) s₂ s₅ := fun ⟨m5, i5⟩ => by
   refine ⟨n + 1 - (i + 1), by lia, i + 1, rfl, hlt', W.frame _ _ _ hst' fun b hb o e => m5.kp b o (fun z => ?_) ?_ e, i5, (hmv.trans (MvB.of mv1 (by simp))).trans (m5.mono fun m hm => List.mem_cons_of_mem _ hm)⟩
   ·rcases hfp b hb with rfl | ⟨hbX, _⟩
    ·exact hIN z
    ·exact hbX (hN b z)
   ·rcases hfp b hb with rfl | ⟨_, o', ho'⟩
    ·exact hex
    ·exact ⟨o', g₂.hk b o' ho'⟩
  cases f with
  | next => exact step h₅
  | cont => exact step h₅
  | brk => exact h₅
  | ret u => exact h₅
 ·have hin : i = n := by lia
  subst hin
  refine W.done sx _ _ hsti fun h' tk hk => ?_
  have mv1 : Mv [I] sx { sx with heap := h', toks := tk } := ⟨⟨h', tk, rfl⟩, hk⟩
  refine wpAny_execs_nil ?_
  exact fin I _ _ _ k2 hfr0 hex (hn ▸ hinv) mv1
end
end
theorem nd_put : ((fd_put pw).scope.names.map (·.1)).Nodup := by decide +kernel
theorem kd_put : ∀ x ∈ (fd_put pw).scope.names.take 4, x.2 = .local \/ x.2 = .cell := by decide +kernel
inductive WCase : Nat -> List Nat -> List Nat -> Prop
 | q (o : Nat) (h : o < 256) : WCase 0 [o] (qText o)
 | b (os : List Nat) (h1 : 1 <= os.length) (h3 : os.length <= 3) (h : ∀ x ∈ os, x < 256) : WCase 0 os (eAll os)
 | rq (o : Nat) (h : o < 256) : WCase 1 (qText o) [o]
 | rb (os : List Nat) (h1 : 1 <= os.length) (h3 : os.length <= 3) (h : ∀ x ∈ os, x < 256) : WCase 1 (eAll os) os
theorem qText_lt {o : Nat} (h : o < 256) : ∀ x ∈ qText o, x < 256 := by
 intro x hx
 unfold qText at hx
 simp only [List.mem_cons, List.not_mem_nil, or_false] at hx
 rcases hx with rfl | rfl | rfl
 ·decide
 ·have := hexd_lt (n := o / 16) (by lia); lia
 ·have := hexd_lt (n := o % 16) (by lia); lia
theorem WCase.lt {side : Nat} {sg W : List Nat} (c : WCase side sg W) : (∀ x ∈ sg, x < 256) /\ (∀ x ∈ W, x < 256) /\ sg.length <= 4 /\ W.length <= 4 /\ 1 <= sg.length /\ 1 <= W.length := by
 match side, sg, W, c with
 | _, _, _, .q o h => exact ⟨by simpa using h, qText_lt h, by show 1 <= 4; decide, by show 3 <= 4; decide, Nat.le_refl 1, by show 1 <= 3; decide⟩
 | _, _, _, .b os h1 h3 h => have := eAll_len h1 h3; exact ⟨h, eAll_lt os, by lia, by lia, h1, by lia⟩
 | _, _, _, .rq o h => exact ⟨qText_lt h, by simpa using h, by show 3 <= 4; decide, by show 1 <= 4; decide, by show 1 <= 3; decide, Nat.le_refl 1⟩
 | _, _, _, .rb os h1 h3 h => have := eAll_len h1 h3; exact ⟨eAll_lt os, h, by lia, by lia, by lia, h1⟩
def GB (M : List Addr) (h : Heap) : Prop := ∃ hb, Grd pw hb /\ HK hb h /\ ∀ a ∈ M, hb.get? a = none
theorem GB.grd {M : List Addr} {h : Heap} (x : GB M h) : Grd pw h := let ⟨_, g, k, _⟩ := x; g.hk k
theorem GB.kp {M : List Addr} {h h' : Heap} (x : GB M h) (k : Kp M h h') : GB M h' :=
 let ⟨hb, g, k0, n⟩ := x
 ⟨hb, g, fun b o e => k b o (fun hm => by rw [n b hm] at e; cases e) (k0 b o e), n⟩
theorem GB.hk {M : List Addr} {h h' : Heap} (x : GB M h) (k : HK h h') : GB M h' := x.kp (k.kp M)
theorem GB.less {M M' : List Addr} {h : Heap} (x : GB M h) (s : ∀ a ∈ M', a ∈ M \/ h.get? a = none) : GB M' h :=
 let ⟨hb, g, k0, n⟩ := x
 ⟨hb, g, k0, fun a ha => (s a ha).elim (n a) fun z => by
  cases q : hb.get? a with
  | none => rfl
  | some o => rw [k0 a o q] at z; cases z⟩
noncomputable def updF (f : Nat -> Option Nat) (md W : List Nat) : Nat -> Nat -> Option Nat
 | 0 => f
 | i + 1 => setF (updF f md W i) (md.getD i 0) (W.getD i 0)
theorem idx_pre {pre T post : List Nat} {t0 : Nat} (h0 : T[0]? = some t0) (hn : t0 ∉ pre) : (pre ++ T ++ post).idxOf t0 = pre.length := by
 induction pre with
 | nil =>
  cases T with
  | nil => simp at h0
  | cons x T => simp at h0; subst h0; simp
 | cons p pre ih =>
  simp only [List.mem_cons, not_or] at hn
  show (p :: (pre ++ T ++ post)).idxOf t0 = _
  rw [List.idxOf_cons, show (p == t0) = false from beq_eq_false_iff_ne.mpr fun e => hn.1 e.symm, ih hn.2]; rfl
section
variable {w : World} {A : Around} {X : List Addr} {s : Shared}
set_option maxHeartbeats 2000000 in
theorem w_put {aH : Addr} (GBs : GB [aH] s.heap) (hd : A.depth + 160 < recursionLimit) (hu : A.units + 500 < cLine) (hh : A.handled = none) (xb : XB s.heap X) (haX : aH ∈ X) {d : List Nat × List Nat} {side : Nat} {T md pre post sg W : List Nat} {f : Nat -> Option Nat} {N : Nat} {vs : List Value}
  (hside : (side = 0 /\ d = (T, md)) \/ (side = 1 /\ d = (md, T))) (hc : WCase side sg W) (hTs : T.map f = sg.map some) (hmd : md.length = W.length) (hN : N + 10 <= 1000)
  (hlt : ∀ x ∈ pre ++ T ++ post, x < 2 ^ 20) (hlen : (pre ++ T ++ post).length <= 100) (hmlt : ∀ x ∈ md, x < 2 ^ 20) (hpre : ∀ t ∈ T, t ∉ pre)
  (D : HD w s.heap aH N f) (rl : RepL X s.heap [pvD d, .int side, pvN (pre ++ T ++ post), .obj (.ref aH)] vs) {Q : Value -> Shared -> Prop} {E : Value -> Shared -> Prop}
  (hq : ∀ v s', Mv [aH] s s' -> Rep X s'.heap (pvN (pre ++ md ++ post)) v -> HD w s'.heap aH (N + md.length) (updF f md W md.length) -> Q v s') :
  wpAny (model pw w) A (PySem.call (.ref 277) vs []) Q E s := by
 have G := GBs.grd
 obtain ⟨hsg, hWlt, hsg4, hW4, hsg1, hW1⟩ := hc.lt
 have hTl : T.length = sg.length := by have := congrArg List.length hTs; simpa using this
 have hs01 : side = 0 \/ side = 1 := hside.elim (fun x => .inl x.1) (fun x => .inr x.1)
 unfold RepL at rl
 obtain ⟨v1, r1, rfl, p1, rl⟩ := rl
 unfold RepL at rl
 obtain ⟨v2, r2, rfl, p2, rl⟩ := rl
 unfold RepL at rl
 obtain ⟨v3, r3, rfl, p3, rl⟩ := rl
 unfold RepL at rl
 obtain ⟨v4, r4, rfl, p4, rl⟩ := rl
 obtain rfl : r4 = [] := rl
 refine wpAny_call (enter (fd := fd_put pw) (body := bodyOf (topS pw 41)) (binds := [("deed", v1), ("side", v2), ("text", v3), ("have", v4)]) (ps := [pvD d, .int side, pvN (pre ++ T ++ post), .obj (.ref aH)]) (X := X) (by lia) G.put.1 G.lim G.put.2 rfl rfl rfl rfl kd_put nd_put xb (RepL.cons p1 (RepL.cons p2 (RepL.cons p3 (RepL.cons p4 RepL.nil)))) ?_)
 intro s₁ env henv g F
 have hn : env.scope.names = (fd_put pw).scope.names := by rw [henv]; rfl
 have eg : env.globals = mainGlobals := by rw [henv]; rfl
 have eb : env.builtins = builtinsNs := by rw [henv]; rfl
 have hA : (A.deeper env).handled = none := hh
 have huA : (A.deeper env).units + 64 < cLine := by rw [Around.deeper_units]; lia
 obtain ⟨oH, hoH⟩ := D.ex
 have hHo : aH ∉ own env := fun z => by have := F.fresh aH z; rw [hoH] at this; cases this
 have haXX : aH ∈ own env ++ X := List.mem_append_right _ haX
 have F : Fm env (own env ++ X) [aH] s.heap s₁.heap [some (pvD d), some (.int side), some (pvN (pre ++ T ++ post)), some (.obj (.ref aH)), none, none, none, none, none, none, none, none, none, none, none] := { F with keep := F.keep.mono (by simp) }
 have D₁ := D.hk g.hk
 have G₁ : Grd pw s₁.heap := G.hk g.hk
 have hsd : (side : Int).toNat = side := Int.toNat_natCast _
 refine x_assign F 4 (nm hn rfl) (.inl rfl) (p := pvN T) (Ev.itemT (Ev.name F.toRd 0 (nm hn rfl) rfl) (Ev.name F.toRd 1 (nm hn rfl) rfl) (by lia) (by lia) ?_) fun s₂ m₂ F₂ => ?_
 ·rw [hsd]; rcases hside with ⟨rfl, rfl⟩ | ⟨rfl, rfl⟩ <;> rfl
 refine x_assign F₂ 5 (nm hn rfl) (.inl rfl) (p := pvN md) (Ev.itemT (i := ((1 - side : Nat) : Int)) (Ev.name F₂.toRd 0 (nm hn rfl) rfl) (Ev.cast (Ev.sub Ev.int (Ev.name F₂.toRd 1 (nm hn rfl) rfl)) ?_) (by lia) (by lia) ?_) fun s₃ m₃ F₃ => ?_
 ·congr 1; lia
 ·rw [Int.toNat_natCast]; rcases hside with ⟨rfl, rfl⟩ | ⟨rfl, rfl⟩ <;> rfl
 replace F₃ : Fm env (own env ++ X) [aH] s.heap s₃.heap [some (pvD d), some (.int side), some (pvN (pre ++ T ++ post)), some (.obj (.ref aH)), some (pvN T), some (pvN md), none, none, none, none, none, none, none, none, none] := F₃
 obtain ⟨t0, ht0⟩ : ∃ t0, T[0]? = some t0 := ⟨_, List.getElem?_eq_getElem (by lia)⟩
 have ht0m : t0 ∈ T := List.mem_of_getElem? ht0
 have hidx := idx_pre (post := post) ht0 (hpre t0 ht0m)
 refine x_assign F₃ 6 (nm hn rfl) (.inl rfl) (p := .int (pre.length : Nat)) (Ev.cast (Ev.index (xs := pre ++ T ++ post) (c := t0) (Ev.name F₃.toRd 2 (nm hn rfl) rfl) (Ev.item (Ev.name F₃.toRd 4 (nm hn rfl) rfl) Ev.int (by decide) (by decide) (pvN_get ht0)) (List.mem_append_left _ (List.mem_append_right _ ht0m)) hlt (by lia)) (by rw [hidx])) fun s₄ m₄ F₄ => ?_
 replace F₄ : Fm env (own env ++ X) [aH] s.heap s₄.heap [some (pvD d), some (.int side), some (pvN (pre ++ T ++ post)), some (.obj (.ref aH)), some (pvN T), some (pvN md), some (.int (pre.length : Nat)), none, none, none, none, none, none, none, none] := F₄
 have k₄ : Kp (own env) s₁.heap s₄.heap := ((m₂.trans m₃).trans m₄).kp
 have G₄ : Grd pw s₄.heap := (GBs.kp F₄.keep).grd
 have evlenT : ∀ {h' : Heap} {vals : List (Option PV)} (G' : Grd pw h') (rd : Rd env (own env ++ X) h' vals) (_ : vals[4]? = some (some (pvN T))) (p1 p2 p3 : Pos), Ev pw w (A.deeper env) env (own env ++ X) h' (.Call (.Name "len" p1) [.Name "taken" p2] [] p3) (.int T.length) := fun G' rd e4 p1 p2 p3 =>
  Ev.call (Ev.glob rd 10 (nm hn rfl) G'.g_len eg eb) (EvL.cons (Ev.name rd 4 (nm hn rfl) e4) EvL.nil) trivial (c_lenN (by lia))
 have hTlen : (pre ++ T ++ post).length = pre.length + T.length + post.length := by rw [List.length_append, List.length_append]
 have evhi : ∀ {h' : Heap} {vals : List (Option PV)} (G' : Grd pw h') (rd : Rd env (own env ++ X) h' vals) (_ : vals[4]? = some (some (pvN T))) (_ : vals[6]? = some (some (.int (pre.length : Nat)))) (p1 p2 p3 p4 p5 : Pos), Ev pw w (A.deeper env) env (own env ++ X) h' (.BinOp (.Name "place" p4) .Add (.Call (.Name "len" p1) [.Name "taken" p2] [] p3) p5) (.int ((pre.length + T.length : Nat) : Int)) := fun G' rd e4 e6 p1 p2 p3 p4 p5 =>
  (Ev.add (Ev.name rd 6 (nm hn rfl) e6) (evlenT G' rd e4 p1 p2 p3)).cast (by congr 1)
 refine x_if (b := false) (Tst.hcast (Tst.neN huA (Ev.cast (Ev.sliceL F₄.xb (Ev.name F₄.toRd 2 (nm hn rfl) rfl) (EvP.some (Ev.name F₄.toRd 6 (nm hn rfl) rfl)) (EvP.some (evhi G₄ F₄.toRd rfl rfl _ _ _ _ _)) (by rw [List.length_map]; unfold sizeLine; lia) (slice_run (by rw [List.length_map]; lia) (by lia))) ?_) (Ev.name F₄.toRd 4 (nm hn rfl) rfl)) (by rw [decide_eq_true rfl]; rfl)) fun s₅ g₅ => ?_
 ·rw [<- List.map_drop, <- List.map_take, Nat.add_sub_cancel_left, List.append_assoc, List.drop_left, List.take_left]
 rw [if_neg (by decide)]
 refine x_nil ?_
 have F₅ := F₄.hk g₅.hk
 have D₅ : HD w s₅.heap aH N f := (D₁.kp k₄ hHo).hk g₅.hk
 have G₅ : Grd pw s₅.heap := (GBs.kp F₅.keep).grd
 refine x_assign F₅ 7 (nm hn rfl) (.inl rfl) (p := .str (txt sg)) (Ev.join1 (cs := sg) (Ev.cast (Ev.comp F₅.toRd hA (its := T.map fun (n : Nat) => PV.int n) 1 [(2, 3)] (fun q => match q with | .int k => .str ⟨#[(f k.toNat).getD 0]⟩ | _ => .none) (fun _ => true) (CompOk.of (has := [true, true, true, true, true, true, true, false, false, false, false, false, false, false, false]) (by rw [hn]; decide +kernel) rfl) rfl (Ev.name F₅.toRd 4 (nm hn rfl) rfl) (Items.list _) ?_ ?_ ?_ ?_ ?_) ?_) ?_) fun s₆ m₆ F₆ => ?_
 ·intro q hq; obtain ⟨i, _, rfl⟩ := List.mem_map.mp hq; exact trivial
 ·rw [List.length_map]; unfold sizeLine; lia
 ·intro q hq _; obtain ⟨i, _, rfl⟩ := List.mem_map.mp hq; exact trivial
 ·intros; exact TstAll.nil
 ·intro q hq _ en h' hcn eg' eb' kk rd
  obtain ⟨c, hc', rfl⟩ := List.mem_map.mp hq
  replace rd : Rd en (own env ++ X) h' [none, some (.int c), some (.obj (.ref aH))] := rd
  have hfc : f c = some ((f c).getD 0) := by
   have : f c ∈ T.map f := List.mem_map_of_mem hc'
   rw [hTs] at this
   obtain ⟨z, _, e⟩ := List.mem_map.mp this
   rw [<- e]; rfl
  exact Ev.itemD (D₅.hk kk) (Ev.name rd 2 (nm hcn rfl) rfl) (Ev.name rd 1 (nm hcn rfl) rfl) hfc
 ·rw [filter_true, List.map_map]
  show PV.list _ = PV.list ((ones sg).map PV.str)
  have : sg = T.map fun c => (f c).getD 0 := by
   have := congrArg (List.map fun o => Option.getD o 0) hTs
   rw [List.map_map, List.map_map] at this
   exact ((this.trans (show List.map (fun x => x) sg = sg from List.map_id' sg))).symm
  rw [this, List.map_map, List.map_map]; rfl
 ·lia
 have G₆ : Grd pw s₆.heap := (GBs.kp F₆.keep).grd
 replace F₆ : Fm env (own env ++ X) [aH] s.heap s₆.heap [some (pvD d), some (.int side), some (pvN (pre ++ T ++ post)), some (.obj (.ref aH)), some (pvN T), some (pvN md), some (.int (pre.length : Nat)), some (.str (txt sg)), none, none, none, none, none, none, none] := F₆
 have D₆ : HD w s₆.heap aH N f := D₅.kp m₆.kp hHo
 refine x_if (Tst.ints i_eq (Ev.name F₆.toRd 1 (nm hn rfl) rfl) Ev.int) fun s₇ g₇ => ?_
 have F₇ := F₆.hk g₇.hk
 have G₇ := G₆.hk g₇.hk
 have D₇ := D₆.hk g₇.hk
 refine onw_to (fun s' => Mv (own env) s₇ s' /\ Fm env (own env ++ X) [aH] s.heap s'.heap [some (pvD d), some (.int side), some (pvN (pre ++ T ++ post)), some (.obj (.ref aH)), some (pvN T), some (pvN md), some (.int (pre.length : Nat)), some (.str (txt sg)), some (.str (txt W)), none, none, none, none, none, none]) ?_ ?_
 ·rcases hs01 with rfl | rfl
  ·rw [show (((0 : Nat) : Int) == 1) = false from rfl, if_neg (by decide)]
   refine x_if (Tst.ints i_eq (Ev.call (Ev.glob F₇.toRd 10 (nm hn rfl) G₇.g_len eg eb) (EvL.cons (Ev.name F₇.toRd 5 (nm hn rfl) rfl) EvL.nil) trivial (c_lenN (by lia))) Ev.int) fun s₈ g₈ => ?_
   have F₈ := F₇.hk g₈.hk
   have G₈ := G₇.hk g₈.hk
   match sg, W, hc with
   | _, _, .q o ho =>
    rw [show ((md.length : Int) == 3) = true by rw [hmd]; rfl, if_pos rfl]
    exact x_assign F₈ 8 (nm hn rfl) (.inl rfl) (p := .str (txt (qText o))) (Ev.call (Ev.glob F₈.toRd 12 (nm hn rfl) G₈.g_quote eg eb) (EvL.cons (Ev.name F₈.toRd 7 (nm hn rfl) rfl) EvL.nil) ⟨_, _, G₈.quote.1, rfl⟩ (c_quote G₈ (by show A.depth + 1 + 20 < _; lia) F₈.xb ho)) fun s' m F' => x_nil (x_nil ⟨rfl, (g₈.mv _).trans m, F'⟩)
   | _, _, .b os h1 h3 hos =>
    rw [show ((md.length : Int) == 3) = false by rw [hmd, eAll_len h1 h3]; rfl, if_neg (by decide)]
    refine x_assign F₈ 8 (nm hn rfl) (.inl rfl) (p := .str (txt (eAll os))) (Ev.call (Ev.glob F₈.toRd 13 (nm hn rfl) G₈.g_law_encoded eg eb) (EvL.cons (p := pvN os) (Ev.cast (Ev.comp F₈.toRd hA (its := os.map fun c => PV.str ⟨#[c]⟩) 1 [] (fun q => match q with | .str x => .int ((x.cps.toList.headD 0 : Nat) : Int) | _ => .none) (fun _ => true) (CompOk.of (has := [true, true, true, true, true, true, true, true, false, false, false, false, false, false, false]) (by rw [hn]; decide +kernel) rfl) rfl (Ev.name F₈.toRd 7 (nm hn rfl) rfl) (Items.str _) ?_ ?_ ?_ ?_ ?_) ?_) EvL.nil) ⟨_, _, G₈.encoded.1, rfl⟩ (c_encoded G₈ (by show A.depth + 1 + 50 < _; lia) hA F₈.xb os h1 h3 hos)) fun s' m F' => x_nil (x_nil ⟨rfl, (g₈.mv _).trans m, F'⟩)
    ·intro q hq; obtain ⟨i, _, rfl⟩ := List.mem_map.mp hq; exact trivial
    ·rw [List.length_map]; unfold sizeLine; lia
    ·intro q hq _; obtain ⟨i, _, rfl⟩ := List.mem_map.mp hq; exact trivial
    ·intros; exact TstAll.nil
    ·intro q hq _ en h' hcn eg' eb' kk rd
     obtain ⟨c, hc', rfl⟩ := List.mem_map.mp hq
     exact Ev.call (Ev.glob rd 2 (nm hcn rfl) (G₈.hk kk).g_ord (eg'.trans eg) (eb'.trans eb)) (EvL.cons (Ev.name rd 1 (nm hcn rfl) rfl) EvL.nil) trivial c_ord
    ·rw [filter_true, List.map_map]; rfl
  ·rw [show (((1 : Nat) : Int) == 1) = true from rfl, if_pos rfl]
   match sg, W, hc with
   | _, _, .rq o ho =>
    exact x_assign F₇ 8 (nm hn rfl) (.inl rfl) (p := .str (txt [o])) (Ev.call (Ev.glob F₇.toRd 11 (nm hn rfl) G₇.g_law_read eg eb) (EvL.cons (Ev.name F₇.toRd 7 (nm hn rfl) rfl) EvL.nil) ⟨_, _, G₇.read.1, rfl⟩ (c_read_q G₇ (by show A.depth + 1 + 120 < _; lia) F₇.xb ho)) fun s' m F' => x_nil ⟨rfl, m, F'⟩
   | _, _, .rb os h1 h3 hos =>
    exact x_assign F₇ 8 (nm hn rfl) (.inl rfl) (p := .str (txt os)) (Ev.call (Ev.glob F₇.toRd 11 (nm hn rfl) G₇.g_law_read eg eb) (EvL.cons (Ev.name F₇.toRd 7 (nm hn rfl) rfl) EvL.nil) ⟨_, _, G₇.read.1, rfl⟩ (c_read_b G₇ (by show A.depth + 1 + 120 < _; lia) hA F₇.xb h1 h3 hos)) fun s' m F' => x_nil ⟨rfl, m, F'⟩
 rintro s₈ ⟨m₈, F₈⟩
 have G₈ : Grd pw s₈.heap := (GBs.kp F₈.keep).grd
 have D₈ : HD w s₈.heap aH N f := D₇.kp m₈.kp hHo
 have evlenM : ∀ {h' : Heap} {vals : List (Option PV)} (G' : Grd pw h') (rd : Rd env (own env ++ X) h' vals) (_ : vals[5]? = some (some (pvN md))) (p1 p2 p3 : Pos), Ev pw w (A.deeper env) env (own env ++ X) h' (.Call (.Name "len" p1) [.Name "made" p2] [] p3) (.int md.length) := fun G' rd e5 p1 p2 p3 =>
  Ev.call (Ev.glob rd 10 (nm hn rfl) G'.g_len eg eb) (EvL.cons (Ev.name rd 5 (nm hn rfl) e5) EvL.nil) trivial (c_lenN (by lia))
 refine x_if (b := false) (Tst.hcast (Tst.ints i_ne (Ev.call (Ev.glob F₈.toRd 10 (nm hn rfl) G₈.g_len eg eb) (EvL.cons (Ev.name F₈.toRd 8 (nm hn rfl) rfl) EvL.nil) trivial (c_lenT (xs := W) (by lia))) (evlenM G₈ F₈.toRd rfl _ _ _)) (by rw [hmd]; simp)) fun s₉ g₉ => ?_
 rw [if_neg (by decide)]
 refine x_nil ?_
 have F₉ := F₈.hk g₉.hk
 have G₉ := G₈.hk g₉.hk
 have D₉ := D₈.hk g₉.hk
 refine x_forR hA F₉ 9 (nm hn rfl) (.inl rfl) [aH] (by simp; exact .inr haX) (by simpa using D₉.ex) (fun I i h => HD w h aH (N + i) (updF f md W i))
  (Ev.call (Ev.glob F₉.toRd 14 (nm hn rfl) G₉.g_range eg eb) (EvL.cons (evlenM G₉ F₉.toRd rfl _ _ _) EvL.nil) trivial (c_range1 F₉.xb)) (Items.rngN (by lia))
  (fun i => [some (pvD d), some (.int side), some (pvN (pre ++ T ++ post)), some (.obj (.ref aH)), some (pvN T), some (pvN md), some (.int (pre.length : Nat)), some (.str (txt sg)), some (.str (txt W)), (if i = 0 then none else some (.int ((i - 1 : Nat) : Int))), none, none, none, none, none]) rfl ?_ ?_ ?_ ?_
 ·intro I h' k' hI; exact D₉.hk k'
 ·intro I i h1 h2 hI kp l
  obtain ⟨o9, ho9⟩ := D₉.ex
  exact l.kp kp (by simp; exact ⟨(fun e => by rw [e, hI] at ho9; cases ho9), hHo⟩)
 ·intro I i q s10 E' hI hq' F10 D10
  rw [List.getElem?_map] at hq'
  have hi : i < md.length := by
   cases hr : (List.range md.length)[i]? with
   | none => rw [hr] at hq'; cases hq'
   | some j => have := List.getElem?_eq_some_iff.mp hr; simpa using this.1
  obtain rfl : PV.int i = q := by rw [List.getElem?_range hi] at hq'; simpa using hq'
  replace F10 : Fm env (I :: (own env ++ X)) [aH] s.heap s10.heap [some (pvD d), some (.int side), some (pvN (pre ++ T ++ post)), some (.obj (.ref aH)), some (pvN T), some (pvN md), some (.int (pre.length : Nat)), some (.str (txt sg)), some (.str (txt W)), some (.int i), none, none, none, none, none] := F10
  have hm : md[i]? = some (md.getD i 0) := by rw [List.getD_eq_getElem?_getD, List.getElem?_eq_getElem hi]; rfl
  have hw' : W[i]? = some (W.getD i 0) := by rw [List.getD_eq_getElem?_getD, List.getElem?_eq_getElem (by lia)]; rfl
  refine x_setD F10 D10 (List.mem_cons_of_mem _ haXX) hHo (.inl (by simp)) (by lia) (c := md.getD i 0) (sg := W.getD i 0) (Ev.name F10.toRd 3 (nm hn rfl) rfl) (Ev.item (Ev.name F10.toRd 5 (nm hn rfl) rfl) (Ev.name F10.toRd 9 (nm hn rfl) rfl) (by lia) (by lia) (by rw [Int.toNat_natCast]; exact pvN_get hm)) (Ev.sign (Ev.name F10.toRd 8 (nm hn rfl) rfl) (Ev.name F10.toRd 9 (nm hn rfl) rfl) (by lia) (by lia) (by rw [Int.toNat_natCast]; simpa using hw')) fun s11 m11 F11 D11 => x_nil ⟨m11.mono (by simp), F11, D11⟩
 ·intro I s10 hI m10 F10 D10
  rw [List.length_map, List.length_range] at F10 D10
  replace F10 : Fm env (own env ++ X) [aH] s.heap s10.heap [some (pvD d), some (.int side), some (pvN (pre ++ T ++ post)), some (.obj (.ref aH)), some (pvN T), some (pvN md), some (.int (pre.length : Nat)), some (.str (txt sg)), some (.str (txt W)), none, none, none, none, none, none] := F10.forget 9
  have G10 : Grd pw s10.heap := (GBs.kp F10.keep).grd
  refine x_return (p := pvN (pre ++ md ++ post)) (Ev.cast (Ev.catL F10.xb (Ev.catL F10.xb (Ev.sliceL F10.xb (Ev.name F10.toRd 2 (nm hn rfl) rfl) EvP.none (EvP.some (Ev.name F10.toRd 6 (nm hn rfl) rfl)) (by rw [List.length_map]; unfold sizeLine; lia) slice_upto) (Ev.name F10.toRd 5 (nm hn rfl) rfl) ?_) (Ev.sliceL F10.xb (Ev.name F10.toRd 2 (nm hn rfl) rfl) (EvP.some (evhi G10 F10.toRd rfl rfl _ _ _ _ _)) EvP.none (by rw [List.length_map]; unfold sizeLine; lia) slice_from) ?_) ?_) ?_
  ·rw [<- List.map_take, List.length_map, List.length_map, List.length_take]; unfold sizeLine; lia
  ·rw [<- List.map_take, <- List.map_drop, List.length_append, List.length_map, List.length_map, List.length_map, List.length_take, List.length_drop]; unfold sizeLine; lia
  ·show PV.list _ = PV.list _
   rw [<- List.map_take, <- List.map_drop, <- List.map_append, <- List.map_append]
   have e1 : (pre ++ T ++ post).take pre.length = pre := by rw [List.append_assoc, List.take_left]
   have e2 : (pre ++ T ++ post).drop (pre.length + T.length) = post := by
    rw [<- List.length_append, List.drop_left]
   rw [e1, e2]
  ·intro v s' g' rv
   refine hq v s' ⟨ex_tr g.ex (ex_tr m₂.ex (ex_tr m₃.ex (ex_tr m₄.ex (ex_tr g₅.ex (ex_tr m₆.ex (ex_tr g₇.ex (ex_tr m₈.ex (ex_tr g₉.ex (ex_tr m10.ex g'.ex))))))))), F10.keep.trans (g'.hk.kp _)⟩ (rv.less fun a ha => List.mem_append_right _ ha) (D10.hk g'.hk)
end
section
open PySem.W
theorem nd_ninit : ((fd_ni_init pw).scope.names.map (·.1)).Nodup := by decide +kernel
theorem kd_ninit : ∀ x ∈ (fd_ni_init pw).scope.names.take 2, x.2 = .local \/ x.2 = .cell := by decide +kernel
section
variable {w : World} {A : Around} {E : Value -> Shared -> Prop} {s : Shared} {X M : List Addr} {env : Env} {h₀ h h' : Heap} {vals : List (Option PV)} {R : Result -> Shared -> Prop}
theorem ev_nilList {pl : Pos} {Q : Value -> Shared -> Prop} (h : Q (.ref s.heap.objs.size) { s with heap := s.heap.push (listObj #[] 0) }) : wpAny (model pw w) A (eval (.List [] pl) env) Q E s :=
 List_ (spliced_nil (wpAny_newList h))
theorem tc_weight {C : Addr} {rest : List Value} : (Code.builtin "type.__call__" ⟨.ref C :: rest, []⟩).weight = 1 := by kernel_rfl
theorem tc_depth {C : Addr} {rest : List Value} : (A.under (.builtin "type.__call__" ⟨.ref C :: rest, []⟩)).depth = A.depth + 1 := by
 show A.depth + (Code.builtin "type.__call__" ⟨.ref C :: rest, []⟩).weight = _
 rw [tc_weight]
theorem w_ninit {P : Params} {x z : Addr} {k : Nat} {t : Tok} (K : (Kts P pw).In s.heap) (GBs : GB [x] s.heap) (hd : A.depth + 10 < recursionLimit) (hx : s.heap.get? x = some (instObj 141 z)) (hz : s.heap.get? z = some emptyDict) (hxz : z ≠ x)
  (hq : ∀ s' y, Mv [x] s s' -> (∃ t t', s'.heap.get? x = some (nObj z k t 0 t' y)) -> s.heap.get? y = none -> IL s'.heap y [] -> R (.ok (.ret .none)) s') :
  codeAny (model pw w) A (.call (.ref 137) ⟨[.ref x, .int k t], []⟩) R s := by
 have G := GBs.grd
 have xb : XB s.heap [x] := fun a ha => by rw [List.mem_singleton.mp ha]; exact ⟨_, hx⟩
 refine enter (fd := fd_ni_init pw) (body := bodyOf (inS (topS pw 31) 1)) (binds := [("self", .ref x), ("node", .int k t)]) (ps := [.obj (.ref x), .int k]) (X := [x]) (by lia) G.ni_init.1 G.lim G.ni_init.2 rfl rfl rfl rfl kd_ninit nd_ninit xb (RepL.cons (by unfold Rep; rfl) (RepL.cons ⟨t, rfl⟩ RepL.nil)) ?_
 intro s₁ env henv g F
 have hn : env.scope.names = (fd_ni_init pw).scope.names := by rw [henv]; rfl
 have F : Fm env (own env ++ [x]) [x] s.heap s₁.heap [some (.obj (.ref x)), some (.int k)] := { F with keep := F.keep.mono (by simp) }
 have hxo : x ∉ own env := fun q => by have := F.fresh x q; rw [hx] at this; cases this
 have hxX : x ∈ own env ++ [x] := by simp
 have hz₁ := g.hk _ _ hz
 have hx₁ := g.hk _ _ hx
 have K₁ : (Kts P pw).In s₁.heap := K.keeps g.hk
 have base : ∀ {hh : Heap}, Kp [x] s.heap hh -> (Kts P pw).In hh := fun q => ((GBs.kp q).grd.frag).elim fun P' y => by
  intro b o e
  have e1 := K b o e
  by_cases hb : b = x
  ·subst hb
   rw [hx] at e1
   have : o = instObj 141 z := (Option.some.inj e1).symm
   subst this
   exfalso
   unfold Kts at e
   simp only [List.lookup] at e
   repeat (first | (split at e; · (cases e)) | cases e)
  ·exact q b o (by simpa using hb) e1
 refine x_setA (Ev.name F.toRd 1 (nm hn rfl) rfl) (Ev.name F.toRd 0 (nm hn rfl) rfl) fun v s₂ g₂ r₂ => ?_
 obtain ⟨t1, rfl⟩ := r₂
 have k2 := g₂.hk
 refine set_slot (ox := instObj 141 z) (ox' := { instObj 141 z with slots := #[some (.int k t1)] }) (od := some emptyDict) (K₁.keeps k2) ⟨k2 _ _ hx₁, rfl, rfl, k2 _ _ hz₁⟩ f_t0 f_md0 f_s0 (by decide) rfl rfl fun h3 sb3 ho3 => ?_
 have kx3 : Kp [x] s.heap h3 := ((g.trans g₂).hk.kp [x]).trans (Kp.of_same sb3)
 have F₃ : Fm env (own env ++ [x]) [x] s.heap h3 [some (.obj (.ref x)), some (.int k)] := (F.hk k2).turn sb3 hxX hxo (.inl (by simp)) ⟨_, ho3⟩
 have hz3 : h3.get? z = some emptyDict := kx3 _ _ (by simpa using hxz) hz
 refine x_setA (s := { s₂ with heap := h3, toks := s₂.toks + 1 }) (X := own env ++ [x]) (p := .int 0) (Ev.int) (Ev.name F₃.toRd 0 (nm hn rfl) rfl) fun v s₄ g₄ r₄ => ?_
 obtain ⟨t2, rfl⟩ := r₄
 have k4 : HK h3 s₄.heap := g₄.hk
 refine set_slot (ox := { instObj 141 z with slots := #[some (.int k t1)] }) (ox' := { instObj 141 z with slots := #[some (.int k t1), some (.int 0 t2)] }) (od := some emptyDict) ((base kx3).keeps k4) ⟨k4 _ _ ho3, rfl, rfl, k4 _ _ hz3⟩ f_t1 f_md1 f_s1 (by decide) rfl rfl fun h5 sb5 ho5 => ?_
 have kx5 : Kp [x] s.heap h5 := (kx3.trans (k4.kp [x])).trans (Kp.of_same sb5)
 have F₅ : Fm env (own env ++ [x]) [x] s.heap h5 [some (.obj (.ref x)), some (.int k)] := (F₃.hk k4).turn sb5 hxX hxo (.inl (by simp)) ⟨_, ho5⟩
 have hz5 : h5.get? z = some emptyDict := kx5 _ _ (by simpa using hxz) hz
 generalize hs5 : ({ s₄ with heap := h5, toks := s₄.toks + 1 } : Shared) = s₅
 have e5 : s₅.heap = h5 := by rw [<- hs5]
 rw [<- e5] at F₅ ho5 hz5 kx5
 refine wpAny_execs_cons (plainObj_wpAny_Assign_Attribute (ev_nilList ?_))
 have kp6 : HK s₅.heap (s₅.heap.push (listObj #[] 0)) := (Gw.push s₅ (listObj #[] 0)).hk
 have hyf : s₅.heap.get? s₅.heap.objs.size = none := fresh_size _
 have hy0 : s.heap.get? s₅.heap.objs.size = none := by
  cases q : s.heap.get? s₅.heap.objs.size with
  | none => rfl
  | some o =>
   by_cases hb : s₅.heap.objs.size = x
   ·rw [hb, ho5] at hyf; cases hyf
   ·have := kx5 _ o (by simpa using hb) q; rw [hyf] at this; cases this
 have F₆ : Fm env (own env ++ [x]) [x] s.heap (s₅.heap.push (listObj #[] 0)) [some (.obj (.ref x)), some (.int k)] := F₅.hk kp6
 refine (Ev.name F₆.toRd 0 (nm hn rfl) rfl) { s₅ with heap := s₅.heap.push (listObj #[] 0) } _ _ (HK.refl _) fun ov s₇ g₇ r₇ => ?_
 obtain rfl : ov = .ref x := r₇
 have k7 : HK s₅.heap s₇.heap := kp6.trans g₇.hk
 have hyl : s₇.heap.get? s₅.heap.objs.size = some (listObj #[] 0) := g₇.hk _ _ (Heap.get?_push_size _ rfl)
 refine set_slot (ox := { instObj 141 z with slots := #[some (.int k t1), some (.int 0 t2)] }) (ox' := nObj z k t1 0 t2 s₅.heap.objs.size) (od := some emptyDict) ((base kx5).keeps k7) ⟨k7 _ _ ho5, rfl, rfl, k7 _ _ hz5⟩ f_t2 f_md2 f_s2 (by decide) rfl rfl fun h8 sb8 ho8 => ?_
 have kx8 : Kp [x] s.heap h8 := (kx5.trans (k7.kp [x])).trans (Kp.of_same sb8)
 refine x_nil ?_
 have hyx : s₅.heap.objs.size ≠ x := fun e => by rw [e, ho5] at hyf; cases hyf
 refine hq _ s₅.heap.objs.size ⟨?_, kx8⟩ ⟨t1, t2, ho8⟩ hy0 ⟨#[], 0, Kp.of_same sb8 _ _ (by simpa using hyx) hyl, .nil⟩
 obtain ⟨⟨a1, b1, c1⟩, _⟩ := g
 obtain ⟨⟨a2, b2, c2⟩, _⟩ := g₂
 obtain ⟨⟨a4, b4, c4⟩, _⟩ := g₄
 obtain ⟨⟨a7, b7, c7⟩, _⟩ := g₇
 subst c1 c2 c4 hs5 c7
 exact ⟨h8, _, rfl⟩
end
theorem nd_gni : ((fd_get_nodeinfo pw).scope.names.map (·.1)).Nodup := by decide +kernel
theorem kd_gni : ∀ x ∈ (fd_get_nodeinfo pw).scope.names.take 2, x.2 = .local \/ x.2 = .cell := by decide +kernel
theorem f_keep : keepIn (Kts P pw) (.ref 141) = true /\ keepIn (Kts P pw) (.ref 238) = true := ⟨by kernel_rfl, by kernel_rfl⟩
structure Ext (h : Heap) (G G' : SG) : Prop where
 a : G'.a = G.a
 rdy : G'.rdy = G.rdy
 sub : ∀ b ∈ G.fp, b ∈ G'.fp
 new : ∀ b ∈ G'.fp, b ∈ G.fp \/ h.get? b = none
 ord : ∀ j ∈ G.order, j ∈ G'.order
 same : ∀ j ∈ G.order, G'.x j = G.x j
theorem Ext.refl (h : Heap) (G : SG) : Ext h G G := ⟨rfl, rfl, fun _ q => q, fun _ q => .inl q, fun _ q => q, fun _ _ => rfl⟩
theorem Ext.trans {h h' : Heap} {G G' G'' : SG} (x : Ext h G G') (y : Ext h' G' G'') (k : Kp G.fp h h') : Ext h G G'' where
 a := y.a.trans x.a
 rdy := y.rdy.trans x.rdy
 sub := fun b hb => y.sub b (x.sub b hb)
 new := fun b hb => by
  rcases y.new b hb with q | q
  ·exact x.new b q
  ·by_cases hf : b ∈ G.fp
   ·exact .inl hf
   ·right
    cases e : h.get? b with
    | none => rfl
    | some o => rw [k b o hf e] at q; cases q
 ord := fun j hj => y.ord j (x.ord j hj)
 same := fun j hj => (y.same j (x.ord j hj)).trans (x.same j hj)
theorem Ext.hk {h h' : Heap} {G G' : SG} (x : Ext h' G G') (k : HK h h') : Ext h G G' := { x with
 new := fun b hb => (x.new b hb).elim .inl fun q => by
  right
  cases e : h.get? b with
  | none => rfl
  | some o => rw [k b o e] at q; cases q }
theorem GB.ext {h h' : Heap} {G G' : SG} (x : GB G.fp h) (e : Ext h G G') (k : Kp G.fp h h') : GB G'.fp h' := (x.less e.new).kp (k.mono e.sub)
section
variable {w : World} {A : Around} {s : Shared} {G : SG} {V : SV}
theorem heap_lt {h : Heap} {a : Addr} (e : h.objs.size <= a) : h.get? a = none := by
 cases q : h.get? a with
 | none => rfl
 | some o => exact absurd (Heap.lt_size q) (Nat.not_lt.mpr e)
theorem w_newnode {M : List Addr} (GBs : GB M s.heap) (hd : A.depth + 20 < recursionLimit) {k : Nat} {t : Tok} {Q : Value -> Shared -> Prop} {E : Value -> Shared -> Prop}
  (hq : ∀ s' x y z, Gw s s' -> s.heap.get? x = none -> s.heap.get? y = none -> s.heap.get? z = none -> x ≠ y -> x ≠ z -> y ≠ z -> (∃ t t', s'.heap.get? x = some (nObj z k t 0 t' y)) -> s'.heap.get? z = some emptyDict -> IL s'.heap y [] -> Q (.ref x) s') :
  wpAny (model pw w) A (PySem.call (.ref 141) [.int k t] []) Q E s := by
 obtain ⟨P, K⟩ := GBs.grd.frag
 obtain ⟨h, g, d, tk, os⟩ := s
 dsimp only at GBs K hq
 refine wpAny_call (make_core (makes_of K f_mk.2) (looks_findIn K f_ni) (fun self => bind_fn K self f_ft.2.2.2.2.2.2.2.2) (.inl (by rfl)) ?_)
 have k2 : HK h ((h.push emptyDict).push (instObj 141 h.objs.size)) := fun b o e => Heap.get?_push_of_some _ (Heap.get?_push_of_some _ e)
 have hz : ((h.push emptyDict).push (instObj 141 h.objs.size)).get? h.objs.size = some emptyDict := Heap.get?_push_of_some _ (Heap.get?_push_size _ rfl)
 have hx : ((h.push emptyDict).push (instObj 141 h.objs.size)).get? (h.objs.size + 1) = some (instObj 141 h.objs.size) := by heap_get
 have hxf : h.get? (h.objs.size + 1) = none := heap_lt (Nat.le_succ _)
 have hzf : h.get? h.objs.size = none := heap_lt (Nat.le_refl _)
 have GB2 : GB [h.objs.size + 1] ((h.push emptyDict).push (instObj 141 h.objs.size)) := (GBs.less fun a ha => .inr (by rw [List.mem_singleton.mp ha]; exact hxf)).hk k2
 refine w_ninit (A := A.under _) (K.keeps k2) GB2 (by rw [tc_depth]; lia) hx hz (Nat.ne_of_lt (Nat.lt_succ_self _)) fun s' y m hxo hyf il => ?_
 have gw : Gw (⟨h, g, d, tk, os⟩ : Shared) s' := by
  obtain ⟨⟨h', t', rfl⟩, kp⟩ := m
  exact ⟨⟨h', t', rfl⟩, fun b o e => kp b o (by simp; rintro rfl; rw [hxf] at e; cases e) (k2 b o e)⟩
 have hyf0 : h.get? y = none := by
  cases q : h.get? y with
  | none => rfl
  | some o => have := k2 _ _ q; dsimp only at hyf; rw [hyf] at this; cases this
 have hyx : h.objs.size + 1 ≠ y := by rintro rfl; dsimp only at hyf; rw [hx] at hyf; cases hyf
 have hyz : y ≠ h.objs.size := by rintro rfl; dsimp only at hyf; rw [hz] at hyf; cases hyf
 have hz' : s'.heap.get? h.objs.size = some emptyDict := m.kp _ _ (by simp) hz
 exact ⟨rfl, hq s' _ y _ gw hxf hyf0 hzf hyx (Nat.ne_of_gt (Nat.lt_succ_self _)) hyz hxo hz' il⟩
set_option maxHeartbeats 1000000 in
theorem w_get_nodeinfo (T : TS w s.heap G V) (GBs : GB G.fp s.heap) (hd : A.depth + 30 < recursionLimit) (hh : A.handled = none) (hl : G.order.length < 200) {k : Nat} {t : Tok} {Q : Value -> Shared -> Prop} {E : Value -> Shared -> Prop}
  (hq : ∀ s' G', Mv G.fp s s' -> TS w s'.heap G' V -> Ext s.heap G G' -> k ∈ G'.order -> (k ∈ G.order /\ G'.order = G.order \/ k ∉ G.order /\ G'.order = G.order ++ [k]) -> Q (.ref (G'.x k)) s') :
  wpAny (model pw w) A (PySem.call (.ref 181) [.ref G.a, .int k t] []) Q E s := by
 have Gr := GBs.grd
 refine wpAny_call (enter (fd := fd_get_nodeinfo pw) (body := bodyOf (inS (topS pw 33) 1)) (binds := [("self", .ref G.a), ("node", .int k t)]) (ps := [.obj (.ref G.a), .int k]) (X := G.fp) (by lia) Gr.get_nodeinfo.1 Gr.lim Gr.get_nodeinfo.2 rfl rfl rfl rfl kd_gni nd_gni T.ex (RepL.cons (by unfold Rep; rfl) (RepL.cons ⟨t, rfl⟩ RepL.nil)) ?_)
 intro s₁ env henv g F
 have hn : env.scope.names = (fd_get_nodeinfo pw).scope.names := by rw [henv]; rfl
 have eg : env.globals = mainGlobals := by rw [henv]; rfl
 have eb : env.builtins = builtinsNs := by rw [henv]; rfl
 have F : Fm env (own env ++ G.fp) G.fp s.heap s₁.heap [some (.obj (.ref G.a)), some (.int k), none, none] := { F with keep := F.keep.mono (by simp) }
 have hao : ∀ b ∈ G.fp, b ∉ own env := fun b hb q => by obtain ⟨o, e⟩ := T.ex b hb; have := F.fresh b q; rw [e] at this; cases this
 have T₁ := T.hk g.hk
 obtain ⟨P, K₁⟩ := (Gr.hk g.hk).frag
 refine x_ifW (wpAny_isTrue_Compare1 (wpAny_NamedExpr ((mapGet T₁ (Ev.sMap K₁ T₁ (Ev.name F.toRd 0 (nm hn rfl) rfl)) (Ev.name F.toRd 1 (nm hn rfl) rfl)) s₁ _ _ (HK.refl _) fun v s₂ g₂ r₂ => ?_)) (by rfl))
 have F₂ := F.hk g₂.hk
 refine a_name F₂ 2 (nm hn rfl) (.inl rfl) r₂ fun s₃ m₃ F₃ => ?_
 have T₃ : TS w s₃.heap G V := (T₁.hk g₂.hk).kp m₃.kp hao
 have m13 : Mv (own env) s₁ s₃ := (g₂.mv _).trans m₃
 have K3 : Kp G.fp s.heap s₃.heap := F₃.keep
 refine Ev.cnone (X := own env ++ G.fp) s₃ _ _ (HK.refl _) fun u s₄ g₄ r₄ => ?_
 unfold Rep at r₄; subst r₄
 by_cases hk : k ∈ G.order
 ·rw [if_pos hk] at r₂ F₃
  obtain rfl : v = .ref (G.x k) := r₂
  refine is_none_gen ?_
  rw [show (Value.ref (G.x k) == Value.none) = false from beq_eq_false_iff_ne.mpr (by intro z; cases z)]
  refine wpAny_truthy_bool ?_
  rw [if_neg (by decide)]
  refine x_nil ?_
  replace F₃ : Fm env (own env ++ G.fp) G.fp s.heap s₃.heap [some (.obj (.ref G.a)), some (.int k), some (.obj (.ref (G.x k))), none] := F₃
  have F₄ := F₃.hk g₄.hk
  refine x_return (Ev.name F₄.toRd 2 (nm hn rfl) rfl) fun v s' g' rv => ?_
  obtain rfl : v = .ref (G.x k) := rv
  refine hq s' G ⟨ex_tr g.ex (ex_tr m13.ex (ex_tr g₄.ex g'.ex)), F₄.keep.trans (g'.hk.kp _)⟩ ((T₃.hk g₄.hk).hk g'.hk) (Ext.refl _ _) hk (.inl ⟨hk, rfl⟩)
 ·rw [if_neg hk] at r₂ F₃
  obtain rfl : v = .none := r₂
  refine is_none_gen ?_
  refine wpAny_truthy_bool ?_
  rw [if_pos (by rfl)]
  replace F₃ : Fm env (own env ++ G.fp) G.fp s.heap s₃.heap [some (.obj (.ref G.a)), some (.int k), some (.obj .none), none] := F₃
  have F₄ := F₃.hk g₄.hk
  have T₄ := T₃.hk g₄.hk
  have GB₄ := GBs.kp F₄.keep
  have Gr₄ := GB₄.grd
  obtain ⟨P, K₄⟩ := Gr₄.frag
  refine wpAny_execs_cons (wpAny_Assign_two ?_)
  show wpAny _ _ (eval (.Name _ _) env >>= fun f => callWith _ f [] (backTo _ (starEach _ env)) []) _ _ _
  refine wpAny_bind ((Ev.glob F₄.toRd 3 (nm hn rfl) Gr₄.g_NodeInfo eg eb) s₄ _ _ (HK.refl _) fun fv s₅ g₅ r₅ => ?_)
  obtain rfl : fv = .ref 141 := r₅
  have F₅ := F₄.hk g₅.hk
  refine callWith_K K₄ f_keep.1 ((EvL.cons (Ev.name F₅.toRd 1 (nm hn rfl) rfl) EvL.nil) _ s₅ _ _ (HK.refl _) fun vs s₆ g₆ r₆ => ?_)
  obtain ⟨v1, rfl, t6, rfl⟩ := r₆.one
  have k6 : HK s₄.heap s₆.heap := g₅.hk.trans g₆.hk
  refine ⟨K₄.keeps k6, ?_⟩
  refine w_newnode (GB₄.hk k6) (by show A.depth + 1 + 20 < _; lia) fun s₇ x y z g₇ hx hy hz hxy hxz hyz ox oz il => ?_
  have k7 : HK s₆.heap s₇.heap := g₇.hk
  have k47 : HK s₄.heap s₇.heap := k6.trans k7
  have F₇ : Fm env (own env ++ G.fp) G.fp s.heap s₇.heap [some (.obj (.ref G.a)), some (.int k), some (.obj .none), none] := F₄.hk k47
  have T₇ := T₄.hk k47
  have Gr₇ := Gr₄.hk k47
  obtain ⟨P, K₇⟩ := Gr₇.frag
  have nfp : ∀ b, s₆.heap.get? b = none -> b ∉ G.fp := fun b e q => by obtain ⟨o, e'⟩ := (T₄.hk k6).ex b q; rw [e] at e'; cases e'
  have nown : ∀ b, s₆.heap.get? b = none -> b ∉ own env := fun b e q => by
   obtain ⟨o, e'⟩ := (F₄.hk k6).xb b (List.mem_append_left _ q); rw [e] at e'; cases e'
  rw [assign_Subscript]
  refine wpAny_bind (wpAny_holding ((Ev.sMap K₇ T₇ (Ev.name F₇.toRd 0 (nm hn rfl) rfl)) s₇ _ _ (HK.refl _) fun ov s₈ g₈ r₈ => ?_))
  obtain rfl : ov = .ref G.D := r₈
  have F₈ := F₇.hk g₈.hk
  refine wpAny_bind (wpAny_holding ((Ev.name F₈.toRd 1 (nm hn rfl) rfl) s₈ _ _ (HK.refl _) fun iv s₉ g₉ r₉ => ?_))
  obtain ⟨t9, rfl⟩ := r₉
  have k79 : HK s₇.heap s₉.heap := g₈.hk.trans g₉.hk
  have T₉ := T₇.hk k79
  have F₉ := F₇.hk k79
  have hDfp : G.D ∈ G.fp := mem_fp.mpr (.inr (.inr (.inl rfl)))
  refine wpAny_bind (wpAny_standAt (wpAny_bind (wpAny_holding (wpAny_setItem_pairs (k := (k : Int)) (isInt_int _ _) T₉.map (fun hA dA sb => ?_) (by rw [List.length_map]; unfold sizeLine; lia)))))
  refine wpAny_release ?_
  have hst : stored (G.order.map fun (j : Nat) => ((j : Int), Value.ref (G.x j))) (k : Int) (.ref x) = G.order.map (fun (j : Nat) => ((j : Int), Value.ref (G.x j))) ++ [((k : Int), .ref x)] := by
   unfold stored
   rw [if_neg]
   intro q
   obtain ⟨kv, hkv, e⟩ := List.any_eq_true.mp q
   obtain ⟨j, hj, rfl⟩ := List.mem_map.mp hkv
   have : (j : Int) = (k : Int) := of_decide_eq_true e
   exact hk ((show j = k by lia) ▸ hj)
  rw [hst] at dA
  obtain ⟨tx, ty, ox⟩ := ox
  have TA := T₉.addN hk (nfp x hx) (nfp y hy) (nfp z hz) hxy hxz hyz (Kp.of_same sb) dA ⟨tx, ty, k79 _ _ ox⟩ (k79 _ _ oz) (il.at_ fun o => k79 _ o) hl
  generalize hG' : ({ G with order := G.order ++ [k], x := fun j => if j = k then x else G.x j, y := fun j => if j = k then y else G.y j, z := fun j => if j = k then z else G.z j, tag := fun b => if b = x then (4, k) else if b = y then (5, k) else if b = z then (6, k) else G.tag b } : SG) = G' at TA
  have ea : G'.a = G.a := by rw [<- hG']
  have ed : G'.d = G.d := by rw [<- hG']
  have eD : G'.D = G.D := by rw [<- hG']
  have er : G'.r = G.r := by rw [<- hG']
  have erd : G'.rdy = G.rdy := by rw [<- hG']
  have eo : G'.order = G.order ++ [k] := by rw [<- hG']
  have exk : G'.x k = x := by rw [<- hG']; simp
  have exj : ∀ j ∈ G.order, G'.x j = G.x j /\ G'.y j = G.y j /\ G'.z j = G.z j := fun j hj => by
   have : j ≠ k := fun e => hk (e ▸ hj)
   rw [<- hG']; simp [this]
  have eyk : G'.y k = y := by rw [<- hG']; simp
  have ezk : G'.z k = z := by rw [<- hG']; simp
  have hsub : ∀ b ∈ G.fp, b ∈ G'.fp := fun b hb => by
   rcases mem_fp.mp hb with rfl | rfl | rfl | ⟨hr, rfl⟩ | ⟨j, hj, e⟩
   ·exact mem_fp.mpr (.inl ea.symm)
   ·exact mem_fp.mpr (.inr (.inl ed.symm))
   ·exact mem_fp.mpr (.inr (.inr (.inl eD.symm)))
   ·exact mem_fp.mpr (.inr (.inr (.inr (.inl ⟨by rw [erd]; exact hr, er.symm⟩))))
   ·obtain ⟨a1, a2, a3⟩ := exj j hj
    refine mem_fp.mpr (.inr (.inr (.inr (.inr ⟨j, by rw [eo]; exact List.mem_append_left _ hj, ?_⟩))))
    rw [a1, a2, a3]; exact e
  have hnew : ∀ b ∈ G'.fp, b ∈ G.fp \/ s₆.heap.get? b = none := fun b hb => by
   rcases mem_fp.mp hb with rfl | rfl | rfl | ⟨hr, rfl⟩ | ⟨j, hj, e⟩
   ·exact .inl (mem_fp.mpr (.inl ea))
   ·exact .inl (mem_fp.mpr (.inr (.inl ed)))
   ·exact .inl (mem_fp.mpr (.inr (.inr (.inl eD))))
   ·exact .inl (mem_fp.mpr (.inr (.inr (.inr (.inl ⟨by rw [<- erd]; exact hr, er⟩)))))
   ·rw [eo] at hj
    rcases List.mem_append.mp hj with hj | hj
    ·obtain ⟨a1, a2, a3⟩ := exj j hj
     rw [a1, a2, a3] at e
     exact .inl (mem_fp.mpr (.inr (.inr (.inr (.inr ⟨j, hj, e⟩)))))
    ·obtain rfl := List.mem_singleton.mp hj
     rw [exk, eyk, ezk] at e
     rcases e with rfl | rfl | rfl
     ·exact .inr hx
     ·exact .inr hy
     ·exact .inr hz
  have kA : Kp [G.D] s₉.heap hA := Kp.of_same sb
  have FA : Fm env (own env ++ G.fp) G.fp s.heap hA [some (.obj (.ref G.a)), some (.int k), some (.obj .none), none] := F₉.turn sb (List.mem_append_right _ hDfp) (hao _ hDfp) (.inl hDfp) (let ⟨o, _, _, e, _⟩ := dA; ⟨o, e⟩)
  generalize hsA : ({ s₉ with heap := hA, toks := s₉.toks + 1 } : Shared) = sA
  have eA : sA.heap = hA := by rw [<- hsA]
  rw [<- eA] at FA TA kA
  refine a_name FA 2 (nm hn rfl) (.inl rfl) (p := .obj (.ref x)) (by unfold Rep; rfl) fun sB mB FB => ?_
  refine x_nil ?_
  replace FB : Fm env (own env ++ G.fp) G.fp s.heap sB.heap [some (.obj (.ref G.a)), some (.int k), some (.obj (.ref x)), none] := FB
  have hao' : ∀ b ∈ G'.fp, b ∉ own env := fun b hb => (hnew b hb).elim (hao b) (nown b)
  have TB := TA.kp mB.kp hao'
  refine x_return (Ev.name FB.toRd 2 (nm hn rfl) rfl) fun v s' g' rv => ?_
  obtain rfl : v = .ref x := rv
  have k06 : HK s.heap s.heap := HK.refl _
  have h0 : ∀ b, b ∉ G.fp -> s₆.heap.get? b = none -> s.heap.get? b = none := fun b hb e => by
   cases q : s.heap.get? b with
   | none => rfl
   | some o => have := (F₄.hk k6).keep b o hb q; rw [e] at this; cases this
  have hEx : Ext s.heap G G' := ⟨ea, erd, hsub, fun b hb => by
   by_cases hf : b ∈ G.fp
   ·exact .inl hf
   ·exact .inr (h0 b hf ((hnew b hb).resolve_left hf)), fun j hj => by rw [eo]; exact List.mem_append_left _ hj, fun j hj => (exj j hj).1⟩
  have hfin := hq s' G' ⟨?_, FB.keep.trans (g'.hk.kp _)⟩ (TB.hk g'.hk) hEx (by rw [eo]; simp) (.inr ⟨hk, eo⟩)
  ·rw [exk] at hfin; exact hfin
  ·refine ex_tr g.ex (ex_tr m13.ex (ex_tr g₄.ex (ex_tr g₅.ex (ex_tr g₆.ex (ex_tr g₇.ex (ex_tr g₈.ex (ex_tr g₉.ex (ex_tr ?_ (ex_tr mB.ex g'.ex)))))))))
   exact ⟨hA, _, hsA.symm⟩
end
theorem nd_add : ((fd_add pw).scope.names.map (·.1)).Nodup := by decide +kernel
theorem kd_add : ∀ x ∈ (fd_add pw).scope.names.take 3, x.2 = .local \/ x.2 = .cell := by decide +kernel
noncomputable def addS (f : Nat -> List Nat) (k : Nat) (ps : List Nat) : Nat -> List Nat := ps.foldl (fun f p => updL f p (f p ++ [k])) f
theorem addS_snoc (f : Nat -> List Nat) (k : Nat) (ps : List Nat) (p : Nat) : addS f k (ps ++ [p]) = updL (addS f k ps) p (addS f k ps p ++ [k]) := by unfold addS; rw [List.foldl_append]; rfl
noncomputable def addV (V : SV) (k : Nat) (ps : List Nat) : SV := { V with np := updI V.np k (V.np k + ps.length), succ := addS V.succ k ps }
def EX (h h' : Heap) : Prop := ∀ b, (∃ o, h.get? b = some o) -> ∃ o, h'.get? b = some o
theorem EX.refl (h : Heap) : EX h h := fun _ x => x
theorem EX.trans {a b c : Heap} (x : EX a b) (y : EX b c) : EX a c := fun d z => y d (x d z)
theorem EX.of {M : List Addr} {h h' : Heap} (k : Kp M h h') (ex : ∀ b ∈ M, ∃ o, h'.get? b = some o) : EX h h' := fun b ⟨o, e⟩ => by
 by_cases hb : b ∈ M
 ·exact ex b hb
 ·exact ⟨o, k b o hb e⟩
theorem EX.hk {h h' : Heap} (k : HK h h') : EX h h' := fun b ⟨o, e⟩ => ⟨o, k b o e⟩
theorem EX.none {h h' : Heap} (x : EX h h') {b : Addr} (e : h'.get? b = none) : h.get? b = none := by
 cases q : h.get? b with
 | none => rfl
 | some o => obtain ⟨o', e'⟩ := x b ⟨o, q⟩; rw [e] at e'; cases e'
theorem bind_add {s : Shared} {v1 v2 : Value} {vs : List Value} {M : Model} {A : Around} {E : Value -> Shared -> Prop} {Q : List (Str × Value) -> Shared -> Prop} (hl : vs.length <= sizeLine)
  (h : Q [(("self" : Str), v1), (("node" : Str), v2), (("predecessors" : Str), .ref s.heap.objs.size)] { s with heap := s.heap.push { cls := .type "tuple", data := .seq vs.toArray } }) : wpAny M A (bindArgs (fd_add pw) ⟨v1 :: v2 :: vs, []⟩) Q E s := by
 have e : bindArgs (fd_add pw) ⟨v1 :: v2 :: vs, []⟩ = (newTuple vs >>= fun t => pure [(("self" : Str), v1), (("node" : Str), v2), (("predecessors" : Str), t)]) := by
  cases vs with
  | nil => kernel_rfl
  | cons v vs => kernel_rfl
 rw [e]
 exact wpAny_bind (wpAny_newTuple (wpAny_pure h) hl)
section
variable {w : World} {A : Around} {s : Shared} {G : SG} {V : SV}
theorem c_lenTu {prog : Program} {X : List Addr} {h : Heap} {xs : List PV} (hl : (xs.length : Int) < 2 ^ 63) : Calls prog w A X h (.builtin "len") [.tuple xs] (.int xs.length) := by
 intro s Q E vs k r hq
 obtain ⟨v, rfl, r1⟩ := r.one
 unfold Rep at r1
 obtain ⟨a, n, vs, rfl, ha, ho, rl⟩ := r1
 have hsz : vs.size = xs.length := by simpa using rl.length
 refine PyProof.Rows.len_tuple ⟨_, ho, rfl, n, rfl⟩ (by rw [hsz]; exact hl) (hq _ _ (Gw.toks s _) ?_)
 unfold Rep; exact ⟨_, by rw [hsz]⟩
theorem ilOfLs {X : List Addr} {h : Heap} {a : Addr} {xs : List Nat} (l : Ls X h a (xs.map fun (n : Nat) => PV.int n)) : IL h a xs := by
 obtain ⟨vs, n, e, r⟩ := l
 rw [pvN_zs] at r
 exact ⟨vs, n, e, ints_are r⟩
theorem lsOfIl {X : List Addr} {h : Heap} {a : Addr} {xs : List Nat} (l : IL h a xs) : Ls X h a (xs.map fun (n : Nat) => PV.int n) := by
 obtain ⟨vs, n, e, i⟩ := l
 refine ⟨vs, n, e, ?_⟩
 rw [pvN_zs]; exact rep_ints i
structure AddI (w : World) (s : Shared) (env : Env) (G G4 : SG) (V : SV) (k : Nat) (ps : List Nat) (I : Addr) (hb : Heap) (i : Nat) (sx : Shared) (Gi : SG) (Xi : List Addr) : Prop where
 Fi : Fm env Xi G.fp s.heap sx.heap [some (.obj (.ref G.a)), some (.int k), some (.tuple (ps.map fun (n : Nat) => PV.int n)), some (.obj (.ref (G4.x k))), none, none, none, none]
 Ti : TS w sx.heap Gi { V with np := updI V.np k (V.np k + ps.length), succ := addS V.succ k (ps.take i) }
 xi : Ext s.heap G Gi
 si : ∀ b ∈ Gi.fp, b ∈ Xi /\ b ∉ own env /\ (b ∈ G.fp \/ s.heap.get? b = none)
 ni : ∀ b ∈ Gi.fp, b ∈ G4.fp \/ hb.get? b = none
 hIX : I ∈ Xi
 hIo : I ∉ own env
 hIf : I ∉ Gi.fp
 exi : ∃ h' tk, sx = { s with heap := h', toks := tk }
 exx : EX hb sx.heap
 li : Gi.order.length <= G.order.length + 1 + i
 mi : ∀ j, j ∈ Gi.order ↔ j ∈ G.order \/ j = k \/ j ∈ ps.take i
set_option maxHeartbeats 2000000 in
theorem w_add (T : TS w s.heap G V) (GBs : GB G.fp s.heap) (hd : A.depth + 60 < recursionLimit) (hh : A.handled = none) (hr : G.rdy = false) {k : Nat} {t : Tok} {ps : List Nat} {vs : List Value} (hvs : IntsAre vs (zs ps)) (hl : G.order.length + 1 + ps.length < 200) (hcap : ∀ j, (V.succ j).length <= 500) {R : Result -> Shared -> Prop}
  (hq : ∀ s' G', Mv G.fp s s' -> TS w s'.heap G' (addV V k ps) -> Ext s.heap G G' -> (∀ j, j ∈ G'.order ↔ j ∈ G.order \/ j = k \/ j ∈ ps) -> G'.order.length <= G.order.length + 1 + ps.length -> R (.ok (.ret .none)) s') :
  codeAny (model pw w) A (.call (.ref 188) ⟨.ref G.a :: .int k t :: vs, []⟩) R s := by
 have Gr := GBs.grd
 have hvl : vs.length = ps.length := by have := hvs.length; simpa using this
 refine enterW (fd := fd_add pw) (body := bodyOf (inS (topS pw 33) 2)) (ps := [.obj (.ref G.a), .int k, .tuple (ps.map fun (n : Nat) => PV.int n)]) (X := G.fp) ["self", "node", "predecessors"] (by lia) Gr.add.1 Gr.lim Gr.add.2 rfl rfl ?_ rfl kd_add nd_add T.ex ?_
 ·intro Q E hq
  refine bind_add (by rw [hvl]; unfold sizeLine; lia) (hq _ _ (Gw.push s _) rfl (RepL.cons (by unfold Rep; rfl) (RepL.cons ⟨t, rfl⟩ (RepL.cons ?_ RepL.nil))))
  unfold Rep
  refine ⟨_, 0, vs.toArray, rfl, fun q => ?_, Heap.get?_push_size _ rfl, ?_⟩
  ·obtain ⟨o, e⟩ := T.ex _ q; rw [fresh_size] at e; cases e
  ·rw [pvN_zs]; exact rep_ints hvs
 intro s₁ env hsc eg0 eb0 ⟨L, hL⟩ g F
 have hn : env.scope.names = (fd_add pw).scope.names := by rw [hsc]
 have eg : env.globals = mainGlobals := by rw [eg0]; rfl
 have eb : env.builtins = builtinsNs := by rw [eb0]; rfl
 have hA : (A.deeper env).handled = none := hh
 have F : Fm env (own env ++ G.fp) G.fp s.heap s₁.heap [some (.obj (.ref G.a)), some (.int k), some (.tuple (ps.map fun (n : Nat) => PV.int n)), none, none, none, none, none] := { F with keep := F.keep.mono (by simp) }
 have hao : ∀ b ∈ G.fp, b ∉ own env := fun b hb q => by obtain ⟨o, e⟩ := T.ex b hb; have := F.fresh b q; rw [e] at this; cases this
 have T₁ := T.hk g.hk
 have GB₁ := GBs.hk g.hk
 obtain ⟨P, K₁⟩ := GB₁.grd.frag
 refine x_if (Tst.isNotNone (Ev.sReady0 K₁ T₁ (Ev.name F.toRd 0 (nm hn rfl) rfl) hr) rn_none) fun s₂ g₂ => ?_
 rw [if_neg (by decide)]
 refine x_nil ?_
 have F₂ := F.hk g₂.hk
 have T₂ := T₁.hk g₂.hk
 have GB₂ := GB₁.hk g₂.hk
 obtain ⟨P, K₂⟩ := GB₂.grd.frag
 have sub0 : ∀ b ∈ G.fp, b ∈ own env ++ G.fp /\ b ∉ own env /\ (b ∈ G.fp \/ s.heap.get? b = none) := fun b hb => ⟨List.mem_append_right _ hb, hao b hb, .inl hb⟩
 refine wpAny_execs_cons (wpAny_Assign_Name (call_s K₂ T₂ f_m1 f_ft.1 GB₂.grd.get_nodeinfo.1 (by simp) (Ev.name F₂.toRd 0 (nm hn rfl) rfl) (EvL.cons (Ev.name F₂.toRd 1 (nm hn rfl) rfl) EvL.nil) fun us s₃ g₃ r₃ => ?_) (by rfl))
 obtain ⟨u1, rfl, t3, rfl⟩ := r₃.one
 refine w_get_nodeinfo (T₂.hk g₃.hk) (GB₂.hk g₃.hk) (by show A.depth + 1 + 30 < _; lia) hA (by lia) fun s₄ G₄ m₄ T₄ x₄ hk4 ho4 => ?_
 have F₃ := F₂.hk g₃.hk
 have F₄ := F₃.grow m₄.kp sub0 T₄.ex (fun b hb => T₄.ex b (x₄.sub b hb)) x₄.new
 have sub4 := sub_grow F₃ sub0 x₄.new
 have e14 : Ext s.heap G G₄ := x₄.hk ((g.hk.trans g₂.hk).trans g₃.hk)
 refine store F₄ 3 (nm hn rfl) (.inl rfl) (p := .obj (.ref (G₄.x k))) (by unfold Rep; rfl) fun s₅ m₅ F₅ => ?_
 have T₅ := T₄.kp m₅.kp fun b hb => (sub4 b hb).2.1
 have GB₅ : GB G₄.fp s₅.heap := GBs.ext e14 F₅.keep
 obtain ⟨P, K₅⟩ := GB₅.grd.frag
 replace F₅ : Fm env (G₄.fp ++ (own env ++ G.fp)) G.fp s.heap s₅.heap [some (.obj (.ref G.a)), some (.int k), some (.tuple (ps.map fun (n : Nat) => PV.int n)), some (.obj (.ref (G₄.x k))), none, none, none, none] := F₅
 refine x_augA (X := G₄.fp ++ (own env ++ G.fp)) (Ev.name F₅.toRd 3 (nm hn rfl) rfl) (fun s' Q E kk hq => getNp K₅ T₅ hk4 kk hq)
  (Ev.call (Ev.glob F₅.toRd 7 (nm hn rfl) GB₅.grd.g_len eg eb) (EvL.cons (Ev.name F₅.toRd 2 (nm hn rfl) rfl) EvL.nil) trivial (c_lenTu (by rw [List.length_map]; lia))) iadd_i fun t6 s₆ g₆ => ?_
 refine putNp (K₅.keeps g₆.hk) (T₅.hk g₆.hk) hk4 fun s₇ m₇ T₇ => ?_
 rw [List.length_map] at T₇
 have hx4 : G₄.x k ∈ G₄.fp := mem_fp.mpr (.inr (.inr (.inr (.inr ⟨k, hk4, .inl rfl⟩))))
 have F₇ : Fm env (G₄.fp ++ (own env ++ G.fp)) G.fp s.heap s₇.heap [some (.obj (.ref G.a)), some (.int k), some (.tuple (ps.map fun (n : Nat) => PV.int n)), some (.obj (.ref (G₄.x k))), none, none, none, none] :=
  (F₅.hk g₆.hk).other m₇.kp (fun a ha => by rw [List.mem_singleton.mp ha]; exact (sub4 _ hx4).2.1) (fun a ha => by rw [List.mem_singleton.mp ha]; exact (sub4 _ hx4).1) (fun a ha => by rw [List.mem_singleton.mp ha]; exact (sub4 _ hx4).2.2) fun b hb => by
   by_cases hb4 : b ∈ G₄.fp
   ·exact T₇.ex b hb4
   ·obtain ⟨o, e⟩ := (F₅.hk g₆.hk).xb b hb
    exact ⟨o, m₇.kp b o (fun z => hb4 (List.mem_singleton.mp z ▸ hx4)) e⟩
 have ex7 : ∃ h' tk, s₇ = { s with heap := h', toks := tk } := ex_tr g.ex (ex_tr g₂.ex (ex_tr g₃.ex (ex_tr m₄.ex (ex_tr m₅.ex (ex_tr g₆.ex m₇.ex)))))
 have hlo4 : G₄.order.length <= G.order.length + 1 := by rcases ho4 with ⟨_, e⟩ | ⟨_, e⟩ <;> rw [e] <;> simp
 have hmo4 : ∀ j, j ∈ G₄.order ↔ j ∈ G.order \/ j = k := fun j => by
  rcases ho4 with ⟨q, e⟩ | ⟨q, e⟩
  ·rw [e]; exact ⟨.inl, fun z => z.elim id fun z => z ▸ q⟩
  ·rw [e, List.mem_append, List.mem_singleton]
 have hsl : ∀ (i j : Nat), i <= ps.length -> (addS V.succ k (ps.take i) j).length <= 500 + i := by
  intro i j hi
  have : ∀ (l : List Nat) (f : Nat -> List Nat) (n : Nat), (∀ j, (f j).length <= n) -> ∀ j, (addS f k l j).length <= n + l.length := by
   intro l
   induction l with
   | nil => intro f n hf j; exact hf j
   | cons p l ih =>
    intro f n hf j
    have := ih (updL f p (f p ++ [k])) (n + 1) (fun j => by
     unfold updL; split
     ·rw [List.length_append]; have := hf p; simp; lia
     ·have := hf j; lia) j
    show (addS (updL f p (f p ++ [k])) k l j).length <= n + (l.length + 1)
    lia
  have h2 := this (ps.take i) V.succ 500 hcap j
  rw [List.length_take] at h2
  lia
 refine x_forS hA (own env ++ G₄.fp) (fun b hb => (List.mem_append.mp hb).elim (F₇.ox b) fun z => (sub4 b z).1) F₇.xb (Ev.name F₇.toRd 2 (nm hn rfl) rfl) (Items.tuple _)
  (fun I hb i sx => ∃ Gi Xi, AddI w s env G G₄ V k ps I hb i sx Gi Xi) ?_ ?_ ?_ ?_
 ·intro I sx gx hI hex
  have hIf : I ∉ G₄.fp := fun z => by obtain ⟨o, e⟩ := T₇.ex I z; rw [hI] at e; cases e
  have hIo : I ∉ own env := fun z => by obtain ⟨o, e⟩ := F₇.xb I (F₇.ox I z); rw [hI] at e; cases e
  exact ⟨G₄, _, F₇.hold gx.hk hI hex, T₇.hk gx.hk, e14, fun b hb => ⟨List.mem_cons_of_mem _ (sub4 b hb).1, (sub4 b hb).2⟩, fun b hb => .inl hb, by simp, hIo, hIf, ex_tr ex7 gx.ex, EX.refl _, by lia, fun j => by rw [hmo4]; simp⟩
 ·rintro I hb i sx sy hkb hI hIb ⟨Gi, Xi, J⟩ m hex
  have hI0 : s.heap.get? I = none := by
   cases q : s.heap.get? I with
   | none => rfl
   | some o =>
    by_cases hf : I ∈ G.fp
    ·exact absurd (J.xi.sub I hf) J.hIf
    ·rw [F₇.keep I o hf q] at hI; cases hI
  refine ⟨Gi, Xi, J.Fi.other m.kp (fun a ha => by rw [List.mem_singleton.mp ha]; exact J.hIo) (fun a ha => by rw [List.mem_singleton.mp ha]; exact J.hIX) (fun a ha => by rw [List.mem_singleton.mp ha]; exact .inr hI0) (fun b hb' => ?_), J.Ti.kp m.kp (fun b hb' z => J.hIf (List.mem_singleton.mp z ▸ hb')), J.xi, J.si, J.ni, J.hIX, J.hIo, J.hIf, ex_tr J.exi m.ex, J.exx.trans (EX.of m.kp fun b hb' => by rw [List.mem_singleton.mp hb']; exact hex), J.li, J.mi⟩
  by_cases e : b = I
  ·exact e ▸ hex
  ·obtain ⟨o, ho⟩ := J.Fi.xb b hb'; exact ⟨o, m.kp b o (by simpa using e) ho⟩
 ·rintro I hb i q v sx E' hkb hI hIb hqi ⟨Gi, Xi, J⟩ rv hIx
  have li := J.li
  rw [List.getElem?_map] at hqi
  cases hpi : ps[i]? with
  | none => rw [hpi] at hqi; cases hqi
  | some p =>
  rw [hpi] at hqi
  obtain rfl : PV.int p = q := by simpa using hqi
  obtain ⟨tp, rfl⟩ := rv
  have hip := (List.getElem?_eq_some_iff.mp hpi).1
  refine a_name J.Fi 4 (nm hn rfl) (.inl rfl) (p := .int p) ⟨tp, rfl⟩ fun sa ma Fa => ?_
  have Ta := J.Ti.kp ma.kp fun b hb' => (J.si b hb').2.1
  replace Fa : Fm env Xi G.fp s.heap sa.heap [some (.obj (.ref G.a)), some (.int k), some (.tuple (ps.map fun (n : Nat) => PV.int n)), some (.obj (.ref (G₄.x k))), some (.int p), none, none, none] := Fa
  have GBa : GB Gi.fp sa.heap := GBs.ext J.xi Fa.keep
  obtain ⟨P, Ka⟩ := GBa.grd.frag
  have eva : ∀ pos, Ev pw w (A.deeper env) env Xi sa.heap (.Name "self" pos) (.obj (.ref Gi.a)) := fun pos => by rw [J.xi.a]; exact Ev.name Fa.toRd 0 (nm hn rfl) rfl
  refine wpAny_execs_cons (wpAny_Assign_Name (call_s Ka Ta f_m1 f_ft.1 GBa.grd.get_nodeinfo.1 (by simp) (eva _) (EvL.cons (Ev.name Fa.toRd 4 (nm hn rfl) rfl) EvL.nil) fun us sb gb rb => ?_) (by rfl))
  obtain ⟨u1, rfl, t3, rfl⟩ := rb.one
  refine w_get_nodeinfo (Ta.hk gb.hk) (GBa.hk gb.hk) (by show A.depth + 1 + 30 < _; lia) hA (by lia) fun sc Gc mc Tc xc hkc hoc => ?_
  have Fb := Fa.hk gb.hk
  have Fc := Fb.grow mc.kp J.si Tc.ex (fun b hb' => Tc.ex b (xc.sub b hb')) xc.new
  have subc := sub_grow Fb J.si xc.new
  have kab : Kp Gi.fp sa.heap sc.heap := (gb.hk.kp _).trans mc.kp
  have xic : Ext s.heap G Gc := J.xi.trans (xc.hk gb.hk) (Fa.keep)
  refine store Fc 5 (nm hn rfl) (.inl rfl) (p := .obj (.ref (Gc.x p))) (by unfold Rep; rfl) fun sd md Fd => ?_
  have Td := Tc.kp md.kp fun b hb' => (subc b hb').2.1
  replace Fd : Fm env (Gc.fp ++ Xi) G.fp s.heap sd.heap [some (.obj (.ref G.a)), some (.int k), some (.tuple (ps.map fun (n : Nat) => PV.int n)), some (.obj (.ref (G₄.x k))), some (.int p), some (.obj (.ref (Gc.x p))), none, none] := Fd
  have GBd : GB Gc.fp sd.heap := GBs.ext xic Fd.keep
  obtain ⟨P, Kd⟩ := GBd.grd.frag
  have hyp : Gc.y p ∈ Gc.fp := mem_fp.mpr (.inr (.inr (.inr (.inr ⟨p, hkc, .inr (.inl rfl)⟩))))
  refine x_append (p := .int k) Fd (lsOfIl (Td.succ p hkc)) (subc _ hyp).1 (subc _ hyp).2.1 (subc _ hyp).2.2 (by rw [List.length_map]; have := hsl i p (by lia); show (addS V.succ k (ps.take i) p).length <= sizeLine; unfold sizeLine; lia) (Ev.nSucc Kd Td hkc (Ev.name Fd.toRd 5 (nm hn rfl) rfl)) (Ev.name Fd.toRd 1 (nm hn rfl) rfl) (fun se me Fe Le => x_nil ?_) rfl rfl (by rw [hL]; rfl) rfl
  have ile : IL se.heap (Gc.y p) (addS V.succ k (ps.take i) p ++ [k]) := ilOfLs (by rw [List.map_append]; exact Le)
  have Te := Td.setSucc hkc me.kp ile
  have etk : addS V.succ k (ps.take (i + 1)) = updL (addS V.succ k (ps.take i)) p (addS V.succ k (ps.take i) p ++ [k]) := by rw [List.take_add_one, hpi]; exact addS_snoc _ _ _ _
  have exab : EX sx.heap sb.heap := (EX.of ma.kp fun b hb' => Fa.xb b (Fa.ox b hb')).trans (EX.hk gb.hk)
  have nfc : ∀ b ∈ Gc.fp, b ∈ G₄.fp \/ hb.get? b = none := fun b hb' => by
   rcases xc.new b hb' with z | z
   ·exact J.ni b z
   ·by_cases hf : b ∈ G₄.fp
    ·exact .inl hf
    ·exact .inr ((J.exx.trans exab).none z)
  refine ⟨?_, Gc, Gc.fp ++ Xi, (Fe.forget 4).forget 5, ?_, xic, subc, nfc, List.mem_append_right _ J.hIX, J.hIo, fun z => ?_, ex_tr J.exi (ex_tr ma.ex (ex_tr gb.ex (ex_tr mc.ex (ex_tr md.ex me.ex)))), ?_, ?_, fun j => ?_⟩
  ·refine (MvB.of ma fun b hb' => .inl (List.mem_append_left _ hb')).trans ((MvB.of (gb.mv []) (by simp)).trans ((MvB.of mc fun b hb' => ?_).trans ((MvB.of md fun b hb' => .inl (List.mem_append_left _ hb')).trans (MvB.of me fun b hb' => ?_))))
   ·exact (J.ni b hb').imp (List.mem_append_right _) id
   ·rw [List.mem_singleton.mp hb']; exact (nfc _ hyp).imp (List.mem_append_right _) id
  ·rw [etk]; exact Te
  ·rcases xc.new I z with q | q
   ·exact J.hIf q
   ·obtain ⟨o, e⟩ := exab I hIx; rw [q] at e; cases e
  ·exact J.exx.trans (exab.trans ((EX.of mc.kp fun b hb' => Tc.ex b (xc.sub b hb')).trans ((EX.of md.kp fun b hb' => Fd.xb b (Fd.ox b hb')).trans (EX.of me.kp fun b hb' => by rw [List.mem_singleton.mp hb']; exact Te.ex _ hyp))))
  ·rcases hoc with ⟨_, e⟩ | ⟨_, e⟩ <;> rw [e]
   ·lia
   ·rw [List.length_append]; simp; lia
  ·have e1 : j ∈ ps.take (i + 1) ↔ j ∈ ps.take i \/ j = p := by rw [List.take_add_one, hpi]; simp
   rw [e1]
   rcases hoc with ⟨q, e⟩ | ⟨q, e⟩
   ·rw [e, J.mi]
    constructor
    ·rintro (z | z | z)
     ·exact .inl z
     ·exact .inr (.inl z)
     ·exact .inr (.inr (.inl z))
    ·rintro (z | z | z | z)
     ·exact .inl z
     ·exact .inr (.inl z)
     ·exact .inr (.inr z)
     ·exact z ▸ (J.mi p).mp q
   ·rw [e, List.mem_append, List.mem_singleton, J.mi]
    constructor
    ·rintro ((z | z | z) | z)
     ·exact .inl z
     ·exact .inr (.inl z)
     ·exact .inr (.inr (.inl z))
     ·exact .inr (.inr (.inr z))
    ·rintro (z | z | z | z)
     ·exact .inl (.inl z)
     ·exact .inl (.inr (.inl z))
     ·exact .inl (.inr (.inr z))
     ·exact .inr z
 ·rintro I hb sx sy hkb hI hIb ⟨Gi, Xi, J⟩ m
  refine x_nil ?_
  have Ti := J.Ti
  have mi := J.mi
  have li := J.li
  rw [List.length_map, List.take_length] at Ti mi
  rw [List.length_map] at li
  have hI0 : s.heap.get? I = none := by
   cases q : s.heap.get? I with
   | none => rfl
   | some o =>
    by_cases hf : I ∈ G.fp
    ·exact absurd (J.xi.sub I hf) J.hIf
    ·rw [F₇.keep I o hf q] at hI; cases hI
  refine hq sy Gi ⟨ex_tr J.exi m.ex, fun b o hb' e => m.kp b o (by simp; rintro rfl; rw [hI0] at e; cases e) (J.Fi.keep b o hb' e)⟩ (Ti.kp m.kp fun b hb' z => J.hIf (List.mem_singleton.mp z ▸ hb')) J.xi mi li
end
theorem nd_sinit : ((fd_ts_init pw).scope.names.map (·.1)).Nodup := by decide +kernel
theorem kd_sinit : ∀ x ∈ (fd_ts_init pw).scope.names.take 2, x.2 = .local \/ x.2 = .cell := by decide +kernel
theorem bind_sinit {s : Shared} (G : Grd pw s.heap) (v : Value) : BindsTo s (fd_ts_init pw) ⟨[v], []⟩ [(("self" : Str), v), (("graph" : Str), .none)] :=
 BindsTo.of_defaults (T := 167) rfl G.dflts rfl rfl rfl
noncomputable def V0 : SV := ⟨fun _ => 0, fun _ => [], [], 0, 0⟩
noncomputable def ent (t : Int × Tok) (n : Str) (v : Value) : DictEntry := ⟨t.1, .str n t.2, v⟩
section
variable {w : World} {A : Around} {s : Shared} {R : Result -> Shared -> Prop}
set_option maxHeartbeats 1000000 in
theorem w_sinit {x d : Addr} (GBs : GB [d] s.heap) (hd : A.depth + 20 < recursionLimit) (hh : A.handled = none) (hx : s.heap.get? x = some (instObj 238 d)) (hdd : s.heap.get? d = some emptyDict) (hxd : x ≠ d)
  (hq : ∀ s' D, Mv [d] s s' -> (D == sysModules) = false -> s.heap.get? D = none -> s'.heap.DictOf (intKind pw w) D [] -> (∃ t1 t2 t3 t4 k1 k2 n, s'.heap.get? d = some (sDict t1 t2 t3 t4 D .none 0 0 k1 k2 n)) -> R (.ok (.ret .none)) s') :
  codeAny (model pw w) A (.call (.ref 174) ⟨[.ref x], []⟩) R s := by
 have Gr := GBs.grd
 have xb : XB s.heap [d] := fun a ha => by rw [List.mem_singleton.mp ha]; exact ⟨_, hdd⟩
 refine enterW (fd := fd_ts_init pw) (body := bodyOf (inS (topS pw 33) 0)) (ps := [.obj (.ref x), .none]) (X := [d]) ["self", "graph"] (by lia) Gr.ts_init.1 Gr.lim Gr.ts_init.2 rfl rfl ?_ rfl kd_sinit nd_sinit xb ?_
 ·intro Q E hq
  exact bind_sinit Gr (.ref x) _ _ _ _ (hq _ _ (Gw.refl s) rfl (RepL.cons (by unfold Rep; rfl) (RepL.cons (by unfold Rep; rfl) RepL.nil)))
 intro s₁ env hsc eg0 eb0 ⟨L, hL⟩ g F
 have hn : env.scope.names = (fd_ts_init pw).scope.names := by rw [hsc]
 have F : Fm env (own env ++ [d]) [d] s.heap s₁.heap [some (.obj (.ref x)), some .none, none, none] := { F with keep := F.keep.mono (by simp) }
 have hdo : d ∉ own env := fun q => by have := F.fresh d q; rw [hdd] at this; cases this
 have hdX : d ∈ own env ++ [d] := by simp
 have GB₁ := GBs.hk g.hk
 have hev : wpAny (model pw w) (A.deeper env) (eval (.Dict [] [] ⟨91, 26, 91, 28⟩) env) (fun v s' => v = .ref s₁.heap.objs.size /\ s' = { s₁ with heap := s₁.heap.push { cls := .type "dict", data := .dict #[] } }) (fun _ _ => False) s₁ := wpAny_Dict_empty ⟨rfl, rfl⟩
 refine wpAny_execs_cons (plainObj_wpAny_Assign_Attribute (wpAny_mono hev (fun v s' q => ?_) fun _ _ z => z.elim))
 obtain ⟨rfl, rfl⟩ := q
 have hDf : s₁.heap.get? s₁.heap.objs.size = none := fresh_size _
 have hD0 : s.heap.get? s₁.heap.objs.size = none := by
  cases q : s.heap.get? s₁.heap.objs.size with
  | none => rfl
  | some o => rw [g.hk _ _ q] at hDf; cases hDf
 have k2 : HK s₁.heap (s₁.heap.push { cls := .type "dict", data := .dict #[] }) := (Gw.push s₁ _).hk
 have dD : (s₁.heap.push { cls := .type "dict", data := .dict #[] }).DictOf (intKind pw w) s₁.heap.objs.size [] := Heap.DictOf.new s₁.heap
 have hDlow : (s₁.heap.objs.size == sysModules) = false := by
  have : 66 < s₁.heap.objs.size := Heap.lt_size GB₁.grd.unquote.1
  refine beq_eq_false_iff_ne.mpr fun e => ?_
  rw [e] at this
  exact absurd this (by decide)
 generalize hDD : s₁.heap.objs.size = D at *
 generalize hs2 : ({ s₁ with heap := s₁.heap.push { cls := .type "dict", data := .dict #[] } } : Shared) = s₂
 have e2 : s₂.heap = s₁.heap.push { cls := .type "dict", data := .dict #[] } := by rw [<- hs2]
 rw [<- e2] at k2 dD
 have hDd : D ≠ d := by rintro rfl; rw [hdd] at hD0; cases hD0
 have F₂ := F.hk k2
 refine (Ev.name F₂.toRd 0 (nm hn rfl) rfl) s₂ _ _ (HK.refl _) fun ov s₃ g₃ r₃ => ?_
 obtain rfl : ov = .ref x := r₃
 have F₃ := F₂.hk g₃.hk
 have k13 : HK s₁.heap s₃.heap := k2.trans g₃.hk
 have GB₃ := GB₁.hk k13
 have D₃ : s₃.heap.DictOf (intKind pw w) D [] := DictOf.at_ dD fun o => g₃.hk _ o
 obtain ⟨P, K₃⟩ := GB₃.grd.frag
 refine set_sd (t1 := (0, 0)) (t2 := (0, 0)) (t3 := (0, 0)) (t4 := (0, 0)) (D := D) (rv := .none) (np := 0) (nf := 0) (k1 := 0) (k2 := 0) (n := 0) (od := emptyDict) (od' := { cls := .type "dict", data := .dict #[ent (PyData.keyHash w.params "_node2info", s₃.toks + 1) "_node2info" (.ref D)] 1 }) (es := [_]) (n' := 1) K₃ (k13 _ _ (g.hk _ _ hx)) (k13 _ _ (g.hk _ _ hdd)) f_st1 (by kernel_rfl) (by kernel_rfl) rfl (by simp) fun h4 sb4 ho4 => ?_
 have F₄ : Fm env (own env ++ [d]) [d] s.heap h4 _ := F₃.turn sb4 hdX hdo (.inl (by simp)) ⟨_, ho4⟩
 generalize hs4 : ({ s₃ with heap := h4, toks := s₃.toks + 1 + 1 } : Shared) = s₄
 have e4 : s₄.heap = h4 := by rw [<- hs4]
 rw [<- e4] at F₄ ho4
 have kp4 : Kp [d] s₃.heap s₄.heap := by rw [e4]; exact Kp.of_same sb4
 have GB₄ := GB₃.kp kp4
 have hx4 : s₄.heap.get? x = some (instObj 238 d) := kp4 _ _ (by simpa using hxd) (k13 _ _ (g.hk _ _ hx))
 have D₄ : s₄.heap.DictOf (intKind pw w) D [] := DictOf.at_ D₃ fun o => kp4 _ o (by simpa using hDd)
 refine x_setA (s := s₄) (X := own env ++ [d]) (p := .none) Ev.cnone (Ev.name F₄.toRd 0 (nm hn rfl) rfl) fun v s₅ g₅ r₅ => ?_
 unfold Rep at r₅; subst r₅
 have GB₅ := GB₄.hk g₅.hk
 have F₅ := F₄.hk g₅.hk
 obtain ⟨P, K₅⟩ := GB₅.grd.frag
 refine set_sd (t1 := (0, 0)) (t2 := (0, 0)) (t3 := (0, 0)) (t4 := (0, 0)) (D := D) (rv := .none) (np := 0) (nf := 0) (k1 := 0) (k2 := 0) (n := 0) (od' := { cls := .type "dict", data := .dict #[ent (PyData.keyHash w.params "_node2info", s₃.toks + 1) "_node2info" (.ref D), ent (PyData.keyHash w.params "_ready_nodes", s₅.toks + 1) "_ready_nodes" .none] 2 }) (es := [_, _]) (n' := 2) K₅ (g₅.hk _ _ hx4) (g₅.hk _ _ ho4) f_st2 (by kernel_rfl) (by kernel_rfl) rfl (by simp) fun h6 sb6 ho6 => ?_
 have F₆ : Fm env (own env ++ [d]) [d] s.heap h6 _ := F₅.turn sb6 hdX hdo (.inl (by simp)) ⟨_, ho6⟩
 generalize hs6 : ({ s₅ with heap := h6, toks := s₅.toks + 1 + 1 } : Shared) = s₆
 have e6 : s₆.heap = h6 := by rw [<- hs6]
 rw [<- e6] at F₆ ho6
 have kp6 : Kp [d] s₄.heap s₆.heap := (g₅.hk.kp _).trans (by rw [e6]; exact Kp.of_same sb6)
 have GB₆ := GB₄.kp kp6
 have hx6 : s₆.heap.get? x = some (instObj 238 d) := kp6 _ _ (by simpa using hxd) hx4
 have D₆ : s₆.heap.DictOf (intKind pw w) D [] := DictOf.at_ D₄ fun o => kp6 _ o (by simpa using hDd)
 refine x_setA (s := s₆) (X := own env ++ [d]) (p := .int 0) Ev.int (Ev.name F₆.toRd 0 (nm hn rfl) rfl) fun v s₇ g₇ r₇ => ?_
 obtain ⟨t7, rfl⟩ := r₇
 have GB₇ := GB₆.hk g₇.hk
 have F₇ := F₆.hk g₇.hk
 obtain ⟨P, K₇⟩ := GB₇.grd.frag
 refine set_sd (t1 := (0, 0)) (t2 := (0, 0)) (t3 := (0, 0)) (t4 := (0, 0)) (D := D) (rv := .none) (np := 0) (nf := 0) (k1 := 0) (k2 := 0) (n := 0) (od' := { cls := .type "dict", data := .dict #[ent (PyData.keyHash w.params "_node2info", s₃.toks + 1) "_node2info" (.ref D), ent (PyData.keyHash w.params "_ready_nodes", s₅.toks + 1) "_ready_nodes" .none, ent (PyData.keyHash w.params "_npassedout", s₇.toks + 1) "_npassedout" (.int 0 t7)] 3 }) (es := [_, _, _]) (n' := 3) K₇ (g₇.hk _ _ hx6) (g₇.hk _ _ ho6) f_st3 (by kernel_rfl) (by kernel_rfl) rfl (by simp) fun h8 sb8 ho8 => ?_
 have F₈ : Fm env (own env ++ [d]) [d] s.heap h8 _ := F₇.turn sb8 hdX hdo (.inl (by simp)) ⟨_, ho8⟩
 generalize hs8 : ({ s₇ with heap := h8, toks := s₇.toks + 1 + 1 } : Shared) = s₈
 have e8 : s₈.heap = h8 := by rw [<- hs8]
 rw [<- e8] at F₈ ho8
 have kp8 : Kp [d] s₆.heap s₈.heap := (g₇.hk.kp _).trans (by rw [e8]; exact Kp.of_same sb8)
 have GB₈ := GB₆.kp kp8
 have hx8 : s₈.heap.get? x = some (instObj 238 d) := kp8 _ _ (by simpa using hxd) hx6
 have D₈ : s₈.heap.DictOf (intKind pw w) D [] := DictOf.at_ D₆ fun o => kp8 _ o (by simpa using hDd)
 refine x_setA (s := s₈) (X := own env ++ [d]) (p := .int 0) Ev.int (Ev.name F₈.toRd 0 (nm hn rfl) rfl) fun v s₉ g₉ r₉ => ?_
 obtain ⟨t9, rfl⟩ := r₉
 have GB₉ := GB₈.hk g₉.hk
 have F₉ := F₈.hk g₉.hk
 obtain ⟨P, K₉⟩ := GB₉.grd.frag
 refine set_sd (t1 := (0, 0)) (t2 := (0, 0)) (t3 := (0, 0)) (t4 := (0, 0)) (D := D) (rv := .none) (np := 0) (nf := 0) (k1 := 0) (k2 := 0) (n := 0) (od' := sDict (PyData.keyHash w.params "_node2info", s₃.toks + 1) (PyData.keyHash w.params "_ready_nodes", s₅.toks + 1) (PyData.keyHash w.params "_npassedout", s₇.toks + 1) (PyData.keyHash w.params "_nfinished", s₉.toks + 1) D .none 0 0 t7 t9 4) (es := [_, _, _, _]) (n' := 4) K₉ (g₉.hk _ _ hx8) (g₉.hk _ _ ho8) f_st4 (by kernel_rfl) (by kernel_rfl) rfl (by simp) fun hB sbB hoB => ?_
 have FB : Fm env (own env ++ [d]) [d] s.heap hB [some (.obj (.ref x)), some .none, none, none] := F₉.turn sbB hdX hdo (.inl (by simp)) ⟨_, hoB⟩
 generalize hsB : ({ s₉ with heap := hB, toks := s₉.toks + 1 + 1 } : Shared) = sB
 have eB : sB.heap = hB := by rw [<- hsB]
 rw [<- eB] at FB hoB
 have kpB : Kp [d] s₈.heap sB.heap := (g₉.hk.kp _).trans (by rw [eB]; exact Kp.of_same sbB)
 have D_B : sB.heap.DictOf (intKind pw w) D [] := DictOf.at_ D₈ fun o => kpB _ o (by simpa using hDd)
 refine x_if (Tst.isNotNone (Ev.name FB.toRd 1 (nm hn rfl) rfl) rn_none) fun sC gC => ?_
 rw [if_neg (by decide)]
 refine x_nil (x_nil ?_)
 refine hq sC D ⟨?_, FB.keep.trans (gC.hk.kp _)⟩ hDlow hD0 (DictOf.at_ D_B fun o => gC.hk _ o) ⟨_, _, _, _, _, _, _, gC.hk _ _ hoB⟩
 refine ex_tr g.ex (ex_tr ?_ (ex_tr g₃.ex (ex_tr ?_ (ex_tr g₅.ex (ex_tr ?_ (ex_tr g₇.ex (ex_tr ?_ (ex_tr g₉.ex (ex_tr ?_ gC.ex)))))))))
 ·exact ⟨_, _, hs2.symm⟩
 ·exact ⟨_, _, hs4.symm⟩
 ·exact ⟨_, _, hs6.symm⟩
 ·exact ⟨_, _, hs8.symm⟩
 ·exact ⟨_, _, hsB.symm⟩
theorem w_newsorter {M : List Addr} (GBs : GB M s.heap) (hd : A.depth + 40 < recursionLimit) (hh : A.handled = none) {Q : Value -> Shared -> Prop} {E : Value -> Shared -> Prop}
  (hq : ∀ s' G, Gw s s' -> TS w s'.heap G V0 -> (∀ b ∈ G.fp, s.heap.get? b = none) -> G.rdy = false -> G.order = [] -> Q (.ref G.a) s') :
  wpAny (model pw w) A (PySem.call (.ref 238) [] []) Q E s := by
 obtain ⟨P, K⟩ := GBs.grd.frag
 obtain ⟨h, g, d, tk, os⟩ := s
 dsimp only at GBs K hq
 refine wpAny_call (make_core (makes_of K f_mk.1) (looks_findIn K f_mi) (fun self => bind_fn K self f_ft.2.2.2.2.2.2.2.1) (.inl (by rfl)) ?_)
 have k2 : HK h ((h.push emptyDict).push (instObj 238 h.objs.size)) := fun b o e => Heap.get?_push_of_some _ (Heap.get?_push_of_some _ e)
 have hz : ((h.push emptyDict).push (instObj 238 h.objs.size)).get? h.objs.size = some emptyDict := Heap.get?_push_of_some _ (Heap.get?_push_size _ rfl)
 have hx : ((h.push emptyDict).push (instObj 238 h.objs.size)).get? (h.objs.size + 1) = some (instObj 238 h.objs.size) := by heap_get
 have hxf : h.get? (h.objs.size + 1) = none := heap_lt (Nat.le_succ _)
 have hzf : h.get? h.objs.size = none := heap_lt (Nat.le_refl _)
 have hlow : 66 < h.objs.size := Heap.lt_size GBs.grd.unquote.1
 have GB2 : GB [h.objs.size] ((h.push emptyDict).push (instObj 238 h.objs.size)) := (GBs.less fun a ha => .inr (by rw [List.mem_singleton.mp ha]; exact hzf)).hk k2
 have hne : h.objs.size + 1 ≠ h.objs.size := Nat.ne_of_gt (Nat.lt_succ_self _)
 generalize hdd : h.objs.size = dd at *
 refine w_sinit (A := A.under _) (x := dd + 1) GB2 (by rw [tc_depth]; lia) hh hx hz hne fun s' D m hD1 hDf dD sd => ?_
 have gw : Gw (⟨h, g, d, tk, os⟩ : Shared) s' := by
  obtain ⟨⟨h', t', rfl⟩, kp⟩ := m
  exact ⟨⟨h', t', rfl⟩, fun b o e => kp b o (by simp; rintro rfl; rw [hzf] at e; cases e) (k2 b o e)⟩
 have hDf0 : h.get? D = none := by
  cases q : h.get? D with
  | none => rfl
  | some o => have := k2 _ _ q; dsimp only at hDf; rw [hDf] at this; cases this
 have hDx : dd + 1 ≠ D := by rintro rfl; dsimp only at hDf; rw [hx] at hDf; cases hDf
 have hDd : dd ≠ D := by rintro rfl; dsimp only at hDf; rw [hz] at hDf; cases hDf
 let G : SG := ⟨dd + 1, dd, D, 0, false, [], fun _ => 0, fun _ => 0, fun _ => 0, fun b => if b = dd + 1 then (0, 0) else if b = dd then (1, 0) else (2, 0)⟩
 refine ⟨rfl, hq s' G gw ?_ (fun b hb => ?_) rfl rfl⟩
 ·exact {
   at_ := m.kp _ _ (fun z => hne (List.mem_singleton.mp z)) hx
   dict := sd
   map := dD
   node := fun k hk => by cases hk
   emp := fun k hk => by cases hk
   succ := fun k hk => by cases hk
   ready := fun z => by cases z
   nd := List.nodup_nil
   ta := if_pos rfl
   td := by show (if dd = dd + 1 then _ else _) = _; rw [if_neg (Nat.ne_of_lt (Nat.lt_succ_self _)), if_pos rfl]
   tD := by show (if D = dd + 1 then _ else _) = _; rw [if_neg hDx.symm, if_neg hDd.symm]
   tr := fun z => by cases z
   tx := fun k hk => by cases hk
   ty := fun k hk => by cases hk
   tz := fun k hk => by cases hk
   out := fun _ _ => ⟨rfl, rfl⟩
   small := Nat.zero_le _
   dn := hD1 }
 ·rcases mem_fp.mp hb with rfl | rfl | rfl | ⟨hr, _⟩ | ⟨k, hk, _⟩
  ·exact hxf
  ·exact hzf
  ·exact hDf0
  ·cases hr
  ·cases hk
end
theorem meets_bool_list (l : Addr) (items : Array Value) (hfit : (items.size : Int) < 2 ^ 63) :
  Meets (Builtin.«bool.__new__» ⟨[.type "bool", .ref l], []⟩) (fun _ R s => s.heap.IsList l items /\ R (.ok (.ret (.bool (!items.isEmpty)))) { s with toks := s.toks + 1 + 1 }) :=
 Meets.of_wp fun prog w A R s ⟨hl, hs⟩ => by
  obtain ⟨hp, g, d, tk, os⟩ := s
  have f1 := F.conv_sub_bool
  repeat (any_goals (first | assumption | (with_reducible refine wpAny_truthy_list hl hfit ?_) | wp_step))
  all_goals first | exact ⟨_, rfl, hs⟩ | exact hs | skip
section
variable {prog : Program} {w : World} {A : Around} {E : Value -> Shared -> Prop} {s : Shared} {X : List Addr} {env : Env} {h : Heap}
theorem call_bool_list {l : Addr} {items : Array Value} {Q : Value -> Shared -> Prop} (hl : s.heap.IsList l items) (hfit : (items.size : Int) < 2 ^ 63) (h : Q (.bool (!items.isEmpty)) { s with toks := s.toks + 1 + 1 }) :
  wpAny (model prog w) A (call (.type "bool") [.ref l]) Q E s :=
 call_bool_1 (meets_bool_list l items hfit) (show _ /\ wants (fun obj s₁ => s₁.TypeIs obj "bool" /\ Q obj s₁) E _ _ from ⟨hl, rfl, h⟩)
theorem c_bool_list {xs : List PV} (hl : (xs.length : Int) < 2 ^ 63) : Calls prog w A X h (.type "bool") [.list xs] (.bool (!xs.isEmpty)) := by
 intro s Q E vs k r hq
 obtain ⟨v, rfl, r1⟩ := r.one
 unfold Rep at r1
 obtain ⟨a, n, vs, rfl, ha, ho, rl⟩ := r1
 have hsz : vs.size = xs.length := by simpa using rl.length
 refine call_bool_list ⟨_, ho, rfl, n, rfl⟩ (by rw [hsz]; exact hl) (hq _ _ (Gw.toks s _) ?_)
 unfold Rep
 congr 1
 congr 1
 cases xs with
 | nil => exact Array.isEmpty_iff_size_eq_zero.mpr hsz
 | cons x xs =>
  have : ¬ vs.isEmpty = true := fun z => by have := Array.isEmpty_iff_size_eq_zero.mp z; rw [hsz] at this; simp at this
  simpa using this
theorem Ev.orB {x y : Expr} {a b : Bool} {pos : Pos} (ex : Ev prog w A env X h x (.bool a)) (ey : Ev prog w A env X h y (.bool b)) : Ev prog w A env X h (.BoolOp .Or [x, y] pos) (.bool (a || b)) := by
 intro s Q E k hq
 rw [arm_eval_BoolOp]
 show wpAny _ _ (boolOp pos .Or [eval x env, eval y env]) _ _ _
 unfold boolOp
 refine wpAny_bind (ex s _ _ k fun v s₁ g r => ?_)
 unfold Rep at r; subst r
 refine wpAny_bind (wpAny_standAt (wpAny_bind (wpAny_holding (wpAny_truthy_bool ?_))))
 cases a with
 | true => exact wpAny_pure (hq _ _ g (by unfold Rep; rfl))
 | false =>
  show wpAny _ _ (boolOp pos .Or [eval y env]) _ _ _
  unfold boolOp
  exact ey s₁ _ _ (k.trans g.hk) fun v s₂ g₂ r₂ => hq _ _ (g.trans g₂) r₂
end
theorem nd_act : ((fd_is_active pw).scope.names.map (·.1)).Nodup := by decide +kernel
theorem kd_act : ∀ x ∈ (fd_is_active pw).scope.names.take 1, x.2 = .local \/ x.2 = .cell := by decide +kernel
section
variable {w : World} {A : Around} {s : Shared} {G : SG} {V : SV}
theorem w_active (T : TS w s.heap G V) (Gr : Grd pw s.heap) (hd : A.depth + 20 < recursionLimit) (hr : G.rdy = true) (hl : V.ready.length <= 1000) {Q : Value -> Shared -> Prop} {E : Value -> Shared -> Prop}
  (hq : ∀ s', Gw s s' -> Q (.bool (decide (V.fin < V.pas) || !V.ready.isEmpty)) s') :
  wpAny (model pw w) A (PySem.call (.ref 207) [.ref G.a] []) Q E s := by
 refine wpAny_call (enter (fd := fd_is_active pw) (body := bodyOf (inS (topS pw 33) 5)) (binds := [("self", .ref G.a)]) (ps := [.obj (.ref G.a)]) (X := []) (by lia) Gr.is_active.1 Gr.lim Gr.is_active.2 rfl rfl rfl rfl kd_act nd_act (by simp [XB]) (RepL.cons (by unfold Rep; rfl) RepL.nil) ?_)
 intro s₁ env henv g F
 have hn : env.scope.names = (fd_is_active pw).scope.names := by rw [henv]; rfl
 have eg : env.globals = mainGlobals := by rw [henv]; rfl
 have eb : env.builtins = builtinsNs := by rw [henv]; rfl
 replace F : Fm env (own env ++ []) [] s.heap s₁.heap [some (.obj (.ref G.a)), none, none] := F
 have T₁ := T.hk g.hk
 have Gr₁ := Gr.hk g.hk
 obtain ⟨P, K₁⟩ := Gr₁.frag
 refine x_if (Tst.isNone (Ev.sReady K₁ T₁ (Ev.name F.toRd 0 (nm hn rfl) rfl) hr) rn_ref) fun s₂ g₂ => ?_
 rw [if_neg (by decide)]
 refine x_nil ?_
 have F₂ := F.hk g₂.hk
 have T₂ := T₁.hk g₂.hk
 have K₂ := K₁.keeps g₂.hk
 have hrX : G.r ∉ own env ++ [] := fun z => by
  have hz : G.r ∈ own env := by simpa using z
  obtain ⟨_, _, e, _⟩ := T.ready hr
  have := F.fresh _ hz; rw [e] at this; cases this
 refine x_return (Ev.orB (Ev.ints i_lt (Ev.sFin K₂ T₂ (Ev.name F₂.toRd 0 (nm hn rfl) rfl)) (Ev.sPas K₂ T₂ (Ev.name F₂.toRd 0 (nm hn rfl) rfl))) (Ev.call (Ev.glob F₂.toRd 2 (nm hn rfl) (Gr₁.hk g₂.hk).g_bool eg eb) (EvL.cons (Ev.sReadyL K₂ T₂ (Ev.name F₂.toRd 0 (nm hn rfl) rfl) hr hrX) EvL.nil) trivial (c_bool_list (by rw [List.length_map]; lia)))) fun v s' g' rv => ?_
 unfold Rep at rv; subst rv
 have e : (V.ready.map fun (n : Nat) => PV.int n).isEmpty = V.ready.isEmpty := by cases V.ready <;> rfl
 rw [e]
 exact hq s' ((g.trans g₂).trans g')
end
theorem nd_gr : ((fd_get_ready pw).scope.names.map (·.1)).Nodup := by decide +kernel
theorem kd_gr : ∀ x ∈ (fd_get_ready pw).scope.names.take 1, x.2 = .local \/ x.2 = .cell := by decide +kernel
noncomputable def outV (f : Nat -> Int) (ks : List Nat) : Nat -> Int := ks.foldl (fun f k => updI f k (-1)) f
theorem outV_snoc (f : Nat -> Int) (ks : List Nat) (k : Nat) : outV f (ks ++ [k]) = updI (outV f ks) k (-1) := by unfold outV; rw [List.foldl_append]; rfl
section
variable {w : World} {A : Around} {s : Shared} {G : SG} {V : SV} {X : List Addr} {h : Heap} {env : Env}
theorem c_tuple_il {prog : Program} (xb : XB h X) {r : Addr} {xs : List Nat} (il : IL h r xs) (hl : xs.length <= 1000) : Calls prog w A X h (.type "tuple") [.obj (.ref r)] (.tuple (xs.map fun (n : Nat) => PV.int n)) := by
 intro s Q E vs k rl hq
 obtain ⟨v, rfl, r1⟩ := rl.one
 obtain rfl : v = .ref r := r1
 obtain ⟨us, n, ho, hi⟩ := il
 have hsz : us.size = xs.length := by have := hi.length; simpa using this
 refine call_tuple_list ⟨_, k _ _ ho, rfl, n, rfl⟩ (fun h' hk => hq _ _ ⟨⟨_, s.toks, rfl⟩, fun b o e => Heap.get?_push_of_some _ (hk b o e)⟩ (rep_newT ?_ (Heap.get?_push_size _ rfl) ?_)) (by rw [hsz]; unfold sizeLine; lia)
 ·exact ((xb.hk k).hk hk).fresh (fresh_size _)
 ·rw [pvN_zs]; exact rep_ints hi
theorem getPas {P : Params} (K : (Kts P pw).In h) (T : TS w h G V) {s : Shared} {Q : Value -> Shared -> Prop} {E : Value -> Shared -> Prop} (k : HK h s.heap) (hq : ∀ t, Q (.int V.pas t) { s with toks := s.toks + 1 }) : wpAny (model pw w) A (getAttr (.ref G.a) "_npassedout" true) Q E s := by
 obtain ⟨t1, t2, t3, t4, k1, k2, n, I⟩ := I_s T
 exact get_value (K.keeps k) (InstAt.hk I k) f_sga f_a3 rfl (hq _)
theorem getFin {P : Params} (K : (Kts P pw).In h) (T : TS w h G V) {s : Shared} {Q : Value -> Shared -> Prop} {E : Value -> Shared -> Prop} (k : HK h s.heap) (hq : ∀ t, Q (.int V.fin t) { s with toks := s.toks + 1 }) : wpAny (model pw w) A (getAttr (.ref G.a) "_nfinished" true) Q E s := by
 obtain ⟨t1, t2, t3, t4, k1, k2, n, I⟩ := I_s T
 exact get_value (K.keeps k) (InstAt.hk I k) f_sga f_a4 rfl (hq _)
theorem Fm.sorter {M : List Addr} {h₀ h h' : Heap} {vals : List (Option PV)} (F : Fm env X M h₀ h vals) {N : List Addr} (k : Kp N h h') (hN : ∀ b ∈ N, b ∈ G.fp) (sub : ∀ b ∈ G.fp, b ∈ X /\ b ∉ own env /\ (b ∈ M \/ h₀.get? b = none)) (ex : ∀ b ∈ G.fp, ∃ o, h'.get? b = some o) : Fm env X M h₀ h' vals :=
 F.other k (fun a ha => (sub a (hN a ha)).2.1) (fun a ha => (sub a (hN a ha)).1) (fun a ha => (sub a (hN a ha)).2.2) fun b hb => by
  by_cases hf : b ∈ N
  ·exact ex b (hN b hf)
  ·obtain ⟨o, ho⟩ := F.xb b hb; exact ⟨o, k b o hf ho⟩
set_option maxHeartbeats 1000000 in
theorem w_get_ready (T : TS w s.heap G V) (GBs : GB G.fp s.heap) (hd : A.depth + 20 < recursionLimit) (hh : A.handled = none) (hr : G.rdy = true) (hl : V.ready.length <= 200) (hord : ∀ k ∈ V.ready, k ∈ G.order) (xb : XB s.heap X) (hX : ∀ b ∈ G.fp, b ∈ X) {Q : Value -> Shared -> Prop} {E : Value -> Shared -> Prop}
  (hq : ∀ v s', Mv G.fp s s' -> TS w s'.heap G { V with np := outV V.np V.ready, ready := [], pas := V.pas + V.ready.length } -> Rep X s'.heap (.tuple (V.ready.map fun (n : Nat) => PV.int n)) v -> Q v s') :
  wpAny (model pw w) A (PySem.call (.ref 200) [.ref G.a] []) Q E s := by
 have Gr := GBs.grd
 refine wpAny_call (enter (fd := fd_get_ready pw) (body := bodyOf (inS (topS pw 33) 4)) (binds := [("self", .ref G.a)]) (ps := [.obj (.ref G.a)]) (X := X) (by lia) Gr.get_ready.1 Gr.lim Gr.get_ready.2 rfl rfl rfl rfl kd_gr nd_gr xb (RepL.cons (by unfold Rep; rfl) RepL.nil) ?_)
 intro s₁ env henv g F
 have hn : env.scope.names = (fd_get_ready pw).scope.names := by rw [henv]; rfl
 have eg : env.globals = mainGlobals := by rw [henv]; rfl
 have eb : env.builtins = builtinsNs := by rw [henv]; rfl
 have hA : (A.deeper env).handled = none := hh
 have F : Fm env (own env ++ X) G.fp s.heap s₁.heap [some (.obj (.ref G.a)), none, none, none, none, none, none, none] := { F with keep := F.keep.mono (by simp) }
 have hao : ∀ b ∈ G.fp, b ∉ own env := fun b hb q => by obtain ⟨o, e⟩ := T.ex b hb; have := F.fresh b q; rw [e] at this; cases this
 have sub : ∀ b ∈ G.fp, b ∈ own env ++ X /\ b ∉ own env /\ (b ∈ G.fp \/ s.heap.get? b = none) := fun b hb => ⟨List.mem_append_right _ (hX b hb), hao b hb, .inl hb⟩
 have T₁ := T.hk g.hk
 have GB₁ := GBs.hk g.hk
 obtain ⟨P, K₁⟩ := GB₁.grd.frag
 refine x_if (Tst.isNone (Ev.sReady K₁ T₁ (Ev.name F.toRd 0 (nm hn rfl) rfl) hr) rn_ref) fun s₂ g₂ => ?_
 rw [if_neg (by decide)]
 refine x_nil ?_
 have F₂ := F.hk g₂.hk
 have T₂ := T₁.hk g₂.hk
 have GB₂ := GB₁.hk g₂.hk
 obtain ⟨P, K₂⟩ := GB₂.grd.frag
 refine x_assign F₂ 1 (nm hn rfl) (.inl rfl) (Ev.call (Ev.glob F₂.toRd 5 (nm hn rfl) GB₂.grd.g_tuple eg eb) (EvL.cons (Ev.sReady K₂ T₂ (Ev.name F₂.toRd 0 (nm hn rfl) rfl) hr) EvL.nil) trivial (c_tuple_il F₂.xb (T₂.ready hr) (by lia))) fun s₃ m₃ F₃ => ?_
 replace F₃ : Fm env (own env ++ X) G.fp s.heap s₃.heap [some (.obj (.ref G.a)), some (.tuple (V.ready.map fun (n : Nat) => PV.int n)), none, none, none, none, none, none] := F₃
 have T₃ := T₂.kp m₃.kp hao
 obtain ⟨P, K₃⟩ := (GBs.kp F₃.keep).grd.frag
 refine x_assign F₃ 2 (nm hn rfl) (.inl rfl) (Ev.sMap K₃ T₃ (Ev.name F₃.toRd 0 (nm hn rfl) rfl)) fun s₄ m₄ F₄ => ?_
 replace F₄ : Fm env (own env ++ X) G.fp s.heap s₄.heap [some (.obj (.ref G.a)), some (.tuple (V.ready.map fun (n : Nat) => PV.int n)), some (.obj (.ref G.D)), none, none, none, none, none] := F₄
 have T₄ := T₃.kp m₄.kp hao
 refine x_forR hA F₄ 3 (nm hn rfl) (.inl rfl) G.fp (fun b hb => (sub b hb).1) T₄.ex (fun I i h => TS w h G { V with np := outV V.np (V.ready.take i) })
  (Ev.name F₄.toRd 1 (nm hn rfl) rfl) (Items.tuple _) (fun i => [some (.obj (.ref G.a)), some (.tuple (V.ready.map fun (n : Nat) => PV.int n)), some (.obj (.ref G.D)), none, none, none, none, none]) rfl ?_ ?_ ?_ ?_
 ·intro I h' k' hI
  exact T₄.hk k'
 ·intro I i h1 h2 hI kp Ti
  refine Ti.kp kp fun b hb z => ?_
  rcases List.mem_cons.mp z with rfl | z
  ·obtain ⟨o, e⟩ := T₄.ex b hb; rw [hI] at e; cases e
  ·exact hao b hb z
 ·intro I i q s₅ E' hI hq' F₅ T₅
  rw [List.getElem?_map] at hq'
  cases hni : V.ready[i]? with
  | none => rw [hni] at hq'; cases hq'
  | some k =>
  rw [hni] at hq'
  obtain rfl : PV.int k = q := by simpa using hq'
  have hk := hord k (List.mem_of_getElem? hni)
  replace F₅ : Fm env (I :: (own env ++ X)) G.fp s.heap s₅.heap [some (.obj (.ref G.a)), some (.tuple (V.ready.map fun (n : Nat) => PV.int n)), some (.obj (.ref G.D)), some (.int k), none, none, none, none] := F₅
  have GB₅ := GBs.kp F₅.keep
  refine x_setA (p := .obj (.int (-1) 1946)) (Ev.glob F₅.toRd 6 (nm hn rfl) GB₅.grd.g_NODE_OUT eg eb) (Ev.mapItem T₅ hk (Ev.name F₅.toRd 2 (nm hn rfl) rfl) (Ev.name F₅.toRd 3 (nm hn rfl) rfl)) fun v s₆ g₆ r₆ => ?_
  obtain rfl : v = .int (-1) 1946 := r₆
  obtain ⟨P, K₆⟩ := (GB₅.hk g₆.hk).grd.frag
  refine putNp K₆ (T₅.hk g₆.hk) hk fun s₇ m₇ T₇ => x_nil ?_
  have hxk : G.x k ∈ G.fp := mem_fp.mpr (.inr (.inr (.inr (.inr ⟨k, hk, .inl rfl⟩))))
  have F₇ := (F₅.hk g₆.hk).sorter m₇.kp (fun b hb => by rw [List.mem_singleton.mp hb]; exact hxk) (fun b hb => ⟨List.mem_cons_of_mem _ (sub b hb).1, (sub b hb).2⟩) T₇.ex
  refine ⟨(g₆.mv _).trans (m₇.mono fun b hb => List.mem_append_right _ (by rw [List.mem_singleton.mp hb]; exact hxk)), F₇.forget 3, ?_⟩
  show TS w s₇.heap G { V with np := outV V.np (V.ready.take (i + 1)) }
  rw [List.take_add_one, hni]
  show TS w s₇.heap G { V with np := outV V.np (V.ready.take i ++ [k]) }
  rw [outV_snoc]; exact T₇
 ·intro I s₅ hI m₅ F₅ T₅
  rw [List.length_map, List.take_length] at T₅
  have GB₅ := GBs.kp F₅.keep
  obtain ⟨P, K₅⟩ := GB₅.grd.frag
  have hrf : G.r ∈ G.fp := mem_fp.mpr (.inr (.inr (.inr (.inl ⟨hr, rfl⟩))))
  refine wpAny_execs_cons (wpAny_Expr_any (MethodCall_ ((Ev.sReady K₅ T₅ (Ev.name F₅.toRd 0 (nm hn rfl) rfl) hr) s₅ _ _ (HK.refl _) fun v s₆ g₆ r₆ => ?_) (by rfl)) (by rw [henv]; rfl) (by rfl))
  obtain rfl : v = .ref G.r := r₆
  have T₆ := T₅.hk g₆.hk
  obtain ⟨us, n, ho, hi⟩ := T₆.ready hr
  have hsz : us.size = V.ready.length := by have := hi.length; simpa using this
  refine (GM.list ho PySem.F.slot_list_clear PySem.F.type_list_clear).out _ _ ?_
  refine PySem.P.clear_list ho ?_ (by rw [hsz]; unfold sizeLine; lia)
  generalize hs7 : ({ s₆ with heap := s₆.heap.update G.r (Obj.mapSeq fun _ => #[]) } : Shared) = s₇
  have sb : Heap.SameBut G.r s₆.heap s₇.heap := by rw [<- hs7]; exact Heap.SameBut.update _ _ _
  have il : IL s₇.heap G.r [] := by rw [<- hs7]; exact ⟨#[], _, Heap.get?_update_self _ ho rfl, .nil⟩
  have T₇ := T₆.setR hr (Kp.of_same sb) il
  have F₇ := (F₅.hk g₆.hk).sorter (Kp.of_same sb) (fun b hb => by rw [List.mem_singleton.mp hb]; exact hrf) sub T₇.ex
  have GB₇ := GBs.kp F₇.keep
  obtain ⟨P, K₇⟩ := GB₇.grd.frag
  refine x_augA (X := own env ++ X) (Ev.name F₇.toRd 0 (nm hn rfl) rfl) (fun s' Q E kk hq => getPas K₇ T₇ kk hq)
   (Ev.call (Ev.glob F₇.toRd 7 (nm hn rfl) GB₇.grd.g_len eg eb) (EvL.cons (Ev.name F₇.toRd 1 (nm hn rfl) rfl) EvL.nil) trivial (c_lenTu (by rw [List.length_map]; lia))) iadd_i fun t8 s₈ g₈ => ?_
  refine putPas (K₇.keeps g₈.hk) (T₇.hk g₈.hk) fun s₉ m₉ T₉ => ?_
  rw [List.length_map] at T₉
  have hdf : G.d ∈ G.fp := mem_fp.mpr (.inr (.inl rfl))
  have F₉ := (F₇.hk g₈.hk).sorter m₉.kp (fun b hb => by rw [List.mem_singleton.mp hb]; exact hdf) sub T₉.ex
  refine x_return (Ev.name F₉.toRd 1 (nm hn rfl) rfl) fun v s' g' rv => ?_
  refine hq v s' ⟨ex_tr g.ex (ex_tr g₂.ex (ex_tr m₃.ex (ex_tr m₄.ex (ex_tr m₅.ex (ex_tr g₆.ex (ex_tr ⟨_, _, hs7.symm⟩ (ex_tr g₈.ex (ex_tr m₉.ex g'.ex)))))))), F₉.keep.trans (g'.hk.kp _)⟩ (T₉.hk g'.hk) (rv.less fun a ha => List.mem_append_right _ ha)
end
theorem nd_done : ((fd_done pw).scope.names.map (·.1)).Nodup := by decide +kernel
theorem kd_done : ∀ x ∈ (fd_done pw).scope.names.take 2, x.2 = .local \/ x.2 = .cell := by decide +kernel
theorem bind_done {s : Shared} {v1 v2 : Value} {M : Model} {A : Around} {E : Value -> Shared -> Prop} {Q : List (Str × Value) -> Shared -> Prop}
  (h : Q [(("self" : Str), v1), (("nodes" : Str), .ref s.heap.objs.size)] { s with heap := s.heap.push { cls := .type "tuple", data := .seq [v2].toArray } }) : wpAny M A (bindArgs (fd_done pw) ⟨[v1, v2], []⟩) Q E s := by
 have e : bindArgs (fd_done pw) ⟨[v1, v2], []⟩ = (newTuple [v2] >>= fun t => pure [(("self" : Str), v1), (("nodes" : Str), t)]) := by kernel_rfl
 rw [e]
 exact wpAny_bind (wpAny_newTuple (wpAny_pure h) (by show 1 <= sizeLine; decide))
noncomputable def tell (V : SV) (js : List Nat) : SV := js.foldl (fun V j => { V with np := updI V.np j (V.np j - 1), ready := if V.np j - 1 = 0 then V.ready ++ [j] else V.ready }) V
theorem tell_snoc (V : SV) (js : List Nat) (j : Nat) : tell V (js ++ [j]) = { tell V js with np := updI (tell V js).np j ((tell V js).np j - 1), ready := if (tell V js).np j - 1 = 0 then (tell V js).ready ++ [j] else (tell V js).ready } := by
 unfold tell; rw [List.foldl_append]; rfl
theorem tell_succ (V : SV) (js : List Nat) : (tell V js).succ = V.succ := by
 unfold tell
 induction js generalizing V with
 | nil => rfl
 | cons j js ih => rw [List.foldl_cons]; exact ih _
theorem tell_pf (V : SV) (js : List Nat) : (tell V js).pas = V.pas /\ (tell V js).fin = V.fin := by
 unfold tell
 induction js generalizing V with
 | nil => exact ⟨rfl, rfl⟩
 | cons j js ih => rw [List.foldl_cons]; exact ih _
theorem tell_len (V : SV) (js : List Nat) : (tell V js).ready.length <= V.ready.length + js.length := by
 unfold tell
 induction js generalizing V with
 | nil => exact Nat.le_refl _
 | cons j js ih =>
  rw [List.foldl_cons]
  refine Nat.le_trans (ih _) ?_
  dsimp only
  split
  ·rw [List.length_append, List.length_cons]; simp; lia
  ·rw [List.length_cons]; lia
noncomputable def doneV (V : SV) (k : Nat) : SV := let V1 := tell { V with np := updI V.np k (-2) } (V.succ k); { V1 with fin := V.fin + 1 }
section
variable {w : World} {A : Around} {s : Shared} {G : SG} {V : SV} {X : List Addr} {h : Heap} {env : Env}
theorem Ev.as {prog : Program} {e : Expr} {p q : PV} (x : Ev prog w A env X h e p) (hpq : ∀ X h u, Rep X h p u -> Rep X h q u) : Ev prog w A env X h e q :=
 fun s Q E k hq => x s Q E k fun v s' g r => hq v s' g (hpq _ _ _ r)
set_option maxHeartbeats 2000000 in
theorem w_done (T : TS w s.heap G V) (GBs : GB G.fp s.heap) (hd : A.depth + 20 < recursionLimit) (hh : A.handled = none) (hr : G.rdy = true) {k : Nat} {t : Tok} (hk : k ∈ G.order) (hkn : V.np k = -1) (hsu : ∀ j ∈ V.succ k, j ∈ G.order) (hl : V.ready.length + (V.succ k).length <= 1000) {Q : Value -> Shared -> Prop} {E : Value -> Shared -> Prop}
  (hq : ∀ s', Mv G.fp s s' -> TS w s'.heap G (doneV V k) -> Q .none s') :
  wpAny (model pw w) A (PySem.call (.ref 221) [.ref G.a, .int k t] []) Q E s := by
 have Gr := GBs.grd
 let U : List Addr := G.d :: G.r :: G.order.map G.x
 have hU : ∀ b ∈ U, b ∈ G.fp := fun b hb => by
  rcases List.mem_cons.mp hb with rfl | hb
  ·exact mem_fp.mpr (.inr (.inl rfl))
  ·rcases List.mem_cons.mp hb with rfl | hb
   ·exact mem_fp.mpr (.inr (.inr (.inr (.inl ⟨hr, rfl⟩))))
   ·obtain ⟨j, hj, rfl⟩ := List.mem_map.mp hb; exact mem_fp.mpr (.inr (.inr (.inr (.inr ⟨j, hj, .inl rfl⟩))))
 have hyU : ∀ j ∈ G.order, G.y j ∉ U := fun j hj z => by
  obtain ⟨_, n2, _, _, n5, n6⟩ := T.ne_y hj
  rcases List.mem_cons.mp z with e | z
  ·exact n2 e.symm
  ·rcases List.mem_cons.mp z with e | z
   ·exact n6 hr e.symm
   ·obtain ⟨i, hi, e⟩ := List.mem_map.mp z; exact (n5 i hi).1 e
 have xbU : XB s.heap U := fun b hb => T.ex b (hU b hb)
 refine wpAny_call (enterW (fd := fd_done pw) (body := bodyOf (inS (topS pw 33) 7)) (ps := [.obj (.ref G.a), .tuple ([k].map fun (n : Nat) => PV.int n)]) (X := U) ["self", "nodes"] (by lia) Gr.done.1 Gr.lim Gr.done.2 rfl rfl ?_ rfl kd_done nd_done xbU ?_)
 ·intro Q E hq
  refine bind_done (hq _ _ (Gw.push s _) rfl (RepL.cons (by unfold Rep; rfl) (RepL.cons ?_ RepL.nil)))
  unfold Rep
  refine ⟨_, 0, [Value.int k t].toArray, rfl, fun q => ?_, Heap.get?_push_size _ rfl, RepL.cons ⟨t, rfl⟩ RepL.nil⟩
  obtain ⟨o, e⟩ := xbU _ q; rw [fresh_size] at e; cases e
 intro s₁ env hsc eg0 eb0 ⟨L, hL⟩ g F
 have hn : env.scope.names = (fd_done pw).scope.names := by rw [hsc]
 have eg : env.globals = mainGlobals := by rw [eg0]; rfl
 have eb : env.builtins = builtinsNs := by rw [eb0]; rfl
 have hA : (A.deeper env).handled = none := hh
 have F : Fm env (own env ++ U) G.fp s.heap s₁.heap [some (.obj (.ref G.a)), some (.tuple ([k].map fun (n : Nat) => PV.int n)), none, none, none, none, none, none, none, none, none] := { F with keep := F.keep.mono (by simp) }
 have hao : ∀ b ∈ G.fp, b ∉ own env := fun b hb q => by obtain ⟨o, e⟩ := T.ex b hb; have := F.fresh b q; rw [e] at this; cases this
 have T₁ := T.hk g.hk
 have GB₁ := GBs.hk g.hk
 obtain ⟨P, K₁⟩ := GB₁.grd.frag
 refine x_if (Tst.isNone (Ev.sReady K₁ T₁ (Ev.name F.toRd 0 (nm hn rfl) rfl) hr) rn_ref) fun s₂ g₂ => ?_
 rw [if_neg (by decide)]
 refine x_nil ?_
 have F₂ := F.hk g₂.hk
 have T₂ := T₁.hk g₂.hk
 have GB₂ := GB₁.hk g₂.hk
 obtain ⟨P, K₂⟩ := GB₂.grd.frag
 refine x_assign F₂ 2 (nm hn rfl) (.inl rfl) (Ev.sMap K₂ T₂ (Ev.name F₂.toRd 0 (nm hn rfl) rfl)) fun s₄ m₄ F₄ => ?_
 replace F₄ : Fm env (own env ++ U) G.fp s.heap s₄.heap [some (.obj (.ref G.a)), some (.tuple ([k].map fun (n : Nat) => PV.int n)), some (.obj (.ref G.D)), none, none, none, none, none, none, none, none] := F₄
 have T₄ := T₂.kp m₄.kp hao
 have turnFm : ∀ {Y : List Addr} {h h' : Heap} {vals : List (Option PV)} {b : Addr}, Fm env Y G.fp s.heap h vals -> b ∈ U -> (∀ c ∈ U, c ∈ Y) -> Kp [b] h h' -> (∃ o, h'.get? b = some o) -> Fm env Y G.fp s.heap h' vals := fun {Y h h' vals b} F hb hY q ex =>
  F.other q (fun a ha => by rw [List.mem_singleton.mp ha]; exact hao _ (hU _ hb)) (fun a ha => by rw [List.mem_singleton.mp ha]; exact hY _ hb) (fun a ha => by rw [List.mem_singleton.mp ha]; exact .inl (hU _ hb)) fun c hc => by
   by_cases e : c = b
   ·exact e ▸ ex
   ·obtain ⟨o, ho⟩ := F.xb c hc; exact ⟨o, q c o (by simpa using e) ho⟩
 have hxU : ∀ j ∈ G.order, G.x j ∈ U := fun j hj => List.mem_cons_of_mem _ (List.mem_cons_of_mem _ (List.mem_map_of_mem hj))
 refine x_forR hA F₄ 3 (nm hn rfl) (.inl rfl) U (fun b hb => List.mem_append_right _ hb) T₄.ex (fun I i h => TS w h G (if i = 0 then V else doneV V k))
  (Ev.name F₄.toRd 1 (nm hn rfl) rfl) (Items.tuple _) (fun i => [some (.obj (.ref G.a)), some (.tuple ([k].map fun (n : Nat) => PV.int n)), some (.obj (.ref G.D)), none, none, none, none, none, none, none, none]) rfl ?_ ?_ ?_ ?_
 ·intro I h' k' hI
  exact T₄.hk k'
 ·intro I i h1 h2 hI kp Ti
  refine Ti.kp kp fun b hb z => ?_
  rcases List.mem_cons.mp z with rfl | z
  ·obtain ⟨o, e⟩ := T₄.ex b hb; rw [hI] at e; cases e
  ·exact hao b hb z
 ·intro I i q s₅ E' hI hq' F₅ T₅
  have hi0 : i = 0 := by have := (List.getElem?_eq_some_iff.mp hq').1; simp at this; exact this
  subst hi0
  obtain rfl : PV.int k = q := by simpa using hq'
  replace T₅ : TS w s₅.heap G V := T₅
  have hIf : I ∉ G.fp := fun z => by obtain ⟨o, e⟩ := T₄.ex I z; rw [hI] at e; cases e
  replace F₅ : Fm env (I :: (own env ++ U)) G.fp s.heap s₅.heap [some (.obj (.ref G.a)), some (.tuple ([k].map fun (n : Nat) => PV.int n)), some (.obj (.ref G.D)), some (.int k), none, none, none, none, none, none, none] := F₅
  have hY : ∀ c ∈ U, c ∈ I :: (own env ++ U) := fun c hc => List.mem_cons_of_mem _ (List.mem_append_right _ hc)
  refine x_ifW (wpAny_isTrue_Compare1 (wpAny_NamedExpr ((mapGet T₅ (Ev.name F₅.toRd 2 (nm hn rfl) rfl) (Ev.name F₅.toRd 3 (nm hn rfl) rfl)) s₅ _ _ (HK.refl _) fun v s₆ g₆ r₆ => ?_)) (by rfl))
  rw [if_pos hk] at r₆
  refine a_name (F₅.hk g₆.hk) 4 (nm hn rfl) (.inl rfl) r₆ fun s₇ m₇ F₇ => ?_
  obtain rfl : v = .ref (G.x k) := r₆
  have T₇ := (T₅.hk g₆.hk).kp m₇.kp hao
  refine (Ev.cnone (X := U)) s₇ _ _ (HK.refl _) fun u s₈ g₈ r₈ => ?_
  unfold Rep at r₈; subst r₈
  refine is_none_gen ?_
  rw [show (Value.ref (G.x k) == Value.none) = false from beq_eq_false_iff_ne.mpr (by intro z; cases z)]
  refine wpAny_truthy_bool ?_
  rw [if_neg (by decide)]
  refine x_nil ?_
  have F₈ := F₇.hk g₈.hk
  replace F₈ : Fm env (I :: (own env ++ U)) G.fp s.heap s₈.heap [some (.obj (.ref G.a)), some (.tuple ([k].map fun (n : Nat) => PV.int n)), some (.obj (.ref G.D)), some (.int k), some (.obj (.ref (G.x k))), none, none, none, none, none, none] := F₈
  have T₈ := T₇.hk g₈.hk
  have GB₈ := GBs.kp F₈.keep
  obtain ⟨P, K₈⟩ := GB₈.grd.frag
  refine x_assign F₈ 5 (nm hn rfl) (.inl rfl) (Ev.nNp K₈ T₈ hk (Ev.name F₈.toRd 4 (nm hn rfl) rfl)) fun s₉ m₉ F₉ => ?_
  replace F₉ : Fm env (I :: (own env ++ U)) G.fp s.heap s₉.heap [some (.obj (.ref G.a)), some (.tuple ([k].map fun (n : Nat) => PV.int n)), some (.obj (.ref G.D)), some (.int k), some (.obj (.ref (G.x k))), some (.int (V.np k)), none, none, none, none, none] := F₉
  have T₉ := T₈.kp m₉.kp hao
  have GB₉ := GBs.kp F₉.keep
  refine x_if (Tst.ints i_ne (Ev.name F₉.toRd 5 (nm hn rfl) rfl) ((Ev.glob F₉.toRd 9 (nm hn rfl) GB₉.grd.g_NODE_OUT eg eb).as (q := .int (-1)) fun X h u r => by unfold Rep at r; subst r; exact ⟨_, rfl⟩)) fun s₁₀ g₁₀ => ?_
  rw [hkn, if_neg (by decide)]
  refine x_nil ?_
  have F₁₀ := F₉.hk g₁₀.hk
  have T₁₀ := T₉.hk g₁₀.hk
  have GB₁₀ := GBs.kp F₁₀.keep
  refine x_setA (p := .obj (.int (-2) 1949)) (Ev.glob F₁₀.toRd 10 (nm hn rfl) GB₁₀.grd.g_NODE_DONE eg eb) (Ev.name F₁₀.toRd 4 (nm hn rfl) rfl) fun v s₁₁ g₁₁ r₁₁ => ?_
  obtain rfl : v = .int (-2) 1949 := r₁₁
  obtain ⟨P, K₁₁⟩ := (GB₁₀.hk g₁₁.hk).grd.frag
  refine putNp K₁₁ (T₁₀.hk g₁₁.hk) hk fun s₁₂ m₁₂ T₁₂ => ?_
  have F₁₂ := turnFm (F₁₀.hk g₁₁.hk) (hxU k hk) hY m₁₂.kp (T₁₂.ex _ (hU _ (hxU k hk)))
  have GB₁₂ := GBs.kp F₁₂.keep
  obtain ⟨P, K₁₂⟩ := GB₁₂.grd.frag
  have hykY : G.y k ∉ I :: (own env ++ U) := fun z => by
   have hyf : G.y k ∈ G.fp := mem_fp.mpr (.inr (.inr (.inr (.inr ⟨k, hk, .inr (.inl rfl)⟩))))
   rcases List.mem_cons.mp z with e | z
   ·exact hIf (e ▸ hyf)
   ·rcases List.mem_append.mp z with z | z
    ·exact hao _ hyf z
    ·exact hyU k hk z
  refine x_forR hA F₁₂ 6 (nm hn rfl) (.inl rfl) U hY T₁₂.ex (fun J i h => TS w h G (tell { V with np := updI V.np k (-2) } ((V.succ k).take i)))
   (Ev.nSuccL K₁₂ T₁₂ hk (Ev.name F₁₂.toRd 4 (nm hn rfl) rfl) hykY) (Items.list _) (fun i => [some (.obj (.ref G.a)), some (.tuple ([k].map fun (n : Nat) => PV.int n)), some (.obj (.ref G.D)), some (.int k), some (.obj (.ref (G.x k))), some (.int (V.np k)), none, none, none, none, none]) rfl ?_ ?_ ?_ ?_
  ·intro J h' k' hJ
   exact T₁₂.hk k'
  ·intro J i h1 h2 hJ kp Ti
   refine Ti.kp kp fun b hb z => ?_
   rcases List.mem_cons.mp z with rfl | z
   ·obtain ⟨o, e⟩ := T₁₂.ex b hb; rw [hJ] at e; cases e
   ·exact hao b hb z
  ·intro J i q sa E'' hJ hqa Fa Ta
   rw [List.getElem?_map] at hqa
   cases hji : (V.succ k)[i]? with
   | none =>
    have : (({ V with np := updI V.np k (-2) } : SV).succ k)[i]? = none := hji
    rw [this] at hqa; cases hqa
   | some j =>
   have hji' : (({ V with np := updI V.np k (-2) } : SV).succ k)[i]? = some j := hji
   rw [hji'] at hqa
   obtain rfl : PV.int j = q := by simpa using hqa
   have hj := hsu j (List.mem_of_getElem? hji)
   have hilt := (List.getElem?_eq_some_iff.mp hji).1
   have hYa : ∀ c ∈ U, c ∈ J :: I :: (own env ++ U) := fun c hc => List.mem_cons_of_mem _ (hY c hc)
   generalize hVi : tell { V with np := updI V.np k (-2) } ((V.succ k).take i) = Vi at Ta
   have hVlen : Vi.ready.length <= 1000 := by
    have := tell_len { V with np := updI V.np k (-2) } ((V.succ k).take i)
    rw [hVi, List.length_take] at this
    have h2 : ({ V with np := updI V.np k (-2) } : SV).ready.length = V.ready.length := rfl
    lia
   replace Fa : Fm env (J :: I :: (own env ++ U)) G.fp s.heap sa.heap [some (.obj (.ref G.a)), some (.tuple ([k].map fun (n : Nat) => PV.int n)), some (.obj (.ref G.D)), some (.int k), some (.obj (.ref (G.x k))), some (.int (V.np k)), some (.int j), none, none, none, none] := Fa
   refine x_assign Fa 7 (nm hn rfl) (.inl rfl) (Ev.mapItem Ta hj (Ev.name Fa.toRd 2 (nm hn rfl) rfl) (Ev.name Fa.toRd 6 (nm hn rfl) rfl)) fun sb mb Fb => ?_
   replace Fb : Fm env (J :: I :: (own env ++ U)) G.fp s.heap sb.heap [some (.obj (.ref G.a)), some (.tuple ([k].map fun (n : Nat) => PV.int n)), some (.obj (.ref G.D)), some (.int k), some (.obj (.ref (G.x k))), some (.int (V.np k)), some (.int j), some (.obj (.ref (G.x j))), none, none, none] := Fb
   have Tb := Ta.kp mb.kp hao
   obtain ⟨P, Kb⟩ := (GBs.kp Fb.keep).grd.frag
   refine x_augA (X := J :: I :: (own env ++ U)) (Ev.name Fb.toRd 7 (nm hn rfl) rfl) (fun s' Q E kk hq => getNp Kb Tb hj kk hq) (Ev.int) isub_i fun tc sc gc => ?_
   refine putNp (Kb.keeps gc.hk) (Tb.hk gc.hk) hj fun sd md Td => ?_
   have Fd := turnFm (Fb.hk gc.hk) (hxU j hj) hYa md.kp (Td.ex _ (hU _ (hxU j hj)))
   obtain ⟨P, Kd⟩ := (GBs.kp Fd.keep).grd.frag
   have mad : Mv (own env ++ U) sa sd := (mb.mono fun b hb => List.mem_append_left _ hb).trans ((gc.mv _).trans (md.mono fun b hb => List.mem_append_right _ (by rw [List.mem_singleton.mp hb]; exact hxU j hj)))
   refine x_if (Tst.ints i_eq (Ev.nNp Kd Td hj (Ev.name Fd.toRd 7 (nm hn rfl) rfl)) Ev.int) fun se ge => ?_
   have Fe := Fd.hk ge.hk
   have Te := Td.hk ge.hk
   obtain ⟨P, Ke⟩ := (GBs.kp Fe.keep).grd.frag
   have enp : ({ Vi with np := updI Vi.np j (Vi.np j - 1) } : SV).np j = Vi.np j - 1 := if_pos rfl
   rw [enp]
   have etell : tell { V with np := updI V.np k (-2) } ((V.succ k).take (i + 1)) = { Vi with np := updI Vi.np j (Vi.np j - 1), ready := if Vi.np j - 1 = 0 then Vi.ready ++ [j] else Vi.ready } := by
    rw [List.take_add_one, hji]
    show tell _ (List.take i (V.succ k) ++ [j]) = _
    rw [tell_snoc, hVi]
   by_cases hz : Vi.np j - 1 = 0
   ·rw [show (Vi.np j - 1 == 0) = true from beq_iff_eq.mpr hz, if_pos rfl]
    rw [if_pos hz] at etell
    have hrU : G.r ∈ U := by simp [U]
    refine x_append (p := .int j) Fe (lsOfIl (Te.ready hr)) (hYa _ hrU) (hao _ (hU _ hrU)) (.inl (hU _ hrU)) (by rw [List.length_map]; show Vi.ready.length <= sizeLine; unfold sizeLine; lia) (Ev.sReady Ke Te (Ev.name Fe.toRd 0 (nm hn rfl) rfl) hr) (Ev.name Fe.toRd 6 (nm hn rfl) rfl) (fun sf mf Ff Lf => x_nil (x_nil ?_)) rfl rfl (by rw [hL]; rfl) rfl
    have ilf : IL sf.heap G.r (Vi.ready ++ [j]) := ilOfLs (by rw [List.map_append]; exact Lf)
    refine ⟨mad.trans ((ge.mv _).trans (mf.mono fun b hb => List.mem_append_right _ (by rw [List.mem_singleton.mp hb]; exact hrU))), (Ff.forget 6).forget 7, ?_⟩
    show TS w sf.heap G (tell { V with np := updI V.np k (-2) } ((V.succ k).take (i + 1)))
    rw [etell]; exact Te.setR hr mf.kp ilf
   ·rw [show (Vi.np j - 1 == 0) = false from beq_eq_false_iff_ne.mpr hz, if_neg (by decide)]
    rw [if_neg hz] at etell
    refine x_nil (x_nil ?_)
    refine ⟨mad.trans (ge.mv _), (Fe.forget 6).forget 7, ?_⟩
    show TS w se.heap G (tell { V with np := updI V.np k (-2) } ((V.succ k).take (i + 1)))
    rw [etell]; exact Te
  ·intro J sa hJ ma Fa Ta
   have elen : ((({ V with np := updI V.np k (-2) } : SV).succ k).map fun (n : Nat) => PV.int n).length = (V.succ k).length := by rw [List.length_map]
   rw [elen, List.take_length] at Ta
   obtain ⟨P, Ka⟩ := (GBs.kp Fa.keep).grd.frag
   refine x_augA (X := I :: (own env ++ U)) (Ev.name Fa.toRd 0 (nm hn rfl) rfl) (fun s' Q E kk hq => getFin Ka Ta kk hq) (Ev.int) iadd_i fun tc sc gc => ?_
   refine putFin (Ka.keeps gc.hk) (Ta.hk gc.hk) fun sd md Td => x_nil ?_
   have hdU : G.d ∈ U := by simp [U]
   have Fd := turnFm (Fa.hk gc.hk) hdU hY md.kp (Td.ex _ (hU _ hdU))
   refine ⟨?_, ?_, ?_⟩
   ·have m1 : Mv (own env ++ U) s₅ s₁₂ := (g₆.mv _).trans ((m₇.mono fun b hb => List.mem_append_left _ hb).trans ((g₈.mv _).trans ((m₉.mono fun b hb => List.mem_append_left _ hb).trans ((g₁₀.mv _).trans ((g₁₁.mv _).trans (m₁₂.mono fun b hb => List.mem_append_right _ (by rw [List.mem_singleton.mp hb]; exact hxU k hk)))))))
    exact m1.trans (ma.trans ((gc.mv _).trans (md.mono fun b hb => List.mem_append_right _ (by rw [List.mem_singleton.mp hb]; exact hdU))))
   ·exact ((Fd.forget 3).forget 4).forget 5
   ·show TS w sd.heap G (doneV V k)
    have e1 : (tell { V with np := updI V.np k (-2) } (V.succ k)).fin = V.fin := (tell_pf _ _).2
    unfold doneV
    dsimp only
    rw [e1] at Td; exact Td
 ·intro I s₅ hI m₅ F₅ T₅
  refine x_nil ?_
  refine hq s₅ ⟨ex_tr g.ex (ex_tr g₂.ex (ex_tr m₄.ex m₅.ex)), F₅.keep⟩ T₅
end
def IterW (prog : Program) (w : World) (A : Around) (env : Env) (X : List Addr) (h : Heap) (iter : Expr) (its : List PV) : Prop :=
 ∀ (s : Shared) (Q : Value -> Shared -> Prop) (E : Value -> Shared -> Prop), HK h s.heap -> (∀ v s₁, Gw s s₁ -> (∀ (Q' : Value -> Shared -> Prop) (E' : Value -> Shared -> Prop), (∀ (I : Addr) (fp : List Addr) (n : Nat) (P : Nat -> Value -> Prop) (St : Nat -> Heap -> Prop) (s₂ : Shared), Gw s₁ s₂ -> n = its.length -> (∀ A' : Around, A'.handled = none -> Walks prog w A' I fp [I] n P St) -> St 0 s₂.heap -> (∃ o, s₂.heap.get? I = some o) ->
   (∀ i u, i < n -> P i u -> ∃ q, its[i]? = some q /\ Rep X s₁.heap q u) -> s₁.heap.get? I = none -> (∀ b ∈ fp, b = I \/ (b ∉ X /\ ∃ o, s₁.heap.get? b = some o)) -> (∀ b ∈ fp, b < s₂.heap.objs.size) -> (∀ i h, St i h -> ∃ o, h.get? I = some o) -> Q' (.ref I) s₂) -> wpAny (model prog w) A (pyIter v) Q' E' s₁) -> Q v s₁) -> wpAny (model prog w) A (eval iter env) Q E s
section
variable {prog : Program} {w : World} {A : Around} {E : Value -> Shared -> Prop} {s : Shared} {X : List Addr} {env : Env} {h : Heap}
theorem evG_comp {s : Shared} {vals : List (Option PV)} (r : Rd env X h vals) (hh : A.handled = none) {elt iter : Expr} {x : Str} {px pos : Pos} {ifs : List Expr} {scope : Scope} {its : List PV} (li : Nat) (jm : List (Nat × Nat)) (f : PV -> PV) (pr : PV -> Bool) {Q : Value -> Shared -> Prop}
  (ok : CompOk scope.names env.scope.names vals li x jm) (hkind : scope.kind = .function)
  (ev : IterW prog w A env X h iter its) (hfl : ∀ q ∈ its, Flat q) (hn : its.length <= sizeLine) (hff : ∀ q ∈ its, pr q = true -> Flat (f q))
  (tests : ∀ q ∈ its, ∀ (en : Env) (h' : Heap), en.scope.names = relN scope.names -> en.globals = env.globals -> en.builtins = env.builtins -> HK h h' -> Rd en X h' (cvals scope.names.length li jm vals q) -> TstAll prog w A en h' ifs (pr q))
  (elts : ∀ q ∈ its, pr q = true -> ∀ (en : Env) (h' : Heap), en.scope.names = relN scope.names -> en.globals = env.globals -> en.builtins = env.builtins -> HK h h' -> Rd en X h' (cvals scope.names.length li jm vals q) -> Ev prog w A en X h' elt (f q))
  (k : HK h s.heap) (hq : ∀ D s', Gw s s' -> s.heap.get? D = none -> (∀ Y, D ∉ Y -> Rep Y s'.heap (.list ((its.filter pr).map f)) (.ref D)) -> Q (.ref D) s')
  (hs : ∀ x, foldedSetIterable iter env x = pure x := by intro _; rfl) :
  wpAny (model prog w) A (eval (.ListComp elt [⟨.Name x px, iter, ifs, 0⟩] scope pos) env) Q E s := by
 exact evL_comp r hh li jm f pr ok hkind (fun s Q E k hq => ev s Q E k fun v s₁ g hI => hq v s₁ g fun Q' E' hI' => hI Q' E' fun I fp n P St s₂ g₂ hn W hst hex hP hfr _ hlt hStI => hI' I fp n P St s₂ g₂ hn W hst hex hP hfr hlt hStI) hfl hn hff tests elts k hq hs
end
theorem nd_prep : ((fd_prepare pw).scope.names.map (·.1)).Nodup := by decide +kernel
theorem kd_prep : ∀ x ∈ (fd_prepare pw).scope.names.take 1, x.2 = .local \/ x.2 = .cell := by decide +kernel
section
variable {w : World} {A : Around} {s : Shared} {G : SG} {V : SV} {X : List Addr} {h : Heap} {env : Env}
theorem iter_values {P : Params} (K : (Kts P pw).In h) (T : TS w h G V) (xb : XB h X) (hD : G.D ∉ X) {value : Expr} {apos vpos pos : Pos} {pl : Sem Bool} (e : Ev pw w A env X h value (.obj (.ref G.a))) (hb : attributeBase value "_node2info" env (eval value env) = eval value env := by rfl)
  (he : eval (.Call (.Attribute (.Attribute value "_node2info" apos) "values" vpos) [] [] pos) env = (do
   let ov <- eval (.Attribute value "_node2info" apos) env
   standAt vpos.atName
   let (f, first) <- holding [ov] (getMethod ov "values" pl)
   callWith pos f first (backTo pos (starEach [] env)) []) := by rfl) :
  IterW pw w A env X h (.Call (.Attribute (.Attribute value "_node2info" apos) "values" vpos) [] [] pos) (G.order.map fun k => PV.obj (.ref (G.x k))) := by
 intro s Q E k hq
 refine MethodCall_ ((Ev.sMap K T e hb) s _ _ k fun v s₁ g r => ?_) he
 obtain rfl : v = .ref G.D := r
 have d : s₁.heap.DictOf (intKind pw w) G.D _ := DictOf.at_ T.map fun o e => g.hk _ o (k _ o e)
 refine getMethod_builtin d.typeIs PySem.F.plainAttrs_dict PySem.F.slot_dict_values PySem.F.type_dict_values d.mapOf.noDict ?_
 refine callWith_plain rfl trivial (evalArgs_L (X := X) EvL.nil rfl (HK.refl _) fun vs s₂ g₂ r₂ => ⟨g₂.hk, ?_⟩)
 unfold RepL at r₂; subst r₂
 have d₂ : s₂.heap.DictOf (intKind pw w) G.D _ := DictOf.at_ d fun o => g₂.hk _ o
 refine call_meetsIn PySem.F.slot_dict_values d₂.typeIs PySem.F.entry_dict_values (PySem.F.args_dict_values_1 _) (meets_dict_values (intKind pw w) G.D T.dn) ⟨⟨_, d₂⟩, ?_⟩
 refine hq _ _ ((g.trans g₂).trans (Gw.push s₂ _)) fun Q' E' hI => ?_
 generalize hs3 : ({ s₂ with heap := s₂.heap.push { cls := .type "dict_values", data := .fields #[.ref G.D] } } : Shared) = s₃ at hI ⊢
 have k23 : HK s₂.heap s₃.heap := by rw [<- hs3]; exact (Gw.push s₂ _).hk
 have hv : s₃.heap.IsValuesView s₂.heap.objs.size G.D := by rw [<- hs3]; exact ⟨_, Heap.get?_push_size _ rfl, rfl, rfl⟩
 have d₃ : s₃.heap.DictOf (intKind pw w) G.D _ := DictOf.at_ d₂ fun o => k23 _ o
 obtain ⟨ep, at3⟩ := d₃.dictAt
 have hDs : G.D < s₃.heap.objs.size := let ⟨_, _, e, _⟩ := at3; Heap.lt_size e
 have hne : G.D ≠ s₃.heap.objs.size := Nat.ne_of_lt hDs
 refine wpAny_pyIter_values hv at3 (hI _ [s₃.heap.objs.size, G.D] _ _ _ _ (Gw.push s₃ _) rfl (fun A' hA => by rw [List.length_map, <- List.length_map (f := fun (k : Nat) => ((k : Int), Value.ref (G.x k)))]; exact Walks.dictValues (knd := intKind pw w) hA s₃.heap.objs.size G.D hne (G.order.map fun (k : Nat) => ((k : Int), Value.ref (G.x k))) ep) ?_ ⟨_, Heap.get?_push_size _ rfl⟩ ?_ (fresh_size _) ?_ ?_ ?_)
 ·exact ⟨⟨_, Heap.get?_push_size _ rfl, rfl, rfl⟩, let ⟨o, es, ho, r⟩ := at3; ⟨o, es, Heap.get?_push_of_some _ ho, r⟩⟩
 ·rintro i u hi ⟨kk, hu⟩
  rw [List.getElem?_map] at hu ⊢
  cases ho : G.order[i]? with
  | none => rw [ho] at hu; cases hu
  | some j =>
   rw [ho] at hu
   simp only [Option.map_some, Option.some.injEq, Prod.mk.injEq] at hu
   exact ⟨_, rfl, by unfold Rep; exact hu.2.symm⟩
 ·intro b hb
  simp at hb
  rcases hb with rfl | rfl
  ·exact .inl rfl
  ·exact .inr ⟨hD, let ⟨o, _, e, _⟩ := at3; ⟨o, e⟩⟩
 ·intro b hb
  simp at hb
  show b < (s₃.heap.push _).objs.size
  rw [Heap.size_push]
  rcases hb with rfl | rfl
  ·exact Nat.lt_succ_self _
  ·exact Nat.lt_succ_of_lt hDs
 ·rintro i h ⟨⟨o, e, _⟩, _⟩; exact ⟨o, e⟩
end
end
noncomputable abbrev mwObj (J : Addr) : Obj := { cls := .type "method-wrapper", data := .fields #[.builtin "list_iterator.__next__", .ref J] }
namespace LI
theorem typ_next : typeOf (.builtin "list_iterator.__next__") = pure (.type "wrapper_descriptor") := by show builtinType _ = _; rw [builtinType_eq_fast]; kernel_rfl
theorem slot_ga : Slot "list_iterator" "__getattribute__" "object.__getattribute__" :=
 .of (owner := "object") (n := "__getattribute__") (by rw [typeLookup_type, builtinLookup_eq_fast]; kernel_rfl) (by decide +kernel) (by decide +kernel) (by decide +kernel)
  (by first | exact .inl (by decide +kernel) | exact .inr (by decide +kernel)) (by rw [isSubtype_type]; kernel_rfl)
theorem args_ga (a b : Value) : argsOk "object.__getattribute__" ⟨[a, b], []⟩ := by unfold argsOk; kernel_rfl
theorem entry_ga : entryFor table "object.__getattribute__" = some Builtin.«object.__getattribute__» := entryFor_of_tree (by kernel_rfl)
theorem no_getattr : typeLookup (.type "list_iterator") "__getattr__" = pure none := by rw [typeLookup_type, builtinLookup_eq_fast]; kernel_rfl
theorem slot_wd : Slot "wrapper_descriptor" "__get__" "wrapper_descriptor.__get__" :=
 .of (owner := "wrapper_descriptor") (n := "__get__") (by rw [typeLookup_type, builtinLookup_eq_fast]; kernel_rfl) (by decide +kernel) (by decide +kernel) (by decide +kernel)
  (by first | exact .inl (by decide +kernel) | exact .inr (by decide +kernel)) (by rw [isSubtype_type]; kernel_rfl)
theorem args_wd (a b c : Value) : argsOk "wrapper_descriptor.__get__" ⟨[a, b, c], []⟩ := by unfold argsOk; kernel_rfl
theorem entry_wd : entryFor table "wrapper_descriptor.__get__" = some Builtin.«wrapper_descriptor.__get__» := entryFor_of_tree (by kernel_rfl)
theorem no_set : typeLookup (.type "wrapper_descriptor") "__set__" = pure none := by rw [typeLookup_type, builtinLookup_eq_fast]; kernel_rfl
theorem no_del : typeLookup (.type "wrapper_descriptor") "__delete__" = pure none := by rw [typeLookup_type, builtinLookup_eq_fast]; kernel_rfl
theorem owner_li : (".".intercalate ("list_iterator.__next__".cutAt '.').dropLast) = "list_iterator" := by
 have e0 : "list_iterator.__next__".cutAt '.' = ["list_iterator", "__next__"] := by first | rfl | decide +kernel
 rw [e0]; first | rfl | decide +kernel
theorem check_next {J : Addr} : checkBoundCall "list_iterator.__next__" ⟨[.ref J], []⟩ = pure () := by first | kernel_rfl | rfl
theorem sub_li : isSubtype (.type "list_iterator") (.type (".".intercalate ("list_iterator.__next__".cutAt '.').dropLast)) = pure true := by
 rw [owner_li, isSubtype_type]; kernel_rfl
section
variable {prog : Program} {w : World} {A : Around} {E : Value -> Shared -> Prop} {h : Heap} {g : Array GenState} {d : Drawn} {t : Nat} {os : OsState} {a : Addr} {o : Obj}
theorem get_wd {R : Result -> Shared -> Prop} (hx : h.get? a = some o) (hc : o.cls = .type "list_iterator") (hq : R (.ok (.ret (.ref h.objs.size))) ⟨h.push (mwObj a), g, d, t, os⟩) :
  codeAny (model prog w) A (.call (.builtin "wrapper_descriptor.__get__") ⟨[.builtin "list_iterator.__next__", .ref a, .type "list_iterator"], []⟩) R ⟨h, g, d, t, os⟩ := by
 have hT : (⟨h, g, d, t, os⟩ : Shared).TypeIs (.ref a) "list_iterator" := ⟨_, hx, hc⟩
 have hT5 : (⟨h, g, d, t, os⟩ : Shared).TypeIs (.builtin "list_iterator.__next__") "wrapper_descriptor" := typ_next
 have f8 := sub_li
 refine codeAny_call_builtin slot_wd.plain entry_wd (slot_wd.check _ _ _ _ _ _ _ _ hT5 (args_wd _ _ _) ?_)
 unfold Builtin.«wrapper_descriptor.__get__»
 repeat (any_goals (first | assumption | wp_step))
theorem entry_next {tk : Tok} {vs : Array Value} {Q : Fin -> Shared -> Prop} (hx : h.get? a = some o) (hc : o.cls = .type "list_iterator") (hdt : o.data = .fields vs) (hdi : o.dict = none) (hq : Q (.done (.ret (.ref h.objs.size))) ⟨h.push (mwObj a), g, d, t, os⟩) :
  wpAny (model prog w) A (Builtin.«object.__getattribute__» ⟨[.ref a, .str "__next__" tk], []⟩) Q E ⟨h, g, d, t, os⟩ := by
 have hT : (⟨h, g, d, t, os⟩ : Shared).TypeIs (.ref a) "list_iterator" := ⟨_, hx, hc⟩
 have hT5 : (⟨h, g, d, t, os⟩ : Shared).TypeIs (.builtin "list_iterator.__next__") "wrapper_descriptor" := typ_next
 have f4 := slot_listiter_next.lookup
 have f5 := typ_next
 have f6 := slot_wd.lookup
 have f7 := no_set
 have f8 := no_del
 repeat (any_goals (first | assumption | wp_step))
 rw [hdt]
 dsimp only
 unfold instanceDict
 repeat (any_goals (first | assumption | wp_step))
 rw [hc]
 repeat (any_goals (first | assumption | wp_step))
 rw [hdi]
 repeat (any_goals (first | assumption | wp_step))
 exact get_wd hx hc (wpAny_pure hq)
theorem call_ga {tk : Tok} {vs : Array Value} {R : Result -> Shared -> Prop} (hx : h.get? a = some o) (hc : o.cls = .type "list_iterator") (hdt : o.data = .fields vs) (hdi : o.dict = none) (hq : R (.ok (.ret (.ref h.objs.size))) ⟨h.push (mwObj a), g, d, t, os⟩) :
  codeAny (model prog w) A (.call (.builtin "object.__getattribute__") ⟨[.ref a, .str "__next__" tk], []⟩) R ⟨h, g, d, t, os⟩ :=
 codeAny_call_builtin slot_ga.plain entry_ga (slot_ga.check _ _ _ _ _ _ _ _ (show (⟨h, g, d, t, os⟩ : Shared).TypeIs (.ref a) "list_iterator" from ⟨_, hx, hc⟩) (args_ga _ _) (entry_next hx hc hdt hdi hq))
theorem get_next {s : Shared} {vs : Array Value} {Q : Value -> Shared -> Prop} (hx : s.heap.get? a = some o) (hc : o.cls = .type "list_iterator") (hdt : o.data = .fields vs) (hdi : o.dict = none)
  (hq : Q (.ref s.heap.objs.size) { s with heap := s.heap.push (mwObj a), toks := s.toks + 1 }) : wpAny (model prog w) A (getAttr (.ref a) "__next__" true) Q E s := by
 obtain ⟨h, g, d, t, os⟩ := s
 have hT : ∀ tk', (⟨h, g, d, tk', os⟩ : Shared).TypeIs (.ref a) "list_iterator" := fun _ => ⟨_, hx, hc⟩
 have f2 := slot_ga.lookup
 have f3 := slot_ga.bind (.ref a)
 have f4 := no_getattr
 unfold getAttr getAttrBy
 repeat (any_goals (first | assumption | exact hT _ | wp_step))
 rw [hc]
 repeat (any_goals (first | assumption | exact hT _ | wp_step))
 refine call_ga hx hc hdt hdi ?_
 repeat (any_goals (first | assumption | exact hT _ | wp_step))
theorem call_item {s : Shared} {W J y : Addr} {i : Nat} {items : Array Value} {x : Value} {Q : Value -> Shared -> Prop} (hW : s.heap.get? W = some (mwObj J)) (hit : s.heap.IsListIter J y i) (hl : s.heap.IsList y items) (hx : items[i]? = some x)
  (hQ : ∀ h', h'.IsListIter J y (i + 1) -> Heap.SameBut J s.heap h' -> Q x { s with heap := h' }) : wpAny (model prog w) A (call (.ref W) []) Q E s := by
 obtain ⟨o, ho, hc, hd⟩ := id hit
 obtain ⟨ol, hol, _, nl, hdl⟩ := hl
 refine wpAny_call (codeAny_of_tree ?_)
 show wpAny _ A.in1 (callAny (.ref W) ⟨[], []⟩) _ _ s
 simp only [callAny]
 refine wpAny_bind (wpAny_load hW ?_)
 simp only [show (Value.type "method-wrapper" == Value.type "method" || Value.type "method-wrapper" == Value.type "builtin_function_or_method" || Value.type "method-wrapper" == Value.type "method-wrapper") = true by decide, if_true]
 show wpAny _ _ (if (Value.type "method-wrapper" != Value.type "method") = true then do checkBoundCall "list_iterator.__next__" ⟨[.ref J], []⟩; again (Code.builtin "list_iterator.__next__" ⟨[.ref J], []⟩) else _) _ _ _
 rw [if_pos (by decide)]
 refine wpAny_bind (wpAny_of_eq (a := ()) check_next ?_)
 refine wpAny_pure ⟨Code.quiet_builtin _ (by decide +kernel), codeAny_builtin entry_listiter_next ?_⟩
 show wpAny _ _ (field (.ref J) 0 >>= _) _ _ s
 refine wpAny_bind (wpAny_field ho hd (x := .ref y) rfl ?_)
 show wpAny _ _ (if (Value.ref y == Value.none) = true then _ else _) _ _ s
 rw [if_neg (show ¬ ((Value.ref y == Value.none) = true) from Bool.false_ne_true)]
 show wpAny _ _ (field (.ref J) 1 >>= _) _ _ s
 refine wpAny_bind (wpAny_field ho hd (x := .int i 0) rfl ?_)
 show wpAny _ _ (seqItems? (.ref y) >>= _) _ _ s
 refine wpAny_bind (wpAny_seqItems hol hdl ?_)
 simp only [Int.toNat_natCast, hx]
 refine wpAny_bind (wpAny_setField ho hd (by simp) (wpAny_pure (hQ _ ?_ (Heap.SameBut.update ..))))
 exact ⟨_, Heap.get?_update_self _ ho (Obj.isFreed_of_fields (Obj.data_mapFields hd _)), (Obj.cls_mapFields ..).trans hc, by
  rw [Obj.data_mapFields hd]; simp [rawInt]⟩
theorem call_end {s : Shared} {W J y : Addr} {i : Nat} {items : Array Value} {Q : Value -> Shared -> Prop} (hh : A.handled = none) (hW : s.heap.get? W = some (mwObj J)) (hit : s.heap.IsListIter J y i) (hl : s.heap.IsList y items) (hx : items[i]? = none)
  (hQ : ∀ h' e vs, Heap.ExtBut J s.heap h' -> (∃ o, h'.get? J = some o /\ o.cls = .type "list_iterator") -> s.heap.get? e = none -> h'.get? e = some { cls := .type "StopIteration", data := .fields vs } -> vs[1]? = some .none -> E (.ref e) { s with heap := h' }) : wpAny (model prog w) A (call (.ref W) []) Q E s := by
 obtain ⟨o, ho, hc, hd⟩ := id hit
 obtain ⟨ol, hol, _, nl, hdl⟩ := hl
 refine wpAny_call (codeAny_of_tree ?_)
 show wpAny _ A.in1 (callAny (.ref W) ⟨[], []⟩) _ _ s
 simp only [callAny]
 refine wpAny_bind (wpAny_load hW ?_)
 simp only [show (Value.type "method-wrapper" == Value.type "method" || Value.type "method-wrapper" == Value.type "builtin_function_or_method" || Value.type "method-wrapper" == Value.type "method-wrapper") = true by decide, if_true]
 show wpAny _ _ (if (Value.type "method-wrapper" != Value.type "method") = true then do checkBoundCall "list_iterator.__next__" ⟨[.ref J], []⟩; again (Code.builtin "list_iterator.__next__" ⟨[.ref J], []⟩) else _) _ _ _
 rw [if_pos (by decide)]
 refine wpAny_bind (wpAny_of_eq (a := ()) check_next ?_)
 refine wpAny_pure ⟨Code.quiet_builtin _ (by decide +kernel), codeAny_builtin entry_listiter_next ?_⟩
 show wpAny _ _ (field (.ref J) 0 >>= _) _ _ s
 refine wpAny_bind (wpAny_field ho hd (x := .ref y) rfl ?_)
 show wpAny _ _ (if (Value.ref y == Value.none) = true then _ else _) _ _ s
 rw [if_neg (show ¬ ((Value.ref y == Value.none) = true) from Bool.false_ne_true)]
 show wpAny _ _ (field (.ref J) 1 >>= _) _ _ s
 refine wpAny_bind (wpAny_field ho hd (x := .int i 0) rfl ?_)
 show wpAny _ _ (seqItems? (.ref y) >>= _) _ _ s
 refine wpAny_bind (wpAny_seqItems hol hdl ?_)
 simp only [Int.toNat_natCast, hx]
 refine wpAny_bind (wpAny_rule (wpAny_bind (wpAny_setField ho hd (by simp) ?_)))
 show wpAny _ _ (newExc (.type "StopIteration") [] >>= _) _ _ _
 refine wpAny_bind ?_
 simp only [newExc, newTuple]
 refine wpAny_bind (wpAny_newObj_type ?_ (by size_fits))
 refine wpAny_bind (m := firstArgMember _ _) (wpAny_of_eq (a := Value.none) (by first | rfl | (simp only [firstArgMember]; rfl)) ?_)
 refine wpAny_newObj_type ?_ (by size_fits)
 simp only [raiseNew]
 refine wpAny_bind (wpAny_handled ?_)
 rw [show (A.under (Code.builtin "list_iterator.__next__" { pos := [Value.ref J] })).handled = none from hh]
 refine wpAny_bind (wpAny_pure (wpAny_throw ?_))
 have hsz : (s.heap.update J (Obj.mapFields fun x => x.setIfInBounds 0 Value.none)).objs.size = s.heap.objs.size := (Heap.SameBut.update s.heap J _).1
 refine hQ _ _ _ (((Heap.SameBut.update ..).extBut.push _).push _) ⟨_, Heap.get?_push_of_some _ (Heap.get?_push_of_some _ (Heap.get?_update_self _ ho (Obj.isFreed_of_fields (Obj.data_mapFields hd _)))), (Obj.cls_mapFields ..).trans hc⟩ ?_ (Heap.get?_push_size _ rfl) rfl
 cases q : s.heap.get? ((s.heap.update J (Obj.mapFields fun x => x.setIfInBounds 0 Value.none)).push { cls := Value.type "tuple", data := Data.seq #[] }).objs.size with
 | none => rfl
 | some o =>
  have := Heap.lt_size q
  rw [Heap.size_push, hsz] at this
  exact absurd this (Nat.not_lt.mpr (Nat.le_succ _))
end
end LI
section
def DKp (X : List Addr) (h h' : Heap) : Prop := ∀ b o, b ∉ X -> (o.cls = .type "list" \/ o.cls = .type "tuple" \/ o.cls = .type "range") -> h.get? b = some o -> h'.get? b = some o
mutual
theorem Rep.dkp {X : List Addr} {h h' : Heap} (k : DKp X h h') : ∀ {p : PV} {v : Value}, Rep X h p v -> Rep X h' p v
 | .none, _, x => x
 | .bool _, _, x => x
 | .int _, _, x => x
 | .str _, _, x => x
 | .bytes _, _, x => x
 | .obj _, _, x => x
 | .list xs, _, x => by
  unfold Rep at x ⊢
  obtain ⟨a, n, vs, e, ha, ho, r⟩ := x
  exact ⟨a, n, vs, e, ha, k a _ ha (.inl rfl) ho, RepL.dkp k r⟩
 | .tuple xs, _, x => by
  unfold Rep at x ⊢
  obtain ⟨a, n, vs, e, ha, ho, r⟩ := x
  exact ⟨a, n, vs, e, ha, k a _ ha (.inr (.inl rfl)) ho, RepL.dkp k r⟩
 | .rng _ _, _, x => by
  unfold Rep at x ⊢
  obtain ⟨r, t, u, z, e, ha, ho⟩ := x
  exact ⟨r, t, u, z, e, ha, k r _ ha (.inr (.inr rfl)) ho⟩
theorem RepL.dkp {X : List Addr} {h h' : Heap} (k : DKp X h h') : ∀ {ps : List PV} {vs : List Value}, RepL X h ps vs -> RepL X h' ps vs
 | [], _, x => by unfold RepL at x ⊢; exact x
 | p :: ps, _, x => by
  unfold RepL at x ⊢
  obtain ⟨v, r, e, a, b⟩ := x
  exact ⟨v, r, e, Rep.dkp k a, RepL.dkp k b⟩
end
section
variable {env : Env} {X M : List Addr} {h₀ h h' : Heap} {vals : List (Option PV)}
theorem Fm.shift (F : Fm env X M h₀ h vals) (dk : DKp X h h') (ow : ∀ b ∈ own env, ∀ o, h.get? b = some o -> ∃ sl, h'.get? b = some { o with slots := sl }) (keep : Kp M h₀ h') (xb : XB h' X) : Fm env X M h₀ h' vals where
 kind := F.kind
 nodup := F.nodup
 rd := fun i x k pv e1 e2 => by
  obtain ⟨v, a, b⟩ := F.rd i x k pv e1 e2
  refine ⟨v, ?_, Rep.dkp dk b⟩
  rcases a with ⟨e, m, ⟨o, es, ep, ho, r⟩, hm⟩ | ⟨e, c, l, o, ho, hd⟩
  ·obtain ⟨sl, ho'⟩ := ow _ List.mem_cons_self o ho
   exact .inl ⟨e, m, ⟨_, es, ep, ho', r⟩, hm⟩
  ·obtain ⟨sl, ho'⟩ := ow _ (mem_own_of_lookup l) o ho
   exact .inr ⟨e, c, l, _, ho', hd⟩
 xb := xb
 ns := by
  obtain ⟨m, o, es, ep, ho, r⟩ := F.ns
  obtain ⟨sl, ho'⟩ := ow _ List.mem_cons_self o ho
  exact ⟨m, _, es, ep, ho', r⟩
 cl := fun x e => by
  obtain ⟨c, ov, a, o, ho, hd⟩ := F.cl x e
  obtain ⟨sl, ho'⟩ := ow _ (mem_own_of_lookup a) o ho
  exact ⟨c, ov, a, _, ho', hd⟩
 cs := fun x c e => by
  obtain ⟨ov, o, ho, hd⟩ := F.cs x c e
  obtain ⟨sl, ho'⟩ := ow _ (mem_own_of_lookup e) o ho
  exact ⟨ov, _, ho', hd⟩
 apart := F.apart
 lc := F.lc
 ox := F.ox
 keep := keep
 fresh := F.fresh
structure Tn (fs : List Addr) (h h' : Heap) : Prop where
 kp : Kp fs h h'
 sl : ∀ b o, h.get? b = some o -> ∃ sl, h'.get? b = some { o with slots := sl }
theorem Tn.hk {fs : List Addr} {h h' : Heap} (k : HK h h') : Tn fs h h' := ⟨k.kp _, fun b o e => ⟨o.slots, k b o e⟩⟩
theorem Tn.trans {fs : List Addr} {a b c : Heap} (x : Tn fs a b) (y : Tn fs b c) : Tn fs a c := ⟨x.kp.trans y.kp, fun d o e => let ⟨s1, e1⟩ := x.sl d o e; let ⟨s2, e2⟩ := y.sl d _ e1; ⟨s2, e2⟩⟩
theorem Tn.then {fs N : List Addr} {a b c : Heap} (x : Tn fs a b) (k : Kp N b c) (hN : ∀ d ∈ N, a.get? d = none) : Tn fs a c :=
 ⟨fun d o hd e => k d o (fun z => by rw [hN d z] at e; cases e) (x.kp d o hd e), fun d o e => let ⟨s1, e1⟩ := x.sl d o e; ⟨s1, k d _ (fun z => by rw [hN d z] at e; cases e) e1⟩⟩
end
noncomputable abbrev framesOf (l : List Env) : List Addr := l.filterMap (·.frame)
def FF (h : Heap) (l : List Env) : Prop := h.FunFrames default l
section
variable {M : Model} {A : Around} {E : Value -> Shared -> Prop} {s : Shared}
theorem land {env : Env} {outer : List Env} {L e : Addr} {vs : Array Value} {Q : Unit -> Shared -> Prop} (hfr : A.frames = some (env :: outer)) (hl : FF s.heap (env :: outer)) (hf : env.frame = some L)
  (he : s.heap.get? e = some { cls := .type "StopIteration", data := .fields vs }) (h1 : vs[1]? = some .none)
  (h : ∀ h' tb vs' tvs, (∀ b o, b ≠ e -> s.heap.get? b = some o -> (b ∉ framesOf (env :: outer) -> h'.get? b = some o) /\ ∃ sl, h'.get? b = some { o with slots := sl }) -> h'.get? e = some { cls := .type "StopIteration", data := .fields vs' } -> vs'[1]? = some (.ref tb) -> s.heap.get? tb = none -> tb ≠ e -> h'.get? tb = some { cls := .type "traceback", data := .fields tvs } -> 3 < tvs.size -> Q () { s with heap := h' }) :
  wpAny M A (noteFrame (.ref e) env) (fun _ s₂ => wpAny M A (setFlight (.ref e) none) Q E s₂) E s := by
 have hene : e ∉ framesOf (env :: outer) := fun hm => by
  obtain ⟨_, o, ho, hnf⟩ := hl.mem hm
  rw [he] at ho; injection ho with ho; subst ho; exact hnf vs rfl
 unfold noteFrame
 simp only [hf]
 refine wpAny_bind (wpAny_field he rfl h1 ?_)
 rw [if_neg (by decide)]
 refine wpAny_bind (wpAny_frameOf_fun hfr hl hf fun h₁ hs₁ => ?_)
 refine wpAny_bind (wpAny_entryPlaceOf fun pl hpl => ?_)
 unfold EntryCells.newEntry newFields
 refine wpAny_bind (wpAny_newObj_type ?_ (hpl.sizeOk5 _ _ _ _ _))
 have he₁ : h₁.get? e = some { cls := .type "StopIteration", data := .fields vs } := (hs₁.2.1 e hene).trans he
 generalize hT : ([Value.none, .ref L, .none, rawInt L, .none] ++ (if pl.isEmpty then List.replicate 6 Value.none else pl)).toArray = tv
 have he₂ := Heap.get?_push_of_some (h := h₁) { cls := .type "traceback", dict := none, data := .fields tv } he₁
 have hsz : 1 < vs.size := (Array.getElem?_eq_some_iff.mp h1).1
 refine wpAny_setField he₂ rfl hsz ?_
 have hTe : h₁.objs.size ≠ e := Nat.ne_of_gt (Heap.lt_size he₁)
 have he₃ := Heap.get?_update_self (Obj.mapFields (·.setIfInBounds 1 (Value.ref h₁.objs.size))) he₂ rfl
 have hT₃ := (Heap.get?_update_other (h₁.push { cls := .type "traceback", dict := none, data := .fields tv }) (Obj.mapFields (·.setIfInBounds 1 (Value.ref h₁.objs.size))) (Ne.symm hTe)).trans (Heap.get?_push_size h₁ rfl)
 have h1' : (vs.setIfInBounds 1 (Value.ref h₁.objs.size))[1]? = some (.ref h₁.objs.size) := by simp [hsz]
 have htsz : 3 < tv.size := by rw [<- hT]; simp
 refine wpAny_setFlight_none he₃ rfl h1' hT₃ rfl htsz ?_
 have htb : s.heap.get? h₁.objs.size = none := by
  cases q : s.heap.get? h₁.objs.size with
  | none => rfl
  | some o => have := Heap.lt_size q; rw [<- hs₁.1] at this; exact absurd this (Nat.lt_irrefl _)
 refine h _ h₁.objs.size _ (tv.setIfInBounds 3 .none) (fun b o hbe hb => ?_) ?_ h1' htb hTe ?_ (by simpa using htsz)
 ·have hbT : b ≠ h₁.objs.size := by rintro rfl; rw [htb] at hb; cases hb
  have step : ∀ o', h₁.get? b = some o' -> (((h₁.push { cls := .type "traceback", dict := none, data := .fields tv }).update e (Obj.mapFields (·.setIfInBounds 1 (Value.ref h₁.objs.size)))).update h₁.objs.size (Obj.mapFields (·.setIfInBounds 3 .none))).get? b = some o' := fun o' e' => by
   rw [Heap.get?_update_other _ _ (Ne.symm hbT), Heap.get?_update_other _ _ (Ne.symm hbe)]
   exact Heap.get?_push_of_some _ e'
  refine ⟨fun hb' => step o ((hs₁.2.1 b hb').trans hb), ?_⟩
  obtain ⟨sl, e'⟩ := hs₁.2.2 b o hb
  exact ⟨sl, step _ e'⟩
 ·rw [Heap.get?_update_other _ _ hTe]; exact he₃
 ·exact Heap.get?_update_self _ hT₃ rfl
end
end
theorem kind_iter : builtinKind "iter" = none := by decide +kernel
theorem plain_iter : plainId "iter" = true := by decide +kernel
theorem entry_iter : entryFor table "iter" = some Builtin.«iter» := entryFor_of_tree (by kernel_rfl)
theorem args_iter1 (a : Value) : argsOk "iter" ⟨[a], []⟩ := by unfold argsOk; kernel_rfl
section
variable {prog : Program} {w : World} {A : Around} {E : Value -> Shared -> Prop} {s : Shared} {X : List Addr} {env : Env} {h : Heap}
theorem call_iter_l {y : Addr} {items : Array Value} {Q : Value -> Shared -> Prop} (hl : s.heap.IsList y items)
  (hq : Q (.ref s.heap.objs.size) { s with heap := s.heap.push { cls := .type "list_iterator", data := .fields #[.ref y, .int 0 0] } }) : wpAny (model prog w) A (call (.builtin "iter") [.ref y]) Q E s := by
 refine Calls.call_function_entry kind_iter plain_iter entry_iter (args_iter1 _) ?_
 unfold Builtin.«iter»
 refine wpAny_bind (m := someArgs "iter" 1 2 _) (wpAny_pure ?_)
 exact wpAny_bind (wpAny_pyIter_list hl (wpAny_pure ⟨_, rfl, hq⟩))
theorem setOf_new {w : World} {h : Heap} {led : Bool} : (h.push { cls := .type "set", dict := none, data := .set #[] 0 (.fresh 0 0 led) }).SetOf (intKind pw w) h.objs.size (fun _ => false) 0 :=
 ⟨_, #[], 0, _, Heap.get?_push_size _ rfl, ⟨rfl, rfl, rfl⟩, rfl, (fun e he => by simp at he), (fun k => by simp), by decide, by rfl, rfl⟩
theorem Tst.inSet {l r : Expr} {pos : Pos} {SE : Addr} {S : Int -> Bool} {n : Nat} {c : Nat} (hS : h.SetOf (intKind pw w) SE S n) (x : Ev pw w A env X h l (.int c)) (y : Ev pw w A env X h r (.obj (.ref SE))) (hm : behindInMarks .In r = false := by rfl) :
  Tst pw w A env h (.Compare l [.In] [r] pos) (S (c : Int)) :=
 Tst.cmp x y (fun s Q E u v k ra rb hq => by
  obtain ⟨t, rfl⟩ := ra
  obtain rfl : v = .ref SE := rb
  have hS' : s.heap.SetOf (intKind pw w) SE S n := let ⟨o, es, ep, tb, ho, r⟩ := hS; ⟨o, es, ep, tb, k _ _ ho, r⟩
  exact wpAny_inSet_of (isInt_int _ _) (by rfl) hS' (hq _ (Gw.tok s))) hm
theorem Tst.inDict {l r : Expr} {pos : Pos} {ND : Addr} {kvs : List (Int × Value)} {c : Nat} (hD : h.DictOf (intKind pw w) ND kvs) (hn : (ND == sysModules) = false) (x : Ev pw w A env X h l (.int c)) (y : Ev pw w A env X h r (.obj (.ref ND))) (hm : behindInMarks .In r = false := by rfl) :
  Tst pw w A env h (.Compare l [.In] [r] pos) (valueAt kvs (c : Int)).isSome :=
 Tst.cmp x y (fun s Q E u v k ra rb hq => by
  obtain ⟨t, rfl⟩ := ra
  obtain rfl : v = .ref ND := rb
  have hD' : s.heap.DictOf (intKind pw w) ND kvs := DictOf.at_ hD fun o => k _ o
  exact wpAny_in_of (isInt_int _ _) hn hD'.mapOf (hq _ (Gw.tok s))) hm
theorem x_setadd {o e : Expr} {apos pos epos : Pos} {rest : List Stmt} {Q : Flow -> Shared -> Prop} {pl : Sem Bool} {SE : Addr} {S : Int -> Bool} {n : Nat} {c : Nat} (hS : s.heap.SetOf (intKind pw w) SE S n) (hroom : n + 1 < scanBound)
  (x : Ev pw w A env X s.heap o (.obj (.ref SE))) (y : Ev pw w A env X s.heap e (.int c))
  (next : ∀ s' n', Mv [SE] s s' -> s'.heap.SetOf (intKind pw w) SE (fun k => S k || decide (k = (c : Int))) n' -> n' <= n + 1 -> wpAny (model pw w) A (execs rest env) Q E s')
  (hse : starEach [e] env = [(false, eval e env)] := by rfl)
  (he : eval (.Call (.Attribute o "add" apos) [e] [] pos) env = (do
   let ov <- eval o env
   standAt apos.atName
   let (f, first) <- holding [ov] (getMethod ov "add" pl)
   callWith pos f first (backTo pos (starEach [e] env)) []) := by rfl)
  (hi : interactive env = false := by rfl) (hs : swapsWith (.Call (.Attribute o "add" apos) [e] [] pos) none epos.line env = pure false := by rfl) :
  wpAny (model pw w) A (execs (.Expr (.Call (.Attribute o "add" apos) [e] [] pos) epos :: rest) env) Q E s := by
 refine wpAny_execs_cons (wpAny_Expr_any (MethodCall_ (x s _ _ (HK.refl _) fun v s₁ g r => ?_) he) hi hs)
 obtain rfl : v = .ref SE := r
 have hS₁ : s₁.heap.SetOf (intKind pw w) SE S n := let ⟨o, es, ep, tb, ho, r⟩ := hS; ⟨o, es, ep, tb, g.hk _ _ ho, r⟩
 refine getMethod_set_add hS₁ ?_
 have hp : (backTo pos (starEach [e] env)).any (·.1) = false := by rw [hse]; rfl
 refine callWith_plain hp trivial (evalArgs_L (EvL.cons y EvL.nil hse) hp g.hk fun us s₂ g₂ r₂ => ⟨g₂.hk, ?_⟩)
 obtain ⟨u, rfl, t, rfl⟩ := r₂.one
 have hS₂ : s₂.heap.SetOf (intKind pw w) SE S n := let ⟨o, es, ep, tb, ho, r⟩ := hS₁; ⟨o, es, ep, tb, g₂.hk _ _ ho, r⟩
 refine call_set_add (isInt_int _ _) (by rfl) hS₂ hroom fun h' sb hS' => ?_
 refine next _ _ ⟨?_, ?_⟩ hS' (by split <;> lia)
 ·obtain ⟨⟨h1, t1, e1⟩, _⟩ := g.trans g₂; subst e1; exact ⟨h', _, rfl⟩
 ·exact (((g.trans g₂).hk).kp _).trans (Kp.of_same sb)
theorem ev_next {x : Str} {px pos npos : Pos} {e : Expr} {y : Addr} {xs : List Nat} {Q : Value -> Shared -> Prop} (hf : Ev prog w A env X s.heap (.Name x px) (.obj (.builtin "iter"))) (ha : Ev prog w A env X s.heap e (.obj (.ref y))) (il : IL s.heap y xs)
  (hq : ∀ s' J W, Gw s s' -> s.heap.get? J = none -> s.heap.get? W = none -> J ≠ W -> s'.heap.IsListIter J y 0 -> s'.heap.get? W = some (mwObj J) -> Q (.ref W) s')
  (hse : starEach [e] env = [(false, eval e env)] := by rfl)
  (hb : attributeBase (.Call (.Name x px) [e] [] pos) "__next__" env (eval (.Call (.Name x px) [e] [] pos) env) = eval (.Call (.Name x px) [e] [] pos) env := by rfl) :
  wpAny (model prog w) A (eval (.Attribute (.Call (.Name x px) [e] [] pos) "__next__" npos) env) Q E s := by
 rw [arm_eval_Attribute, hb]
 refine wpAny_bind ?_
 show wpAny _ _ (eval (.Name x px) env >>= fun f => callWith pos f [] (backTo pos (starEach [e] env)) []) _ _ _
 refine wpAny_bind (hf s _ _ (HK.refl _) fun fv s₁ g r => ?_)
 obtain rfl : fv = .builtin "iter" := r
 have hp : (backTo pos (starEach [e] env)).any (·.1) = false := by rw [hse]; rfl
 refine callWith_plain hp trivial (evalArgs_L (EvL.cons ha EvL.nil hse) hp g.hk fun us s₂ g₂ r₂ => ⟨g₂.hk, ?_⟩)
 obtain ⟨u, rfl, r⟩ := r₂.one
 obtain rfl : u = .ref y := r
 have k2 := g.hk.trans g₂.hk
 obtain ⟨vs, n, ho, hi⟩ := il
 refine call_iter_l ⟨_, k2 _ _ ho, rfl, n, rfl⟩ ?_
 have fresh0 : ∀ {hh : Heap} (a : Addr), HK s.heap hh -> hh.get? a = none -> s.heap.get? a = none := fun a k e => by
  cases q : s.heap.get? a with
  | none => rfl
  | some o => rw [k a o q] at e; cases e
 have kJ : HK s₂.heap (s₂.heap.push { cls := .type "list_iterator", data := .fields #[.ref y, .int 0 0] }) := (Gw.push s₂ _).hk
 have hJ := Heap.get?_push_size s₂.heap (o := { cls := .type "list_iterator", data := .fields #[.ref y, .int 0 0] }) rfl
 refine wpAny_bind (wpAny_standAt (wpAny_bind (wpAny_holding (LI.get_next hJ rfl rfl rfl ?_))))
 refine wpAny_bind (wpAny_letTemporaryGo (wpAny_pure ?_))
 have kW : HK (s₂.heap.push { cls := .type "list_iterator", data := .fields #[.ref y, .int 0 0] }) ((s₂.heap.push { cls := .type "list_iterator", data := .fields #[.ref y, .int 0 0] }).push (mwObj s₂.heap.objs.size)) := fun b o e => Heap.get?_push_of_some _ e
 refine hq _ s₂.heap.objs.size _ ⟨?_, (k2.trans kJ).trans kW⟩ (fresh0 _ k2 (fresh_size _)) (fresh0 _ (k2.trans kJ) (fresh_size _)) ?_ ⟨_, kW _ _ hJ, rfl, rfl⟩ (Heap.get?_push_size _ rfl)
 ·obtain ⟨⟨h1, t1, e1⟩, _⟩ := g.trans g₂; subst e1; exact ⟨_, _, rfl⟩
 ·show s₂.heap.objs.size ≠ (s₂.heap.push _).objs.size
  rw [Heap.size_push]; exact Nat.ne_of_lt (Nat.lt_succ_self _)
end
structure PE where
 v : Nat
 i : Nat
 J : Addr
 W : Addr
def EL (h : Heap) (G : SG) (V : SV) (p : PE) : Prop := h.get? p.W = some (mwObj p.J) /\ (∃ o, h.get? p.J = some o /\ o.cls = .type "list_iterator") /\ (p.i <= (V.succ p.v).length -> h.IsListIter p.J (G.y p.v) p.i) /\ p.v ∈ G.order
theorem EL.at_ {h h' : Heap} {G : SG} {V : SV} {p : PE} (x : EL h G V p) (kW : ∀ o, h.get? p.W = some o -> h'.get? p.W = some o) (kJ : ∀ o, h.get? p.J = some o -> h'.get? p.J = some o) : EL h' G V p :=
 let ⟨a, ⟨o, ho, hc⟩, r, c⟩ := x
 ⟨kW _ a, ⟨o, kJ _ ho, hc⟩, fun z => let ⟨o', ho', r'⟩ := r z; ⟨o', kJ _ ho', r'⟩, c⟩
structure FCI (w : World) (h : Heap) (G : SG) (V : SV) (S IT SE ND : Addr) (rk : Nat -> Nat) (path : List PE) (seen : Nat -> Bool) : Prop where
 st : IL h S (path.map (·.v))
 it : ∃ vs n, h.get? IT = some (listObj vs n) /\ vs.toList = path.map fun p => Value.ref p.W
 se : ∃ Sf n, h.SetOf (intKind pw w) SE Sf n /\ (∀ k : Nat, Sf (k : Int) = seen k) /\ n + (G.order.filter fun k => !seen k).length <= G.order.length
 nd : ∃ kvs, h.DictOf (intKind pw w) ND kvs /\ kvs.map (·.1) = path.map fun p => (p.v : Int)
 el : ∀ p ∈ path, EL h G V p
 rk : (path.map (·.v)).Pairwise fun a b => rk a < rk b
 js : (path.map (·.J)).Nodup
 sn : ∀ p ∈ path, seen p.v = true
theorem valueAt_some {kvs : List (Int × Value)} {k : Int} : (valueAt kvs k).isSome = decide (k ∈ kvs.map (·.1)) := by
 unfold valueAt
 induction kvs with
 | nil => rfl
 | cons kv kvs ih =>
  rw [List.find?_cons]
  by_cases h : kv.1 = k
  ·rw [decide_eq_true h]; simp [h]
  ·rw [decide_eq_false h]
   dsimp only
   rw [ih]
   have h2 : ¬ k = kv.1 := fun e => h e.symm
   simp [h2]
section
variable {w : World} {h h' : Heap} {G : SG} {V : SV} {S IT SE ND : Addr} {rk : Nat -> Nat} {path : List PE} {seen : Nat -> Bool} {M : List Addr}
theorem FCI.kp (x : FCI w h G V S IT SE ND rk path seen) (k : Kp M h h') (hS : S ∉ M) (hI : IT ∉ M) (hE : SE ∉ M) (hN : ND ∉ M) (hp : ∀ p ∈ path, p.W ∉ M /\ p.J ∉ M) : FCI w h' G V S IT SE ND rk path seen :=
 {x with
  st := x.st.at_ fun o => k _ o hS
  it := let ⟨vs, n, e, q⟩ := x.it; ⟨vs, n, k _ _ hI e, q⟩
  se := let ⟨Sf, n, ⟨o, es, ep, tb, ho, r⟩, q⟩ := x.se; ⟨Sf, n, ⟨o, es, ep, tb, k _ _ hE ho, r⟩, q⟩
  nd := let ⟨kvs, d, q⟩ := x.nd; ⟨kvs, DictOf.at_ d fun o => k _ o hN, q⟩
  el := fun p hp' => (x.el p hp').at_ (fun o => k _ o (hp p hp').1) (fun o => k _ o (hp p hp').2) }
theorem FCI.hk (x : FCI w h G V S IT SE ND rk path seen) (k : HK h h') : FCI w h' G V S IT SE ND rk path seen := x.kp (k.kp []) (by simp) (by simp) (by simp) (by simp) (by simp)
theorem ne_of_cls {a b : Addr} {o o' : Obj} (ea : h.get? a = some o) (eb : h.get? b = some o') (hc : o.cls ≠ o'.cls) : a ≠ b := by
 rintro rfl; rw [ea] at eb; cases eb; exact hc rfl
theorem FCI.there (x : FCI w h G V S IT SE ND rk path seen) : (∃ o, h.get? S = some o /\ o.cls = .type "list") /\ (∃ o, h.get? IT = some o /\ o.cls = .type "list") /\ (∃ o, h.get? SE = some o /\ o.cls = .type "set") /\ (∃ o, h.get? ND = some o /\ o.cls = .type "dict") /\ ∀ p ∈ path, (∃ o, h.get? p.W = some o /\ o.cls = .type "method-wrapper") /\ ∃ o, h.get? p.J = some o /\ o.cls = .type "list_iterator" := by
 obtain ⟨_, _, e1, _⟩ := x.st
 obtain ⟨_, _, e2, _⟩ := x.it
 obtain ⟨_, _, ⟨o3, _, _, _, e3, c3, _⟩, _⟩ := x.se
 obtain ⟨_, ⟨o4, _, _, e4, c4, _⟩, _⟩ := x.nd
 exact ⟨⟨_, e1, rfl⟩, ⟨_, e2, rfl⟩, ⟨_, e3, c3.1⟩, ⟨_, e4, c4.1⟩, fun p hp => let ⟨a, ⟨o, ho, hc⟩, _⟩ := x.el p hp; ⟨⟨_, a, rfl⟩, o, ho, hc⟩⟩
end
noncomputable def forBody : Stmt -> List Stmt
 | .For _ _ b _ _ => b
 | _ => []
noncomputable def whileBody : Stmt -> List Stmt
 | .While _ b _ _ => b
 | _ => []
noncomputable def ifElse : Stmt -> List Stmt
 | .If _ _ b _ => b
 | _ => []
noncomputable def nth (l : List Stmt) (i : Nat) : Stmt := l.getD i (.Pass ⟨0, 0, 0, 0⟩)
noncomputable def fcFor : Stmt := nth (bodyOf (inS (topS pw 33) 8)) 5
noncomputable def fcWhile : Stmt := nth (forBody fcFor) 1
noncomputable def fcVisit : List Stmt := ifElse (nth (whileBody fcWhile) 0)
noncomputable def fcInner : Stmt := nth (whileBody fcWhile) 1
def isData (o : Obj) : Prop := o.cls = .type "list" \/ o.cls = .type "tuple" \/ o.cls = .type "range"
structure FR (hw : Heap) (wl : List Addr) (w : World) (s0 : Shared) (env : Env) (fs X : List Addr) (G : SG) (V : SV) (S IT SE ND : Addr) (kv : Option PV) (s : Shared) : Prop where
 ex : ∃ h' tk, s = { s0 with heap := h', toks := tk }
 F : Fm env X fs s0.heap s.heap [some (.obj (.ref G.a)), some (.obj (.ref G.D)), some (.obj (.ref S)), some (.obj (.ref IT)), some (.obj (.ref SE)), some (.obj (.ref ND)), kv, none, none, none, none]
 tn : Tn fs s0.heap s.heap
 ts : TS w s.heap G V
 wt : ∀ b ∈ wl, ∀ o, hw.get? b = some o -> s.heap.get? b = some o
section
variable {hw : Heap} {wl : List Addr} {w : World} {s0 s s' : Shared} {env : Env} {fs X : List Addr} {G : SG} {V : SV} {S IT SE ND : Addr} {kv kv' : Option PV}
theorem FR.gw (x : FR hw wl w s0 env fs X G V S IT SE ND kv s) (g : Gw s s') : FR hw wl w s0 env fs X G V S IT SE ND kv s' := ⟨ex_tr x.ex g.ex, x.F.hk g.hk, x.tn.trans (Tn.hk g.hk), x.ts.hk g.hk, fun b hb o e => g.hk b o (x.wt b hb o e)⟩
theorem FR.fpne (T0 : TS w s0.heap G V) {N : List Addr} (hN : ∀ b ∈ N, s0.heap.get? b = none) : ∀ b ∈ G.fp, b ∉ N := fun b hb z => by obtain ⟨o, e⟩ := T0.ex b hb; rw [hN b z] at e; cases e
theorem FR.mine (x : FR hw wl w s0 env fs X G V S IT SE ND kv s) (T0 : TS w s0.heap G V) (hwo : ∀ b ∈ own env, b ∉ wl) (m : Mv (own env) s s') (F' : Fm env X fs s0.heap s'.heap [some (.obj (.ref G.a)), some (.obj (.ref G.D)), some (.obj (.ref S)), some (.obj (.ref IT)), some (.obj (.ref SE)), some (.obj (.ref ND)), kv', none, none, none, none]) : FR hw wl w s0 env fs X G V S IT SE ND kv' s' :=
 ⟨ex_tr x.ex m.ex, F', x.tn.then m.kp x.F.fresh, x.ts.kp m.kp (FR.fpne T0 x.F.fresh), fun b hb o e => m.kp b o (fun z => hwo b z hb) (x.wt b hb o e)⟩
theorem FR.move (x : FR hw wl w s0 env fs X G V S IT SE ND kv s) (T0 : TS w s0.heap G V) {N : List Addr} (m : Mv N s s') (hN : ∀ b ∈ N, s0.heap.get? b = none) (ho : ∀ b ∈ N, b ∉ own env) (hd : ∀ b ∈ N, b ∈ X \/ ∀ o, s.heap.get? b = some o -> ¬ isData o) (hx : ∀ b ∈ N, b ∈ X -> ∃ o, s'.heap.get? b = some o) (hwn : ∀ b ∈ N, b ∉ wl) : FR hw wl w s0 env fs X G V S IT SE ND kv s' := by
 have tn' := x.tn.then m.kp hN
 refine ⟨ex_tr x.ex m.ex, x.F.shift (fun b o hb hc e => ?_) (fun b hb o e => ⟨o.slots, m.kp b o (fun z => ho b z hb) e⟩) tn'.kp (fun b hb => ?_), tn', x.ts.kp m.kp (FR.fpne T0 hN), fun b hb o e => m.kp b o (fun z => hwn b z hb) (x.wt b hb o e)⟩
 ·refine m.kp b o (fun z => ?_) e
  exact (hd b z).elim hb fun q => q o e hc
 ·by_cases z : b ∈ N
  ·exact hx b z hb
  ·obtain ⟨o, e⟩ := x.F.xb b hb; exact ⟨o, m.kp b o z e⟩
theorem nodup_le : ∀ {l m : List Nat}, l.Nodup -> (∀ x ∈ l, x ∈ m) -> l.length <= m.length
 | [], _, _, _ => Nat.zero_le _
 | a :: l, m, h, s => by
  rw [List.nodup_cons] at h
  have ha := s a List.mem_cons_self
  have := nodup_le (m := m.erase a) h.2 fun x hx => by
   have hne : x ≠ a := by rintro rfl; exact h.1 hx
   exact (List.mem_erase_of_ne hne).mpr (s x (List.mem_cons_of_mem _ hx))
  rw [List.length_erase_of_mem ha] at this
  have hp : 0 < m.length := List.length_pos_of_mem ha
  rw [List.length_cons]; lia
noncomputable def todo (G : SG) (V : SV) (seen : Nat -> Bool) (path : List PE) : Nat := ((G.order.filter fun k => !seen k).map fun k => (V.succ k).length + 1).sum + (path.map fun p => (V.succ p.v).length - p.i).sum
theorem filter_visit {order : List Nat} (hn : order.Nodup) {k : Nat} (hk : k ∈ order) {seen : Nat -> Bool} (hs : seen k = false) (f : Nat -> Nat) :
  ((order.filter fun j => !(seen j || decide (j = k))).map f).sum + f k = ((order.filter fun j => !seen j).map f).sum /\ (order.filter fun j => !(seen j || decide (j = k))).length + 1 = (order.filter fun j => !seen j).length := by
 induction order with
 | nil => cases hk
 | cons j order ih =>
  rw [List.nodup_cons] at hn
  rw [List.filter_cons, List.filter_cons]
  by_cases hj : j = k
  ·subst hj
   have e1 : order.filter (fun i => !(seen i || decide (i = j))) = order.filter fun i => !seen i := List.filter_congr fun i hi => by
    have : i ≠ j := fun e => hn.1 (e ▸ hi)
    simp [this]
   rw [hs, decide_eq_true rfl, e1]
   simp; lia
  ·have hk' : k ∈ order := (List.mem_cons.mp hk).resolve_left fun e => hj e.symm
   obtain ⟨a, b⟩ := ih hn.2 hk'
   rw [decide_eq_false hj, Bool.or_false]
   cases seen j
   ·simp only [Bool.not_false, if_true, List.map_cons, List.sum_cons, List.length_cons]; lia
   ·simp only [Bool.not_true]; exact ⟨a, b⟩
end
section
variable {hw : Heap} {wl : List Addr} {w : World} {A : Around} {s0 s : Shared} {env : Env} {fs X : List Addr} {G : SG} {V : SV} {S IT SE ND : Addr} {rk : Nat -> Nat} {path : List PE} {seen : Nat -> Bool} {E : Value -> Shared -> Prop}
theorem c_len_il {prog : Program} {X : List Addr} {h : Heap} {a : Addr} {xs : List Nat} (il : IL h a xs) (hl : xs.length < 2 ^ 60) : Calls prog w A X h (.builtin "len") [.obj (.ref a)] (.int xs.length) := by
 intro s Q E vs k r hq
 obtain ⟨v, rfl, r1⟩ := r.one
 obtain rfl : v = .ref a := r1
 obtain ⟨us, n, ho, hi⟩ := il
 have hsz : us.size = xs.length := by have := hi.length; simpa using this
 refine call_len_list ⟨_, k _ _ ho, rfl, n, rfl⟩ (by rw [hsz]; lia) (hq _ _ (Gw.toks s _) ?_)
 unfold Rep; exact ⟨_, by rw [hsz]⟩
structure OWN (hw : Heap) (wl : List Addr) (s0 : Shared) (env : Env) (X : List Addr) (S IT SE ND : Addr) : Prop where
 x : S ∈ X /\ IT ∈ X /\ SE ∈ X /\ ND ∈ X
 o : S ∉ own env /\ IT ∉ own env /\ SE ∉ own env /\ ND ∉ own env
 f : s0.heap.get? S = none /\ s0.heap.get? IT = none /\ s0.heap.get? SE = none /\ s0.heap.get? ND = none
 d : S ≠ IT
 n : (ND == sysModules) = false
 w : S ∉ wl /\ IT ∉ wl /\ SE ∉ wl /\ ND ∉ wl
 e : ∀ b ∈ own env, b ∉ wl
 wx : ∀ b ∈ wl, ∃ o, hw.get? b = some o
set_option maxHeartbeats 2000000 in
theorem fc_visit {P : Params} {k : Nat} (O : OWN hw wl s0 env X S IT SE ND) (T0 : TS w s0.heap G V) (GB0 : GB fs s0.heap) (hn : env.scope.names = (fd_find_cycle pw).scope.names) (eg : env.globals = mainGlobals) (eb : env.builtins = builtinsNs) (hint : interactive env = false)
  (x : FR hw wl w s0 env fs X G V S IT SE ND (some (.int k)) s) (c : FCI w s.heap G V S IT SE ND rk path seen) (hk : k ∈ G.order) (hs : seen k = false) (hr : ∀ p ∈ path, rk p.v < rk k) {Q : Flow -> Shared -> Prop}
  (next : ∀ s' J W, FR hw wl w s0 env fs X G V S IT SE ND (some (.int k)) s' -> FCI w s'.heap G V S IT SE ND rk (path ++ [⟨k, 0, J, W⟩]) (fun j => seen j || decide (j = k)) -> s0.heap.get? J = none -> J ∉ X -> s0.heap.get? W = none -> W ∉ X -> J ∉ wl -> Q .next s') :
  wpAny (model pw w) A (execs fcVisit env) Q E s := by
 have hS := O.x.1
 have hIT := O.x.2.1
 have hSE := O.x.2.2.1
 have hND := O.x.2.2.2
 have sing : ∀ {a : Addr} {Pr : Addr -> Prop}, Pr a -> ∀ b ∈ [a], Pr b := fun h b hb => by rw [List.mem_singleton.mp hb]; exact h
 have below : s0.heap.get? IT = none /\ True := ⟨O.f.2.1, trivial⟩
 obtain ⟨Sf, n, hSet, hSf, hnn⟩ := c.se
 have hfv := filter_visit T0.nd hk hs fun _ => 0
 have hsm := T0.small
 refine x_setadd (X := X) hSet (by unfold scanBound; lia) (Ev.name x.F.toRd 4 (nm hn rfl) rfl) (Ev.name x.F.toRd 6 (nm hn rfl) rfl) (fun s₁ n' m₁ hSet' hn' => ?_) (by rfl) (by rfl) hint (by rfl)
 have th := c.there
 have x₁ := x.move T0 m₁ (sing O.f.2.2.1) (sing O.o.2.2.1) (sing (.inl hSE)) (sing fun _ => let ⟨o, _, _, _, e, _⟩ := hSet'; ⟨o, e⟩) (sing O.w.2.2.1)
 have nSE : S ≠ SE /\ IT ≠ SE /\ ND ≠ SE /\ ∀ p ∈ path, p.W ≠ SE /\ p.J ≠ SE := by
  obtain ⟨⟨_, a, ca⟩, ⟨_, b, cb⟩, ⟨_, e, ce⟩, ⟨_, d, cd⟩, q⟩ := th
  refine ⟨ne_of_cls a e (by rw [ca, ce]; decide), ne_of_cls b e (by rw [cb, ce]; decide), ne_of_cls d e (by rw [cd, ce]; decide), fun p hp => ?_⟩
  obtain ⟨⟨_, a1, c1⟩, _, a2, c2⟩ := q p hp
  exact ⟨ne_of_cls a1 e (by rw [c1, ce]; decide), ne_of_cls a2 e (by rw [c2, ce]; decide)⟩
 have seen1 : ∃ Sf n, s₁.heap.SetOf (intKind pw w) SE Sf n /\ (∀ j : Nat, Sf (j : Int) = (seen j || decide (j = k))) /\ n + (G.order.filter fun j => !(seen j || decide (j = k))).length <= G.order.length :=
  ⟨_, n', hSet', fun j => by
   show (Sf (j : Int) || decide ((j : Int) = (k : Int))) = _
   rw [hSf]; congr 1; exact decide_eq_decide.mpr (by lia), by lia⟩
 have c₁ : FCI w s₁.heap G V S IT SE ND rk path (fun j => seen j || decide (j = k)) := by
  have kp1 : ∀ b o, b ≠ SE -> s.heap.get? b = some o -> s₁.heap.get? b = some o := fun b o hb e => m₁.kp b o (by simpa using hb) e
  exact {
   st := c.st.at_ fun o => kp1 _ o nSE.1
   it := let ⟨vs, n, e, q⟩ := c.it; ⟨vs, n, kp1 _ _ nSE.2.1 e, q⟩
   se := seen1
   nd := let ⟨kvs, d, q⟩ := c.nd; ⟨kvs, DictOf.at_ d fun o => kp1 _ o nSE.2.2.1, q⟩
   el := fun p hp => (c.el p hp).at_ (fun o => kp1 _ o (nSE.2.2.2 p hp).1) (fun o => kp1 _ o (nSE.2.2.2 p hp).2)
   rk := c.rk
   js := c.js
   sn := fun p hp => by rw [c.sn p hp]; rfl }
 have G₁ : Grd pw s₁.heap := (GB0.kp x₁.tn.kp).grd
 obtain ⟨P, K₁⟩ := G₁.frag
 refine wpAny_execs_cons (wpAny_Expr_any (MethodCall_ ((Ev.name x₁.F.toRd 3 (nm hn rfl) rfl) s₁ _ _ (HK.refl _) fun v s₂ g₂ r₂ => ?_) (by rfl)) hint (by rfl))
 obtain rfl : v = .ref IT := r₂
 obtain ⟨vsI, nI, hI1, hIv⟩ := c₁.it
 refine (GM.list (g₂.hk _ _ hI1) PySem.F.slot_list_append PySem.F.type_list_append).out _ _ ?_
 have x₂ := x₁.gw g₂
 have c₂ := c₁.hk g₂.hk
 have G₂ := G₁.hk g₂.hk
 have K₂ := K₁.keeps g₂.hk
 have hpl : path.length <= 200 := by
  have hsub : (path.map (·.v)).Nodup := c.rk.imp fun h e => by rw [e] at h; exact Nat.lt_irrefl _ h
  have := (nodup_le hsub fun v hv => by
   obtain ⟨p, hp, rfl⟩ := List.mem_map.mp hv
   exact (c.el p hp).2.2.2 : (path.map (·.v)).length <= G.order.length)
  rw [List.length_map] at this; lia
 refine callWith_plain (by rfl) trivial (evalArgs_plain (spliced_cons (ev_next (X := X) (y := G.y k) (xs := V.succ k) (Ev.glob x₂.F.toRd 8 (nm hn rfl) G₂.g_iter eg eb) (Ev.nSucc K₂ x₂.ts hk (Ev.mapItem x₂.ts hk (Ev.name x₂.F.toRd 1 (nm hn rfl) rfl) (Ev.name x₂.F.toRd 6 (nm hn rfl) rfl))) (x₂.ts.succ k hk) (fun s₃ J W g₃ hJ hW hJW it0 hWo => spliced_nil ⟨g₃.hk, ?_⟩) (by rfl) (by rfl))))
 have x₃ := x₂.gw g₃
 have c₃ := c₂.hk g₃.hk
 have hI3 : s₃.heap.get? IT = some (listObj vsI nI) := g₃.hk _ _ (g₂.hk _ _ hI1)
 have hszI : vsI.size = path.length := by have := congrArg List.length hIv; simpa using this
 refine append_at hI3 (fun h4 sb4 hd4 => ?_) (by rw [hszI]; unfold sizeLine; lia)
 generalize hs4 : ({ s₃ with heap := h4 } : Shared) = s₄
 have e4 : s₄.heap = h4 := by rw [<- hs4]
 have m₄ : Mv [IT] s₃ s₄ := by rw [<- hs4]; exact ⟨⟨h4, s₃.toks, rfl⟩, Kp.of_same sb4⟩
 rw [<- e4] at hd4
 have x₄ := x₃.move T0 m₄ (sing O.f.2.1) (sing O.o.2.1) (sing (.inl hIT)) (sing fun _ => ⟨_, hd4⟩) (sing O.w.2.1)
 have old₃ : ∀ b, s₂.heap.get? b = none -> s0.heap.get? b = none := fun b e => by
  cases q : s0.heap.get? b with
  | none => rfl
  | some o => obtain ⟨sl, e'⟩ := x₂.tn.sl b o q; rw [e] at e'; cases e'
 have jown : ∀ b, s₂.heap.get? b = none -> b ∉ X := fun b e z => by obtain ⟨o, e'⟩ := x₂.F.xb b z; rw [e] at e'; cases e'
 have newb : ∀ b o, s₂.heap.get? b = none -> s₂.heap.get? b = some o -> False := fun b o e e' => by rw [e] at e'; cases e'
 obtain ⟨⟨oS, eS, cS⟩, ⟨oI, eI, cI⟩, ⟨oE, eE, cE⟩, ⟨oN, eN, cN⟩, tp⟩ := c₂.there
 have nIT : S ≠ IT /\ SE ≠ IT /\ ND ≠ IT /\ J ≠ IT /\ W ≠ IT /\ ∀ p ∈ path, p.W ≠ IT /\ p.J ≠ IT :=
  ⟨O.d, ne_of_cls eE eI (by rw [cE, cI]; decide), ne_of_cls eN eI (by rw [cN, cI]; decide), fun e => newb IT oI (e ▸ hJ) eI, fun e => newb IT oI (e ▸ hW) eI, fun p hp => by
   obtain ⟨⟨_, a1, c1⟩, _, a2, c2⟩ := tp p hp
   exact ⟨ne_of_cls a1 eI (by rw [c1, cI]; decide), ne_of_cls a2 eI (by rw [c2, cI]; decide)⟩⟩
 have k34 : ∀ b o, b ≠ IT -> s₃.heap.get? b = some o -> s₄.heap.get? b = some o := fun b o hb e => m₄.kp b o (by simpa using hb) e
 have st₄ : IL s₄.heap S (path.map (·.v)) := c₃.st.at_ fun o => k34 _ o nIT.1
 have G₄ : Grd pw s₄.heap := (GB0.kp x₄.tn.kp).grd
 refine wpAny_execs_cons (wpAny_Assign_Subscript ((Ev.call (X := X) (Ev.glob x₄.F.toRd 9 (nm hn rfl) G₄.g_len eg eb) (EvL.cons (Ev.name x₄.F.toRd 2 (nm hn rfl) rfl) EvL.nil) trivial (c_len_il st₄ (by rw [List.length_map]; lia))) s₄ _ _ (HK.refl _) fun v s₅ g₅ r₅ => (Ev.name (x₄.gw g₅).F.toRd 5 (nm hn rfl) rfl) s₅ _ _ (HK.refl _) fun ov s₆ g₆ r₆ => (Ev.name ((x₄.gw g₅).gw g₆).F.toRd 6 (nm hn rfl) rfl) s₆ _ _ (HK.refl _) fun iv s₇ g₇ r₇ => ?_) (by rfl))
 obtain rfl : ov = .ref ND := r₆
 obtain ⟨t7, rfl⟩ := r₇
 obtain ⟨t5, rfl⟩ := r₅
 have g47 := (g₅.trans g₆).trans g₇
 have x₇ := x₄.gw g47
 obtain ⟨kvs, dND, hkv⟩ := c₃.nd
 have dND7 : s₇.heap.DictOf (intKind pw w) ND kvs := DictOf.at_ dND fun o e => g47.hk _ o (k34 _ o nIT.2.2.1 e)
 have hkvl : kvs.length = path.length := by have := congrArg List.length hkv; simpa using this
 refine wpAny_setItem_pairs (k := (k : Int)) (isInt_int _ _) dND7 (fun h8 dND8 sb8 => ?_) (by rw [hkvl]; unfold sizeLine; lia)
 have hknot : k ∉ path.map (·.v) := fun z => by
  obtain ⟨p, hp, e⟩ := List.mem_map.mp z
  have := hr p hp; rw [e] at this; exact Nat.lt_irrefl _ this
 have hst : stored kvs (k : Int) (.int ((path.map (·.v)).length : Nat) t5) = kvs ++ [((k : Int), .int ((path.map (·.v)).length : Nat) t5)] := by
  unfold stored
  rw [if_neg]
  intro q
  obtain ⟨kv, hkv', e⟩ := List.any_eq_true.mp q
  have hm : kv.1 ∈ kvs.map (·.1) := List.mem_map_of_mem hkv'
  rw [hkv] at hm
  obtain ⟨p, hp, e2⟩ := List.mem_map.mp hm
  have e3 : kv.1 = (k : Int) := of_decide_eq_true e
  exact hknot (List.mem_map.mpr ⟨p, hp, by lia⟩)
 rw [hst] at dND8
 generalize hs8 : ({ s₇ with heap := h8, toks := s₇.toks + 1 } : Shared) = s₈
 have e8 : s₈.heap = h8 := by rw [<- hs8]
 have m₈ : Mv [ND] s₇ s₈ := by rw [<- hs8]; exact ⟨⟨h8, s₇.toks + 1, rfl⟩, Kp.of_same sb8⟩
 rw [<- e8] at dND8
 have x₈ := x₇.move T0 m₈ (sing O.f.2.2.2) (sing O.o.2.2.2) (sing (.inl hND)) (sing fun _ => let ⟨o, _, _, e, _⟩ := dND8; ⟨o, e⟩) (sing O.w.2.2.2)
 have nND : S ≠ ND /\ SE ≠ ND /\ IT ≠ ND /\ J ≠ ND /\ W ≠ ND /\ ∀ p ∈ path, p.W ≠ ND /\ p.J ≠ ND :=
  ⟨ne_of_cls eS eN (by rw [cS, cN]; decide), ne_of_cls eE eN (by rw [cE, cN]; decide), fun e => nIT.2.2.1 e.symm, fun e => newb ND oN (e ▸ hJ) eN, fun e => newb ND oN (e ▸ hW) eN, fun p hp => by
   obtain ⟨⟨_, a1, c1⟩, _, a2, c2⟩ := tp p hp
   exact ⟨ne_of_cls a1 eN (by rw [c1, cN]; decide), ne_of_cls a2 eN (by rw [c2, cN]; decide)⟩⟩
 have k38 : ∀ b o, b ≠ IT -> b ≠ ND -> s₃.heap.get? b = some o -> s₈.heap.get? b = some o := fun b o h1 h2 e => m₈.kp b o (by simpa using h2) (g47.hk b o (k34 b o h1 e))
 have st₈ : IL s₈.heap S (path.map (·.v)) := c₃.st.at_ fun o => k38 _ o nIT.1 nND.1
 refine x_append (p := .int k) x₈.F (lsOfIl st₈) hS O.o.1 (.inr O.f.1) (by rw [List.length_map, List.length_map]; unfold sizeLine; lia) (Ev.name x₈.F.toRd 2 (nm hn rfl) rfl) (Ev.name x₈.F.toRd 6 (nm hn rfl) rfl) (fun s₉ m₉ F₉ L₉ => x_nil ?_) (by rfl) (by rfl) hint (by rfl)
 have il9 : IL s₉.heap S (path.map (·.v) ++ [k]) := ilOfLs (by rw [List.map_append]; exact L₉)
 have x₉ := x₈.move T0 m₉ (sing O.f.1) (sing O.o.1) (sing (.inl hS)) (sing fun _ => let ⟨_, _, e, _⟩ := il9; ⟨_, e⟩) (sing O.w.1)
 have nS : SE ≠ S /\ IT ≠ S /\ ND ≠ S /\ J ≠ S /\ W ≠ S /\ ∀ p ∈ path, p.W ≠ S /\ p.J ≠ S :=
  ⟨ne_of_cls eE eS (by rw [cE, cS]; decide), fun e => nIT.1 e.symm, fun e => nND.1 e.symm, fun e => newb S oS (e ▸ hJ) eS, fun e => newb S oS (e ▸ hW) eS, fun p hp => by
   obtain ⟨⟨_, a1, c1⟩, _, a2, c2⟩ := tp p hp
   exact ⟨ne_of_cls a1 eS (by rw [c1, cS]; decide), ne_of_cls a2 eS (by rw [c2, cS]; decide)⟩⟩
 have k39 : ∀ b o, b ≠ IT -> b ≠ ND -> b ≠ S -> s₃.heap.get? b = some o -> s₉.heap.get? b = some o := fun b o h1 h2 h3 e => m₉.kp b o (by simpa using h3) (k38 b o h1 h2 e)
 refine next s₉ J W x₉ ?_ (old₃ J hJ) (jown J hJ) (old₃ W hW) (jown W hW) (fun z => by obtain ⟨o, e⟩ := O.wx J z; have := x₂.wt J z o e; rw [hJ] at this; cases this)
 have jnew : ∀ p ∈ path, p.J ≠ J := fun p hp e => by
  obtain ⟨_, _, a2, _⟩ := tp p hp
  rw [e] at a2; exact newb J _ hJ a2
 exact {
  st := by rw [List.map_append]; exact il9
  it := by
   refine ⟨vsI.push (.ref W), nI + 1, m₉.kp _ _ (by simpa using nS.2.1) (m₈.kp _ _ (by simpa using nND.2.2.1) (g47.hk _ _ hd4)), ?_⟩
   rw [Array.toList_push, hIv, List.map_append]; rfl
  se := let ⟨Sf, n, ⟨o, es, ep, tb, ho, r⟩, q⟩ := c₃.se; ⟨Sf, n, ⟨o, es, ep, tb, k39 _ _ nIT.2.1 nND.2.1 nS.1 ho, r⟩, q⟩
  nd := ⟨_, DictOf.at_ dND8 fun o => m₉.kp _ o (by simpa using nS.2.2.1), by rw [List.map_append, List.map_append, hkv]; rfl⟩
  el := fun p hp => by
   rcases List.mem_append.mp hp with hp | hp
   ·exact (c₃.el p hp).at_ (fun o => k39 _ o (nIT.2.2.2.2.2 p hp).1 (nND.2.2.2.2.2 p hp).1 (nS.2.2.2.2.2 p hp).1) (fun o => k39 _ o (nIT.2.2.2.2.2 p hp).2 (nND.2.2.2.2.2 p hp).2 (nS.2.2.2.2.2 p hp).2)
   ·rw [List.mem_singleton.mp hp]
    obtain ⟨o, ho, r⟩ := it0
    exact ⟨k39 _ _ nIT.2.2.2.2.1 nND.2.2.2.2.1 nS.2.2.2.2.1 hWo, ⟨o, k39 _ _ nIT.2.2.2.1 nND.2.2.2.1 nS.2.2.2.1 ho, r.1⟩, fun _ => ⟨o, k39 _ _ nIT.2.2.2.1 nND.2.2.2.1 nS.2.2.2.1 ho, r⟩, hk⟩
  rk := by
   rw [List.map_append, List.pairwise_append]
   refine ⟨c.rk, by simp, fun a ha b hb => ?_⟩
   obtain ⟨p, hp, rfl⟩ := List.mem_map.mp ha
   obtain rfl : b = k := by simpa using hb
   exact hr p hp
  js := by
   rw [List.map_append, List.nodup_append]
   refine ⟨c.js, by simp, fun a ha b hb => ?_⟩
   obtain ⟨p, hp, rfl⟩ := List.mem_map.mp ha
   obtain rfl : b = J := by simpa using hb
   exact jnew p hp
  sn := fun p hp => by
   rcases List.mem_append.mp hp with hp | hp
   ·rw [c.sn p hp]; rfl
   ·rw [List.mem_singleton.mp hp]; simp }
end
theorem ints_snoc : ∀ {a : List Int} {b : Int} {l : List Value}, IntsAre l (a ++ [b]) -> ∃ l' t, l = l' ++ [.int b t] /\ IntsAre l' a
 | [], b, l, x => by
  cases x with
  | cons k t h => cases h; exact ⟨[], _, rfl, .nil⟩
 | c :: a, b, l, x => by
  cases x with
  | cons k t h =>
   obtain ⟨l', t', rfl, h'⟩ := ints_snoc h
   exact ⟨_ :: l', t', rfl, .cons _ _ h'⟩
theorem erase_last {vs : Array Value} {l : List Value} {v : Value} (h : vs.toList = l ++ [v]) : (vs.eraseIdxIfInBounds (vs.size - 1)).toList = l /\ vs[vs.size - 1]? = some v /\ vs.size = l.length + 1 := by
 have hsz : vs.size = l.length + 1 := by have := congrArg List.length h; simpa using this
 refine ⟨?_, ?_, hsz⟩
 ·unfold Array.eraseIdxIfInBounds
  rw [dif_pos (by lia), Array.toList_eraseIdx, h, hsz, Nat.add_sub_cancel, List.eraseIdx_append_of_length_le (Nat.le_refl _)]
  simp
 ·rw [<- Array.getElem?_toList, h, hsz, Nat.add_sub_cancel]
  simp
noncomputable def tryBody : Stmt -> List Stmt
 | .Try b _ _ _ _ => b
 | _ => []
noncomputable def tryHand : Stmt -> List Stmt
 | .Try _ (.ExceptHandler _ _ b _ :: _) _ _ _ => b
 | _ => []
noncomputable def fcTry : Stmt := nth (whileBody fcInner) 0
section
variable {M : Model} {A : Around} {E : Value -> Shared -> Prop} {s : Shared}
theorem callWith_mw {pos : Pos} {W J : Addr} {Q : Value -> Shared -> Prop} (hW : s.heap.get? W = some (mwObj J)) (h : wpAny M A (call (.ref W) []) Q E s) : wpAny M A (callWith pos (.ref W) [] [] []) Q E s := by
 unfold callWith
 refine wpAny_bind (wpAny_holding (evalArgs_nil3 (wpAny_bind (wpAny_standAt ?_))))
 simp only [List.any_nil, Bool.or_false]
 refine wpAny_bind (m := keeperOf (.ref W)) ?_
 unfold keeperOf
 refine wpAny_bind (wpAny_load hW ?_)
 simp only [show (Value.type "method-wrapper" != Value.type "method") = true by decide, show (Value.type "method-wrapper" == Value.type "builtin_function_or_method" || Value.type "method-wrapper" == Value.type "method-wrapper") = true by decide, if_true]
 refine wpAny_pure ?_
 exact wpAny_bind (wpAny_mono h (fun r s₂ hr => wpAny_bind (wpAny_holding (wpAny_point (wpAny_pure hr)))) fun _ _ x => x)
end
section
variable {hw : Heap} {wl : List Addr} {w : World} {A : Around} {s0 s : Shared} {env : Env} {fs X : List Addr} {G : SG} {V : SV} {S IT SE ND : Addr} {rk : Nat -> Nat} {seen : Nat -> Bool} {E : Value -> Shared -> Prop} {kv : Option PV}
set_option maxHeartbeats 2000000 in
theorem fc_pop {pre : List PE} {p : PE} (O : OWN hw wl s0 env X S IT SE ND) (T0 : TS w s0.heap G V) (hn : env.scope.names = (fd_find_cycle pw).scope.names) (hint : interactive env = false)
  (x : FR hw wl w s0 env fs X G V S IT SE ND kv s) (c : FCI w s.heap G V S IT SE ND rk (pre ++ [p]) seen) {Q : Flow -> Shared -> Prop}
  (next : ∀ s', FR hw wl w s0 env fs X G V S IT SE ND kv s' -> FCI w s'.heap G V S IT SE ND rk pre seen -> Q .next s') :
  wpAny (model pw w) A (execs (tryHand fcTry) env) Q E s := by
 have hS := O.x.1
 have hIT := O.x.2.1
 have hND := O.x.2.2.2
 have sing : ∀ {a : Addr} {Pr : Addr -> Prop}, Pr a -> ∀ b ∈ [a], Pr b := fun h b hb => by rw [List.mem_singleton.mp hb]; exact h
 have hpl : (pre ++ [p]).length <= 200 := by
  have hsub : ((pre ++ [p]).map (·.v)).Nodup := c.rk.imp fun h e => by rw [e] at h; exact Nat.lt_irrefl _ h
  have := (nodup_le hsub fun v hv => by
   obtain ⟨p, hp, rfl⟩ := List.mem_map.mp hv
   exact (c.el p hp).2.2.2 : ((pre ++ [p]).map (·.v)).length <= G.order.length)
  have := T0.small
  rw [List.length_map] at *; lia
 have hnd : ((pre ++ [p]).map (·.v)).Nodup := c.rk.imp fun h e => by rw [e] at h; exact Nat.lt_irrefl _ h
 obtain ⟨⟨oS, eS, cS⟩, ⟨oI, eI, cI⟩, ⟨oE, eE, cE⟩, ⟨oN, eN, cN⟩, tp⟩ := c.there
 refine wpAny_execs_cons (wpAny_Delete (wpAny_deleteEach_cons (wpAny_delete_Subscript ((Ev.name x.F.toRd 5 (nm hn rfl) rfl) s _ _ (HK.refl _) fun ov s₁ g₁ r₁ => MethodCall_ ((Ev.name (x.gw g₁).F.toRd 2 (nm hn rfl) rfl) s₁ _ _ (HK.refl _) fun v s₂ g₂ r₂ => ?_) (by rfl)))))
 obtain rfl : ov = .ref ND := r₁
 obtain rfl : v = .ref S := r₂
 have g12 := g₁.trans g₂
 have x₂ := x.gw g12
 have c₂ := c.hk g12.hk
 obtain ⟨vsS, nS, hoS, hiS⟩ := c₂.st
 rw [List.map_append, zs_append] at hiS
 obtain ⟨l', t, hl', hi'⟩ := ints_snoc (b := (p.v : Int)) hiS
 obtain ⟨er1, er2, er3⟩ := erase_last hl'
 have hl2 : l'.length = pre.length := by have := hi'.length; simpa using this
 rw [List.length_append] at hpl
 refine (GM.list hoS PySem.F.slot_list_pop PySem.F.type_list_pop).out _ _ ?_
 refine PySem.P.pop_list hoS er2 ?_ (by rw [er3, hl2]; unfold sizeLine; simp at hpl; lia)
 generalize hs3 : ({ s₂ with heap := s₂.heap.update S (Obj.mapSeq fun xs => xs.eraseIdxIfInBounds (vsS.size - 1)) } : Shared) = s₃
 have m₃ : Mv [S] s₂ s₃ := by rw [<- hs3]; exact ⟨⟨_, s₂.toks, rfl⟩, Kp.of_same (Heap.SameBut.update ..)⟩
 have il3 : IL s₃.heap S (pre.map (·.v)) := by rw [<- hs3]; exact ⟨_, _, Heap.get?_update_self _ hoS rfl, by rw [er1]; exact hi'⟩
 have x₃ := x₂.move T0 m₃ (sing O.f.1) (sing O.o.1) (sing (.inl hS)) (sing fun _ => let ⟨_, _, e, _⟩ := il3; ⟨_, e⟩) (sing O.w.1)
 have nS : SE ≠ S /\ IT ≠ S /\ ND ≠ S /\ ∀ p' ∈ pre ++ [p], p'.W ≠ S /\ p'.J ≠ S :=
  ⟨ne_of_cls eE eS (by rw [cE, cS]; decide), fun e => O.d e.symm, ne_of_cls eN eS (by rw [cN, cS]; decide), fun p hp => by
   obtain ⟨⟨_, a1, c1⟩, _, a2, c2⟩ := tp p hp
   exact ⟨ne_of_cls a1 eS (by rw [c1, cS]; decide), ne_of_cls a2 eS (by rw [c2, cS]; decide)⟩⟩
 obtain ⟨kvs, dND, hkv⟩ := c₂.nd
 have dND3 : s₃.heap.DictOf (intKind pw w) ND kvs := DictOf.at_ dND fun o => m₃.kp _ o (by simpa using nS.2.2.1)
 have hkvl : kvs.length = pre.length + 1 := by have := congrArg List.length hkv; simpa using this
 have hthere : (valueAt kvs (p.v : Int)).isSome = true := by rw [valueAt_some, hkv]; simp
 have hwo : (without kvs (p.v : Int)).map (·.1) = pre.map fun p => (p.v : Int) := by
  unfold without
  have e1 : (kvs.filter fun kv => decide (kv.1 ≠ (p.v : Int))).map (·.1) = (kvs.map (·.1)).filter fun k => decide (k ≠ (p.v : Int)) := by rw [List.filter_map]; rfl
  rw [e1, hkv, List.map_append, List.filter_append]
  have e2 : (pre.map fun p => (p.v : Int)).filter (fun k => decide (k ≠ (p.v : Int))) = pre.map fun p => (p.v : Int) := by
   refine List.filter_eq_self.mpr fun a ha => ?_
   obtain ⟨q, hq, rfl⟩ := List.mem_map.mp ha
   refine decide_eq_true fun e => ?_
   rw [List.map_append, List.nodup_append] at hnd
   exact hnd.2.2 q.v (List.mem_map_of_mem hq) p.v (by simp) (by lia)
  rw [e2]; simp
 unfold delItem
 try with_reducible refine wpAny_holding ?_
 refine wpAny_bind (wpAny_sequenceKey dND3.typeIs (by decide) ?_)
 refine wpAny_bind (wpAny_callSpecial?_slot (name := Str.ofString "__delitem__") dND3.typeIs PySem.F.slot_dict_delitem
  (call_meetsIn PySem.F.slot_dict_delitem dND3.typeIs PySem.F.entry_dict_delitem (PySem.F.args_dict_delitem_2 _ _) (meets_dict_delitem_pairs (intKind pw w) ND (isInt_int (p.v : Int) t)) ⟨kvs, dND3, (by rw [hkvl]; unfold sizeLine; simp at hpl; lia), hthere, fun h4 dND4 sb4 => ?_⟩))
 refine wpAny_pure (wpAny_deleteEach_nil ?_)
 generalize hs4 : ({ s₃ with heap := h4, toks := s₃.toks + 1 } : Shared) = s₄
 have e4 : s₄.heap = h4 := by rw [<- hs4]
 have m₄ : Mv [ND] s₃ s₄ := by rw [<- hs4]; exact ⟨⟨h4, s₃.toks + 1, rfl⟩, Kp.of_same sb4⟩
 rw [<- e4] at dND4
 have x₄ := x₃.move T0 m₄ (sing O.f.2.2.2) (sing O.o.2.2.2) (sing (.inl hND)) (sing fun _ => let ⟨o, _, _, e, _⟩ := dND4; ⟨o, e⟩) (sing O.w.2.2.2)
 have nND : S ≠ ND /\ SE ≠ ND /\ IT ≠ ND /\ ∀ p' ∈ pre ++ [p], p'.W ≠ ND /\ p'.J ≠ ND :=
  ⟨fun e => nS.2.2.1 e.symm, ne_of_cls eE eN (by rw [cE, cN]; decide), ne_of_cls eI eN (by rw [cI, cN]; decide), fun p hp => by
   obtain ⟨⟨_, a1, c1⟩, _, a2, c2⟩ := tp p hp
   exact ⟨ne_of_cls a1 eN (by rw [c1, cN]; decide), ne_of_cls a2 eN (by rw [c2, cN]; decide)⟩⟩
 have k24 : ∀ b o, b ≠ S -> b ≠ ND -> s₂.heap.get? b = some o -> s₄.heap.get? b = some o := fun b o h1 h2 e => m₄.kp b o (by simpa using h2) (m₃.kp b o (by simpa using h1) e)
 obtain ⟨vsI, nI, hoI, hvI⟩ := c₂.it
 rw [List.map_append] at hvI
 obtain ⟨ei1, ei2, ei3⟩ := erase_last hvI
 refine wpAny_execs_cons (wpAny_Expr_any (MethodCall_ ((Ev.name x₄.F.toRd 3 (nm hn rfl) rfl) s₄ _ _ (HK.refl _) fun v s₅ g₅ r₅ => ?_) (by rfl)) hint (by rfl))
 obtain rfl : v = .ref IT := r₅
 have hoI5 : s₅.heap.get? IT = some (listObj vsI nI) := g₅.hk _ _ (k24 _ _ nS.2.1 nND.2.2.1 hoI)
 refine (GM.list hoI5 PySem.F.slot_list_pop PySem.F.type_list_pop).out _ _ ?_
 refine PySem.P.pop_list hoI5 ei2 ?_ (by rw [ei3, List.length_map]; unfold sizeLine; simp at hpl; lia)
 generalize hs6 : ({ s₅ with heap := s₅.heap.update IT (Obj.mapSeq fun xs => xs.eraseIdxIfInBounds (vsI.size - 1)) } : Shared) = s₆
 have m₆ : Mv [IT] s₅ s₆ := by rw [<- hs6]; exact ⟨⟨_, s₅.toks, rfl⟩, Kp.of_same (Heap.SameBut.update ..)⟩
 have it6 : ∃ vs n, s₆.heap.get? IT = some (listObj vs n) /\ vs.toList = pre.map fun p => Value.ref p.W := by rw [<- hs6]; exact ⟨_, _, Heap.get?_update_self _ hoI5 rfl, ei1⟩
 have x₆ := (x₄.gw g₅).move T0 m₆ (sing O.f.2.1) (sing O.o.2.1) (sing (.inl hIT)) (sing fun _ => let ⟨_, _, e, _⟩ := it6; ⟨_, e⟩) (sing O.w.2.1)
 have nIT : S ≠ IT /\ SE ≠ IT /\ ND ≠ IT /\ ∀ p' ∈ pre ++ [p], p'.W ≠ IT /\ p'.J ≠ IT :=
  ⟨O.d, ne_of_cls eE eI (by rw [cE, cI]; decide), ne_of_cls eN eI (by rw [cN, cI]; decide), fun p hp => by
   obtain ⟨⟨_, a1, c1⟩, _, a2, c2⟩ := tp p hp
   exact ⟨ne_of_cls a1 eI (by rw [c1, cI]; decide), ne_of_cls a2 eI (by rw [c2, cI]; decide)⟩⟩
 have k46 : ∀ b o, b ≠ IT -> s₄.heap.get? b = some o -> s₆.heap.get? b = some o := fun b o h1 e => m₆.kp b o (by simpa using h1) (g₅.hk b o e)
 refine x_nil (next s₆ x₆ ?_)
 exact {
  st := (il3.at_ fun o => m₄.kp _ o (by simpa using nND.1)).at_ fun o => k46 _ o nIT.1
  it := it6
  se := let ⟨Sf, n, ⟨o, es, ep, tb, ho, r⟩, q⟩ := c₂.se; ⟨Sf, n, ⟨o, es, ep, tb, k46 _ _ nIT.2.1 (k24 _ _ nS.1 nND.2.1 ho), r⟩, q⟩
  nd := ⟨_, DictOf.at_ dND4 fun o => k46 _ o nIT.2.2.1, hwo⟩
  el := fun q hq => by
   have hq' := List.mem_append_left [p] hq
   exact (c₂.el q hq').at_ (fun o e => k46 _ _ (nIT.2.2.2 q hq').1 (k24 _ _ (nS.2.2.2 q hq').1 (nND.2.2.2 q hq').1 e)) (fun o e => k46 _ _ (nIT.2.2.2 q hq').2 (k24 _ _ (nS.2.2.2 q hq').2 (nND.2.2.2 q hq').2 e))
  rk := by have := c.rk; rw [List.map_append, List.pairwise_append] at this; exact this.1
  js := by have := c.js; rw [List.map_append, List.nodup_append] at this; exact this.1
  sn := fun q hq => c.sn q (List.mem_append_left _ hq) }
end
theorem ints_get : ∀ {xs : List Nat} {l : List Value} {i k : Nat}, IntsAre l (zs xs) -> xs[i]? = some k -> ∃ t, l[i]? = some (.int (k : Int) t)
 | [], _, _, _, _, e => by simp at e
 | x :: xs, l, i, k, h, e => by
  cases h with
  | cons _ t h =>
   cases i with
   | zero =>
    obtain rfl : x = k := (by simpa using e); exact ⟨t, rfl⟩
   | succ i =>
    have := ints_get (xs := xs) (i := i) (k := k) h (by simpa using e)
    simpa using this
theorem sub_stop : isSubtype (.type "StopIteration") (.type "StopIteration") = pure true := by rw [isSubtype_type]; kernel_rfl
theorem sub_exc : isSubtype (.type "StopIteration") (.type "BaseException") = pure true := by rw [isSubtype_type]; kernel_rfl
theorem sub_meta : isSubtype (.type ((Manifest.find? "StopIteration").elim "type" fun x => x.metatype)) (.type "tuple") = pure false := by rw [isSubtype_type]; kernel_rfl
def PO (wl : List Addr) (s0 : Shared) (X : List Addr) (V : SV) (path : List PE) : Prop := ∀ p ∈ path, p.i <= (V.succ p.v).length /\ s0.heap.get? p.J = none /\ p.J ∉ X /\ s0.heap.get? p.W = none /\ p.W ∉ X /\ p.J ∉ wl
section
variable {hw : Heap} {wl : List Addr} {w : World} {A : Around} {s0 s : Shared} {env : Env} {outer : List Env} {X : List Addr} {G : SG} {V : SV} {S IT SE ND : Addr} {rk : Nat -> Nat} {seen : Nat -> Bool} {E : Value -> Shared -> Prop} {kv : Option PV}
set_option maxHeartbeats 2000000 in
theorem fc_try {pre : List PE} {p : PE} (O : OWN hw wl s0 env X S IT SE ND) (T0 : TS w s0.heap G V) (GB0 : GB (framesOf outer) s0.heap) (hn : env.scope.names = (fd_find_cycle pw).scope.names) (eg : env.globals = mainGlobals) (eb : env.builtins = builtinsNs) (hint : interactive env = false)
  (hh : A.handled = none) (hfr : A.frames = some (env :: outer)) (hf : env.frame = some env.locals) (FF0 : FF s0.heap outer) (hfX : ∀ b ∈ framesOf outer, b ∈ X) (hfp : ∀ b ∈ G.fp, b ∉ framesOf outer) (hfw : ∀ b ∈ framesOf outer, b ∉ wl)
  (x : FR hw wl w s0 env (framesOf outer) X G V S IT SE ND kv s) (c : FCI w s.heap G V S IT SE ND rk (pre ++ [p]) seen) (po : PO wl s0 X V (pre ++ [p])) {Q : Flow -> Shared -> Prop}
  (item : ∀ s' k', (V.succ p.v)[p.i]? = some k' -> FR hw wl w s0 env (framesOf outer) X G V S IT SE ND (some (.int k')) s' -> FCI w s'.heap G V S IT SE ND rk (pre ++ [{ p with i := p.i + 1 }]) seen -> Q .brk s')
  (done : ∀ s', p.i = (V.succ p.v).length -> FR hw wl w s0 env (framesOf outer) X G V S IT SE ND kv s' -> FCI w s'.heap G V S IT SE ND rk pre seen -> Q .next s') :
  wpAny (model pw w) A (exec fcTry env) Q E s := by
 have sing : ∀ {a : Addr} {Pr : Addr -> Prop}, Pr a -> ∀ b ∈ [a], Pr b := fun h b hb => by rw [List.mem_singleton.mp hb]; exact h
 have hp : p ∈ pre ++ [p] := by simp
 obtain ⟨hpi, hJ0, hJX, hW0, hWX, hJw⟩ := po p hp
 have hJo : p.J ∉ own env := fun z => hJX (x.F.ox _ z)
 refine wpAny_Try_except ?_
 refine wpAny_execs_cons (wpAny_Assign_Name ?_ (by rfl))
 show wpAny _ _ (eval (.Subscript _ _ _) env >>= fun f => callWith _ f [] (backTo _ (starEach [] env)) []) _ _ _
 refine wpAny_bind (Subscript_ ((Ev.name x.F.toRd 3 (nm hn rfl) rfl) s _ _ (HK.refl _) fun ov s₁ g₁ r₁ => (Ev.neg (X := X) Ev.int) s₁ _ _ (HK.refl _) fun iv s₂ g₂ r₂ => ?_))
 obtain rfl : ov = .ref IT := r₁
 obtain ⟨t2, rfl⟩ := r₂
 have x₂ := x.gw (g₁.trans g₂)
 have c₂ := c.hk (g₁.trans g₂).hk
 obtain ⟨vsI, nI, hoI, hvI⟩ := c₂.it
 rw [List.map_append] at hvI
 obtain ⟨_, ei2, ei3⟩ := erase_last hvI
 have hlI : s₂.heap.IsList IT vsI := ⟨_, hoI, rfl, nI, rfl⟩
 refine tail_any hlI.typeIs slot_list_getitem.lookup (wpAny_getItem_list_neg hlI (by decide) (by lia) (by decide) (by
  have : ((-1 : Int) + (vsI.size : Int)).toNat = vsI.size - 1 := by lia
  rw [this]; exact ei2) ?_) (by rfl)
 obtain ⟨hWo, ⟨oJ, hJo', hJc⟩, hit, hord⟩ := c₂.el p hp
 have hit := hit hpi
 obtain ⟨vsY, nY, hoY, hiY⟩ := x₂.ts.succ p.v hord
 have hlY : s₂.heap.IsList (G.y p.v) vsY := ⟨_, hoY, rfl, nY, rfl⟩
 have hszY : vsY.size = (V.succ p.v).length := by have := hiY.length; simpa using this
 obtain ⟨⟨oS, eS, cS⟩, ⟨oI, eI, cI⟩, ⟨oE, eE, cE⟩, ⟨oN, eN, cN⟩, tp⟩ := c₂.there
 have nJ : S ≠ p.J /\ IT ≠ p.J /\ SE ≠ p.J /\ ND ≠ p.J /\ ∀ q ∈ pre ++ [p], q.W ≠ p.J :=
  ⟨ne_of_cls eS hJo' (by rw [cS, hJc]; decide), ne_of_cls eI hJo' (by rw [cI, hJc]; decide), ne_of_cls eE hJo' (by rw [cE, hJc]; decide), ne_of_cls eN hJo' (by rw [cN, hJc]; decide), fun q hq => by
   obtain ⟨⟨_, a1, c1⟩, _⟩ := tp q hq
   exact ne_of_cls a1 hJo' (by rw [c1, hJc]; decide)⟩
 have hJd : ∀ o, s₂.heap.get? p.J = some o -> ¬ isData o := fun o e z => by
  rw [hJo'] at e; cases e
  unfold isData at z
  rw [hJc] at z
  rcases z with z | z | z <;> exact absurd z (by decide)
 have hjne : ∀ q ∈ pre, q.J ≠ p.J := fun q hq e => by
  have := c.js
  rw [List.map_append, List.nodup_append] at this
  exact this.2.2 q.J (List.mem_map_of_mem hq) p.J (by simp) e
 refine callWith_mw hWo ?_
 by_cases hlt : p.i < (V.succ p.v).length
 ·-- an item
  have hk' : (V.succ p.v)[p.i]? = some ((V.succ p.v)[p.i]'hlt) := List.getElem?_eq_getElem hlt
  generalize (V.succ p.v)[p.i]'hlt = k' at hk'
  obtain ⟨t, hvt⟩ := ints_get hiY hk'
  refine LI.call_item hWo hit hlY (by rw [<- Array.getElem?_toList]; exact hvt) fun h3 it3 sb3 => ?_
  generalize hs3 : ({ s₂ with heap := h3 } : Shared) = s₃
  have e3 : s₃.heap = h3 := by rw [<- hs3]
  have m₃ : Mv [p.J] s₂ s₃ := by rw [<- hs3]; exact ⟨⟨h3, s₂.toks, rfl⟩, Kp.of_same sb3⟩
  rw [<- e3] at it3
  have x₃ := x₂.move T0 m₃ (sing hJ0) (sing hJo) (sing (.inr hJd)) (sing fun z => absurd z hJX) (sing hJw)
  have k23 : ∀ b o, b ≠ p.J -> s₂.heap.get? b = some o -> s₃.heap.get? b = some o := fun b o hb e => m₃.kp b o (by simpa using hb) e
  have c₃ : FCI w s₃.heap G V S IT SE ND rk (pre ++ [{ p with i := p.i + 1 }]) seen := {
   st := by have := c₂.st.at_ fun o => k23 _ o nJ.1; rw [List.map_append] at this ⊢; exact this
   it := ⟨vsI, nI, k23 _ _ nJ.2.1 hoI, by rw [List.map_append]; exact hvI⟩
   se := let ⟨Sf, n, ⟨o, es, ep, tb, ho, r⟩, q⟩ := c₂.se; ⟨Sf, n, ⟨o, es, ep, tb, k23 _ _ nJ.2.2.1 ho, r⟩, q⟩
   nd := let ⟨kvs, d, q⟩ := c₂.nd; ⟨kvs, DictOf.at_ d fun o => k23 _ o nJ.2.2.2.1, by rw [List.map_append] at q ⊢; exact q⟩
   el := fun q hq => by
    rcases List.mem_append.mp hq with hq | hq
    ·exact (c₂.el q (List.mem_append_left _ hq)).at_ (fun o => k23 _ o (nJ.2.2.2.2 q (List.mem_append_left _ hq))) (fun o => k23 _ o (hjne q hq))
    ·rw [List.mem_singleton.mp hq]
     obtain ⟨o, ho, hc, _⟩ := id it3
     exact ⟨k23 _ _ (nJ.2.2.2.2 p hp) hWo, ⟨o, ho, hc⟩, fun _ => it3, hord⟩
   rk := by have := c.rk; rw [List.map_append] at this ⊢; exact this
   js := by have := c.js; rw [List.map_append] at this ⊢; exact this
   sn := fun q hq => by
    rcases List.mem_append.mp hq with hq | hq
    ·exact c.sn q (List.mem_append_left _ hq)
    ·rw [List.mem_singleton.mp hq]; exact c.sn p hp }
  refine store x₃.F 6 (nm hn rfl) (.inl rfl) (p := .int k') ⟨t, rfl⟩ fun s₄ m₄ F₄ => ?_
  have x₄ := x₃.mine T0 O.e m₄ F₄
  have nown : ∀ b o, s₃.heap.get? b = some o -> b ∉ X -> b ∉ own env := fun b o _ hb z => hb (x.F.ox b z)
  have c₄ := c₃.kp m₄.kp O.o.1 O.o.2.1 O.o.2.2.1 O.o.2.2.2 fun q hq => by
   rcases List.mem_append.mp hq with hq | hq
   ·exact ⟨fun z => (po q (List.mem_append_left _ hq)).2.2.2.2.1 (x.F.ox _ z), fun z => (po q (List.mem_append_left _ hq)).2.2.1 (x.F.ox _ z)⟩
   ·rw [List.mem_singleton.mp hq]; exact ⟨fun z => hWX (x.F.ox _ z), hJo⟩
  exact wpAny_execs_cons (wpAny_Break (item s₄ k' hk' x₄ c₄))
 ·-- the end
  have hpe : p.i = (V.succ p.v).length := by lia
  refine LI.call_end hh hWo hit hlY (by rw [Array.getElem?_eq_none]; lia) fun h3 e vs ext3 hJ3 hef heo h1 => ?_
  generalize hs3 : ({ s₂ with heap := h3 } : Shared) = s₃
  have e3 : s₃.heap = h3 := by rw [<- hs3]
  have m₃ : Mv [p.J] s₂ s₃ := by rw [<- hs3]; exact ⟨⟨h3, s₂.toks, rfl⟩, fun b o hb eb => ext3 b o (by simpa using hb) eb⟩
  rw [<- e3] at hJ3 heo
  have x₃ := x₂.move T0 m₃ (sing hJ0) (sing hJo) (sing (.inr hJd)) (sing fun z => absurd z hJX) (sing hJw)
  have k23 : ∀ b o, b ≠ p.J -> s₂.heap.get? b = some o -> s₃.heap.get? b = some o := fun b o hb e => m₃.kp b o (by simpa using hb) e
  have c₃ : FCI w s₃.heap G V S IT SE ND rk (pre ++ [{ p with i := p.i + 1 }]) seen := {
   st := by have := c₂.st.at_ fun o => k23 _ o nJ.1; rw [List.map_append] at this ⊢; exact this
   it := ⟨vsI, nI, k23 _ _ nJ.2.1 hoI, by rw [List.map_append]; exact hvI⟩
   se := let ⟨Sf, n, ⟨o, es, ep, tb, ho, r⟩, q⟩ := c₂.se; ⟨Sf, n, ⟨o, es, ep, tb, k23 _ _ nJ.2.2.1 ho, r⟩, q⟩
   nd := let ⟨kvs, d, q⟩ := c₂.nd; ⟨kvs, DictOf.at_ d fun o => k23 _ o nJ.2.2.2.1, by rw [List.map_append] at q ⊢; exact q⟩
   el := fun q hq => by
    rcases List.mem_append.mp hq with hq | hq
    ·exact (c₂.el q (List.mem_append_left _ hq)).at_ (fun o => k23 _ o (nJ.2.2.2.2 q (List.mem_append_left _ hq))) (fun o => k23 _ o (hjne q hq))
    ·rw [List.mem_singleton.mp hq]
     exact ⟨k23 _ _ (nJ.2.2.2.2 p hp) hWo, hJ3, fun z => absurd z (by show ¬ (p.i + 1 <= (V.succ p.v).length); lia), hord⟩
   rk := by have := c.rk; rw [List.map_append] at this ⊢; exact this
   js := by have := c.js; rw [List.map_append] at this ⊢; exact this
   sn := fun q hq => by
    rcases List.mem_append.mp hq with hq | hq
    ·exact c.sn q (List.mem_append_left _ hq)
    ·rw [List.mem_singleton.mp hq]; exact c.sn p hp }
  have ff3 : FF s₃.heap (env :: outer) := by
   obtain ⟨m, o, es, ep, ho, hd, _⟩ := x₃.F.ns
   refine ⟨by rw [x₃.F.kind]; decide, ⟨env.locals, o, hf, rfl, ho, fun vs z => by rw [hd] at z; cases z⟩, Heap.FunFrames.of_keeps (fun b o e _ => ?_) FF0⟩
   obtain ⟨sl, e'⟩ := x₃.tn.sl b o e
   exact ⟨_, e', rfl⟩
  have s0e : ∀ b o, s0.heap.get? b = some o -> b ≠ e := fun b o eb z => by
   obtain ⟨sl, e'⟩ := x₂.tn.sl b o eb
   rw [z, hef] at e'; cases e'
  have xe : ∀ b ∈ X, b ≠ e := fun b hb z => by obtain ⟨o, e'⟩ := x₂.F.xb b hb; rw [z, hef] at e'; cases e'
  have frX : ∀ b ∈ framesOf (env :: outer), b ∈ X := fun b hb => by
   unfold framesOf at hb
   rw [List.filterMap_cons, hf] at hb
   rcases List.mem_cons.mp hb with rfl | hb
   ·exact x.F.ox _ List.mem_cons_self
   ·exact hfX b hb
  have frne : ∀ b, s0.heap.get? b = none -> b ∉ own env -> b ∉ framesOf (env :: outer) := fun b h0 ho hb => by
   unfold framesOf at hb
   rw [List.filterMap_cons, hf] at hb
   rcases List.mem_cons.mp hb with rfl | hb
   ·exact ho List.mem_cons_self
   ·obtain ⟨_, o, e', _⟩ := FF0.mem hb; rw [h0] at e'; cases e'
  refine land hfr ff3 hf heo h1 fun h4 tb vs' tvs keep he4 h14 htb htbe htb4 hsz4 => ?_
  generalize hs4 : ({ s₃ with heap := h4 } : Shared) = s₄
  have e4 : s₄.heap = h4 := by rw [<- hs4]
  rw [<- e4] at keep he4 htb4
  have tn4 : Tn (framesOf outer) s0.heap s₄.heap := ⟨fun b o hb eb => by
    have e' := x₃.tn.kp b o hb eb
    refine (keep b o (s0e b o eb) e').1 fun z => ?_
    unfold framesOf at z
    rw [List.filterMap_cons, hf] at z
    rcases List.mem_cons.mp z with rfl | z
    ·rw [x₃.F.fresh _ List.mem_cons_self] at eb; cases eb
    ·exact hb z, fun b o eb => by
    obtain ⟨sl, e'⟩ := x₃.tn.sl b o eb
    obtain ⟨sl', e''⟩ := (keep b _ (s0e b o eb) e').2
    exact ⟨sl', e''⟩⟩
  have x₄ : FR hw wl w s0 env (framesOf outer) X G V S IT SE ND kv s₄ := ⟨ex_tr x₃.ex ⟨h4, s₃.toks, hs4.symm⟩,
   x₃.F.shift (fun b o hb hc eb => (keep b o (fun z => by
     rw [z, heo] at eb; cases eb
     rcases hc with q | q | q <;> exact absurd (show Value.type "StopIteration" = _ from q) (by decide)) eb).1 fun z => hb (frX b z))
    (fun b hb o eb => (keep b o (xe b (x.F.ox b hb)) eb).2) tn4.kp (fun b hb => by
     obtain ⟨o, eb⟩ := x₃.F.xb b hb
     obtain ⟨sl, e'⟩ := (keep b o (xe b hb) eb).2
     exact ⟨_, e'⟩), tn4,
   x₃.ts.kp (M := e :: framesOf (env :: outer)) (fun b o hb eb => (keep b o (fun z => hb (z ▸ List.mem_cons_self)) eb).1 fun z => hb (List.mem_cons_of_mem _ z)) fun b hb z => by
    obtain ⟨o, e0⟩ := T0.ex b hb
    rcases List.mem_cons.mp z with z | z
    ·exact s0e b o e0 z
    ·unfold framesOf at z
     rw [List.filterMap_cons, hf] at z
     rcases List.mem_cons.mp z with z | z
     ·rw [z, x.F.fresh _ List.mem_cons_self] at e0; cases e0
     ·exact hfp b hb z,
   fun b hb o eb => by
    have e' := x₃.wt b hb o eb
    have hx2 := x₂.wt b hb o eb
    refine (keep b o (fun z => by rw [z, hef] at hx2; cases hx2) e').1 fun z => ?_
    unfold framesOf at z
    rw [List.filterMap_cons, hf] at z
    rcases List.mem_cons.mp z with z | z
    ·exact O.e _ List.mem_cons_self (z ▸ hb)
    ·exact hfw b z hb⟩
  have c₄ : FCI w s₄.heap G V S IT SE ND rk (pre ++ [{ p with i := p.i + 1 }]) seen := by
   refine c₃.kp (M := e :: framesOf (env :: outer)) (fun b o hb eb => (keep b o (fun z => hb (z ▸ List.mem_cons_self)) eb).1 fun z => hb (List.mem_cons_of_mem _ z)) ?_ ?_ ?_ ?_ ?_
   ·exact fun z => (List.mem_cons.mp z).elim (xe _ O.x.1) (frne _ O.f.1 O.o.1)
   ·exact fun z => (List.mem_cons.mp z).elim (xe _ O.x.2.1) (frne _ O.f.2.1 O.o.2.1)
   ·exact fun z => (List.mem_cons.mp z).elim (xe _ O.x.2.2.1) (frne _ O.f.2.2.1 O.o.2.2.1)
   ·exact fun z => (List.mem_cons.mp z).elim (xe _ O.x.2.2.2) (frne _ O.f.2.2.2 O.o.2.2.2)
   ·have ewj : ∀ b, (∃ o, s₂.heap.get? b = some o) -> b ≠ e := fun b ⟨o, eb⟩ z => by rw [z, hef] at eb; cases eb
    have key : ∀ q ∈ pre ++ [p], q.W ∉ e :: framesOf (env :: outer) /\ q.J ∉ e :: framesOf (env :: outer) := fun q hq => by
     obtain ⟨⟨_, a1, _⟩, _, a2, _⟩ := tp q hq
     obtain ⟨_, _, j1, _, j2, _⟩ := po q hq
     exact ⟨fun z => (List.mem_cons.mp z).elim (ewj _ ⟨_, a1⟩) fun z => j2 (frX _ z), fun z => (List.mem_cons.mp z).elim (ewj _ ⟨_, a2⟩) fun z => j1 (frX _ z)⟩
    intro q hq
    rcases List.mem_append.mp hq with hq | hq
    ·exact key q (List.mem_append_left _ hq)
    ·rw [List.mem_singleton.mp hq]; exact key p hp
  refine wpAny_handleBy_builtin (X := "StopIteration") (T := "StopIteration") (b := true) sub_exc sub_meta sub_stop ?_
  have G₄ : Grd pw s₄.heap := (GB0.kp x₄.tn.kp).grd
  refine (Ev.glob x₄.F.toRd 10 (nm hn rfl) G₄.g_StopIteration eg eb) s₄ _ _ (HK.refl _) fun cv s₅ g₅ r₅ => ?_
  obtain rfl : cv = .type "StopIteration" := r₅
  have x₅ := x₄.gw g₅
  have c₅ := c₄.hk g₅.hk
  refine ⟨rfl, ⟨_, g₅.hk _ _ he4, rfl⟩, ?_⟩
  rw [if_pos rfl]
  refine wpAny_setFlight_none (g₅.hk _ _ he4) rfl h14 (g₅.hk _ _ htb4) rfl hsz4 ?_
  generalize hs6 : ({ s₅ with heap := s₅.heap.update tb (Obj.mapFields (·.setIfInBounds 3 .none)) } : Shared) = s₆
  have m₆ : Mv [tb] s₅ s₆ := by rw [<- hs6]; exact ⟨⟨_, s₅.toks, rfl⟩, Kp.of_same (Heap.SameBut.update ..)⟩
  have htb0 : s0.heap.get? tb = none := by
   cases q : s0.heap.get? tb with
   | none => rfl
   | some o => obtain ⟨sl, e'⟩ := x₃.tn.sl tb o q; rw [htb] at e'; cases e'
  have htbX : tb ∉ X := fun z => by obtain ⟨o, e'⟩ := x₃.F.xb tb z; rw [htb] at e'; cases e'
  have x₆ := x₅.move T0 m₆ (sing htb0) (sing fun z => htbX (x.F.ox _ z)) (sing (.inr fun o eo z => by
   rw [g₅.hk _ _ htb4] at eo; cases eo
   rcases z with z | z | z <;> exact absurd (show Value.type "traceback" = _ from z) (by decide))) (sing fun z => absurd z htbX) (sing fun z => by obtain ⟨o, e'⟩ := O.wx tb z; have := x₃.wt tb z o e'; rw [htb] at this; cases this)
  have tb3 : ∀ b, (∃ o, s₃.heap.get? b = some o) -> b ∉ [tb] := fun b ⟨o, eb⟩ z => by rw [List.mem_singleton.mp z, htb] at eb; cases eb
  obtain ⟨⟨_, f1, _⟩, ⟨_, f2, _⟩, ⟨_, f3, _⟩, ⟨_, f4, _⟩, f5⟩ := c₃.there
  have c₆ := c₅.kp m₆.kp (tb3 _ ⟨_, f1⟩) (tb3 _ ⟨_, f2⟩) (tb3 _ ⟨_, f3⟩) (tb3 _ ⟨_, f4⟩) fun q hq => by
   obtain ⟨⟨_, a1, _⟩, _, a2, _⟩ := f5 q hq
   exact ⟨tb3 _ ⟨_, a1⟩, tb3 _ ⟨_, a2⟩⟩
  exact fc_pop O T0 hn hint x₆ c₆ fun s' x' c' => done s' hpe x' c'
end
noncomputable def Pm (V : SV) (path : List PE) : Nat := (path.map fun p => (V.succ p.v).length - p.i).sum
def Ranked (G : SG) (V : SV) (rk : Nat -> Nat) : Prop := ∀ v ∈ G.order, ∀ j ∈ V.succ v, j ∈ G.order /\ rk v < rk j
section
variable {hw : Heap} {wl : List Addr} {w : World} {A : Around} {s0 s : Shared} {env : Env} {outer : List Env} {X : List Addr} {G : SG} {V : SV} {S IT SE ND : Addr} {rk : Nat -> Nat} {seen : Nat -> Bool} {E : Value -> Shared -> Prop} {kv : Option PV} {path : List PE}
structure CTX (hw : Heap) (wl : List Addr) (w : World) (A : Around) (s0 : Shared) (env : Env) (outer : List Env) (X : List Addr) (G : SG) (V : SV) (S IT SE ND : Addr) (rk : Nat -> Nat) : Prop where
 O : OWN hw wl s0 env X S IT SE ND
 T0 : TS w s0.heap G V
 GB0 : GB (framesOf outer) s0.heap
 hn : env.scope.names = (fd_find_cycle pw).scope.names
 eg : env.globals = mainGlobals
 eb : env.builtins = builtinsNs
 hint : interactive env = false
 hh : A.handled = none
 hfr : A.frames = some (env :: outer)
 hf : env.frame = some env.locals
 FF0 : FF s0.heap outer
 hfX : ∀ b ∈ framesOf outer, b ∈ X
 hfp : ∀ b ∈ G.fp, b ∉ framesOf outer
 hfw : ∀ b ∈ framesOf outer, b ∉ wl
 ac : Ranked G V rk
set_option maxHeartbeats 1000000 in
theorem fc_inner (C : CTX hw wl w A s0 env outer X G V S IT SE ND rk) (x : FR hw wl w s0 env (framesOf outer) X G V S IT SE ND kv s) (c : FCI w s.heap G V S IT SE ND rk path seen) (po : PO wl s0 X V path) {Q : Flow -> Shared -> Prop}
  (more : ∀ s' path' (k' : Nat), FR hw wl w s0 env (framesOf outer) X G V S IT SE ND (some (.int k')) s' -> FCI w s'.heap G V S IT SE ND rk path' seen -> PO wl s0 X V path' -> k' ∈ G.order -> (∀ p ∈ path', rk p.v < rk k') -> Pm V path' < Pm V path -> Q .next s')
  (fin : ∀ s', FR hw wl w s0 env (framesOf outer) X G V S IT SE ND kv s' -> FCI w s'.heap G V S IT SE ND rk [] seen -> Q .brk s') :
  wpAny (model pw w) A (execs [fcInner] env) Q E s := by
 obtain ⟨O, T0, GB0, hn, eg, eb, hint, hh, hfr, hf, FF0, hfX, hfp, hfw, ac⟩ := C
 refine x_while (fun m s' => ∃ path', m = path'.length /\ FR hw wl w s0 env (framesOf outer) X G V S IT SE ND kv s' /\ FCI w s'.heap G V S IT SE ND rk path' seen /\ PO wl s0 X V path' /\ Pm V path' = Pm V path) path.length ⟨path, rfl, x, c, po, rfl⟩ ?_
 rintro m s₁ E' ⟨path', rfl, x₁, c₁, po₁, hpm⟩
 have hst := lsOfIl (X := X) c₁.st
 have hpl : path'.length <= 200 := by
  have hsub : (path'.map (·.v)).Nodup := c₁.rk.imp fun h e => by rw [e] at h; exact Nat.lt_irrefl _ h
  have := (nodup_le hsub fun v hv => by
   obtain ⟨p, hp, rfl⟩ := List.mem_map.mp hv
   exact (c₁.el p hp).2.2.2 : (path'.map (·.v)).length <= G.order.length)
  have h2 := T0.small
  rw [List.length_map] at this; lia
 refine (Tst.vlistW hst.lw (Ev.name x₁.F.toRd 2 (nm hn rfl) rfl) (by rw [List.length_map, List.length_map]; lia)) s₁ _ _ (HK.refl _) fun s₂ g => ?_
 have x₂ := x₁.gw g
 have c₂ := c₁.hk g.hk
 rcases List.eq_nil_or_concat path' with rfl | ⟨pre, p, rfl⟩
 ·rw [show (!(List.map (fun (n : Nat) => PV.int n) (List.map (·.v) ([] : List PE))).isEmpty) = false from rfl, if_neg (by decide)]
  exact wpAny_execs_cons (wpAny_Break (fin s₂ x₂ c₂))
 ·rw [List.concat_eq_append] at *
  rw [show (!(List.map (fun (n : Nat) => PV.int n) (List.map (·.v) (pre ++ [p]))).isEmpty) = true from by simp, if_pos rfl]
  have hpm' : Pm V (pre ++ [p]) = Pm V pre + ((V.succ p.v).length - p.i) := by unfold Pm; simp
  refine x_cons (fc_try O T0 GB0 hn eg eb hint hh hfr hf FF0 hfX hfp hfw x₂ c₂ po₁ (fun s₃ k' hk' x₃ c₃ => ?_) (fun s₃ hpe x₃ c₃ => ?_))
  ·refine x_nil ?_
   have hord := (c₁.el p (by simp)).2.2.2
   have hil := (List.getElem?_eq_some_iff.mp hk').1
   obtain ⟨ho, hr⟩ := ac p.v hord k' (List.mem_of_getElem? hk')
   have hrk := c₁.rk
   rw [List.map_append, List.pairwise_append] at hrk
   refine more s₃ _ k' x₃ c₃ (fun q hq => ?_) ho (fun q hq => ?_) ?_
   ·rcases List.mem_append.mp hq with hq | hq
    ·exact po₁ q (List.mem_append_left _ hq)
    ·rw [List.mem_singleton.mp hq]
     obtain ⟨a, b⟩ := po₁ p (by simp)
     exact ⟨hil, b⟩
   ·rcases List.mem_append.mp hq with hq | hq
    ·exact Nat.lt_trans (hrk.2.2 q.v (List.mem_map_of_mem hq) p.v (by simp)) hr
    ·rw [List.mem_singleton.mp hq]; exact hr
   ·rw [<- hpm, hpm']
    unfold Pm
    simp; lia
  ·refine x_nil ?_
   refine ⟨pre.length, by simp, pre, rfl, x₃, c₃, fun q hq => po₁ q (List.mem_append_left _ hq), ?_⟩
   rw [<- hpm, hpm']; lia
theorem PO.snoc (po : PO wl s0 X V path) {k : Nat} {J W : Addr} (h1 : s0.heap.get? J = none) (h2 : J ∉ X) (h3 : s0.heap.get? W = none) (h4 : W ∉ X) (h5 : J ∉ wl) : PO wl s0 X V (path ++ [⟨k, 0, J, W⟩]) := fun q hq => by
 rcases List.mem_append.mp hq with hq | hq
 ·exact po q hq
 ·rw [List.mem_singleton.mp hq]; exact ⟨Nat.zero_le _, h1, h2, h3, h4, h5⟩
set_option maxHeartbeats 1000000 in
theorem fc_outer (C : CTX hw wl w A s0 env outer X G V S IT SE ND rk) {k : Nat} (hk : k ∈ G.order) (x : FR hw wl w s0 env (framesOf outer) X G V S IT SE ND (some (.int k)) s) (c : FCI w s.heap G V S IT SE ND rk [] seen) {Q : Flow -> Shared -> Prop}
  (fin : ∀ s' kv' seen', FR hw wl w s0 env (framesOf outer) X G V S IT SE ND kv' s' -> FCI w s'.heap G V S IT SE ND rk [] seen' -> Q .next s') :
  wpAny (model pw w) A (execs [fcWhile] env) Q E s := by
 have C' := C
 obtain ⟨O, T0, GB0, hn, eg, eb, hint, hh, hfr, hf, FF0, hfX, hfp, hfw, ac⟩ := C
 refine x_while (fun m s' => ∃ (path : List PE) (seen : Nat -> Bool) (k : Nat), m = todo G V seen path /\ FR hw wl w s0 env (framesOf outer) X G V S IT SE ND (some (.int k)) s' /\ FCI w s'.heap G V S IT SE ND rk path seen /\ PO wl s0 X V path /\ k ∈ G.order /\ ∀ p ∈ path, rk p.v < rk k) (todo G V seen []) ⟨[], seen, k, rfl, x, c, (fun p hp => by cases hp), hk, fun p hp => by cases hp⟩ ?_
 rintro m s₁ E' ⟨path, seen, k, rfl, x₁, c₁, po₁, hk, hr⟩
 refine (Tst.vbool (X := X) Ev.cbool) s₁ _ _ (HK.refl _) fun s₂ g => ?_
 rw [if_pos rfl]
 have x₂ := x₁.gw g
 have c₂ := c₁.hk g.hk
 obtain ⟨Sf, n, hSet, hSf, hnn⟩ := c₂.se
 refine x_if (Tst.inSet hSet (Ev.name x₂.F.toRd 6 (nm hn rfl) rfl) (Ev.name x₂.F.toRd 4 (nm hn rfl) rfl)) fun s₃ g₃ => ?_
 have x₃ := x₂.gw g₃
 have c₃ := c₂.hk g₃.hk
 rw [hSf]
 have hUP : ∀ sn pt, todo G V sn pt = ((G.order.filter fun k => !sn k).map fun k => (V.succ k).length + 1).sum + Pm V pt := fun _ _ => rfl
 cases hsk : seen k with
 | true =>
  rw [if_pos rfl]
  obtain ⟨kvs, dND, hkv⟩ := c₃.nd
  have hknot : (k : Int) ∉ kvs.map (·.1) := fun z => by
   rw [hkv] at z
   obtain ⟨p, hp, e⟩ := List.mem_map.mp z
   have := hr p hp
   have e2 : p.v = k := by lia
   rw [e2] at this; exact Nat.lt_irrefl _ this
  refine x_if (Tst.inDict dND O.n (Ev.name x₃.F.toRd 6 (nm hn rfl) rfl) (Ev.name x₃.F.toRd 5 (nm hn rfl) rfl)) fun s₄ g₄ => ?_
  rw [valueAt_some, decide_eq_false hknot, if_neg (by decide)]
  refine x_nil (x_nil ?_)
  refine fc_inner C' (x₃.gw g₄) (c₃.hk g₄.hk) po₁ (fun s' path' k' x' c' po' hk' hr' hlt => ?_) fun s' x' c' => x_nil (fin s' _ seen x' c')
  exact ⟨todo G V seen path', by rw [hUP, hUP]; lia, path', seen, k', rfl, x', c', po', hk', hr'⟩
 | false =>
  rw [if_neg (by decide)]
  refine fc_visit (P := w.params) O T0 GB0 hn eg eb hint x₃ c₃ hk hsk hr fun s₄ J W x₄ c₄ j1 j2 j3 j4 j5 => ?_
  refine fc_inner C' x₄ c₄ (po₁.snoc j1 j2 j3 j4 j5) (fun s' path' k' x' c' po' hk' hr' hlt => ?_) fun s' x' c' => x_nil (fin s' _ _ x' c')
  refine ⟨todo G V _ path', ?_, path', _, k', rfl, x', c', po', hk', hr'⟩
  have hfv := (filter_visit T0.nd hk hsk fun j => (V.succ j).length + 1).1
  have hps : Pm V (path ++ [⟨k, 0, J, W⟩]) = Pm V path + (V.succ k).length := by unfold Pm; simp
  rw [hUP, hUP]
  lia
end
section
variable {w : World} {A : Around} {E : Value -> Shared -> Prop} {s : Shared} {X M : List Addr} {env : Env} {h₀ h h' : Heap} {vals : List (Option PV)} {G : SG} {V : SV}
theorem x_forSG {prog : Program} {its : List PV} {target iter : Expr} {body rest : List Stmt} {pos : Pos} {Q : Flow -> Shared -> Prop} (hh : A.handled = none) (N : List Addr) (hN : ∀ b ∈ N, b ∈ X) (xb : XB s.heap X)
  (ev : IterW prog w A env X s.heap iter its) (Inv : Addr -> Heap -> Nat -> Shared -> Prop)
  (h0 : ∀ I s₁, Gw s s₁ -> s.heap.get? I = none -> (∃ o, s₁.heap.get? I = some o) -> Inv I s₁.heap 0 s₁)
  (stable : ∀ I hb i s₁ s₂, HK s.heap hb -> s.heap.get? I = none -> (∃ o, hb.get? I = some o) -> Inv I hb i s₁ -> Mv [I] s₁ s₂ -> (∃ o, s₂.heap.get? I = some o) -> Inv I hb i s₂)
  (turn : ∀ I hb i q v s₁ E', HK s.heap hb -> s.heap.get? I = none -> (∃ o, hb.get? I = some o) -> its[i]? = some q -> Inv I hb i s₁ -> Rep (I :: X) s₁.heap q v -> (∃ o, s₁.heap.get? I = some o) ->
   wpAny (model prog w) A (assign target env v) (fun _ s₂ => wpAny (model prog w) A (execs body env) (turnQ prog w A env rest Q E fun s₃ => MvB hb N s₁ s₃ /\ Inv I hb (i + 1) s₃) E' s₂) E' s₁)
  (fin : ∀ I hb s₁ s₂, HK s.heap hb -> s.heap.get? I = none -> (∃ o, hb.get? I = some o) -> Inv I hb its.length s₁ -> Mv [I] s₁ s₂ -> wpAny (model prog w) A (execs rest env) Q E s₂)
  (hs : ∀ x, foldedSetIterable iter env x = pure x := by intro _; rfl) (ht : ∀ it v, letOwnedTupleGo target it v = pure () := by intro _ _; rfl) :
  wpAny (model prog w) A (execs (.For target iter body [] pos :: rest) env) Q E s := by
 refine x_cons (wpAny_For (ev s _ _ (HK.refl _) fun v s₁ g r => ?_) hs)
 refine r _ _ fun I fp n P St s₂ g₂ hn W hst hex hP hfr hfp hlt hStI => ?_
 have k2 : HK s.heap s₂.heap := g.hk.trans g₂.hk
 have hfr0 : s.heap.get? I = none := by
  cases q : s.heap.get? I with
  | none => rfl
  | some o => rw [g.hk _ _ q] at hfr; cases hfr
 have hIX : I ∉ X := fun hx => by obtain ⟨o, e⟩ := xb I hx; rw [hfr0] at e; cases e
 have hIN : I ∉ N := fun hx => hIX (hN I hx)
 have W := W A hh
 refine codeAny_forLoop (fun k sx => ∃ i, k = n + 1 - i /\ i <= n /\ St i sx.heap /\ Inv I s₂.heap i sx /\ MvB s₂.heap (I :: N) s₂ sx) ?_ (n + 1) ⟨0, rfl, Nat.zero_le _, hst, h0 I s₂ (g.trans g₂) hfr0 hex, MvB.refl _ _ _⟩ (ht _)
 rintro k sx ⟨i, rfl, hle, hsti, hinv, hmv⟩
 by_cases hlt' : i < n
 ·refine W.item i sx _ _ hlt' hsti fun u h' tk hPu hst' hk => ?_
  have mv1 : Mv [I] sx { sx with heap := h', toks := tk } := ⟨⟨h', tk, rfl⟩, hk⟩
  obtain ⟨q, hq, hrep⟩ := hP i u hlt' hPu
  have hex' := hStI _ _ hst'
  have rep : Rep (I :: X) h' q u := by
   have r1 : Rep (I :: X) s₁.heap q u := Rep.more (fun a ha => (List.mem_cons.mp ha).elim (fun e => .inr (e ▸ hfr)) .inl) hrep
   refine Rep.kp (fun b o hb e => ?_) r1
   have hbI : b ≠ I := fun z => hb (z ▸ List.mem_cons_self)
   have hbN : b ∉ I :: N := fun z => (List.mem_cons.mp z).elim hbI fun z => hb (List.mem_cons_of_mem _ (hN b z))
   exact hk b o (by simpa using hbI) (hmv.kp b o hbN ⟨o, g₂.hk b o e⟩ (g₂.hk b o e))
  refine wpAny_mono (turn I s₂.heap i q u _ _ k2 hfr0 hex hq (stable I _ i _ _ k2 hfr0 hex hinv mv1 hex') rep hex') (fun _ s₄ h₄ => wpAny_mono h₄ (fun f s₅ h₅ => ?_) fun _ _ z => z) fun _ _ z => z
  have step : MvB s₂.heap N { sx with heap := h', toks := tk } s₅ /\ Inv I s₂.heap (i + 1) s₅ -> ∃ m, m < n + 1 - i /\ ∃ j, m = n + 1 - j /\ j <= n /\ St j s₅.heap /\ Inv I s₂.heap j s₅ /\ MvB s₂.heap (I :: N) s₂ s₅ := fun ⟨m5, i5⟩ => by
   refine ⟨n + 1 - (i + 1), by lia, i + 1, rfl, hlt', W.frame _ _ _ hst' fun b hb o e => m5.kp b o (fun z => ?_) ?_ e, i5, (hmv.trans (MvB.of mv1 (by simp))).trans (m5.mono fun m hm => List.mem_cons_of_mem _ hm)⟩
   ·rcases hfp b hb with rfl | ⟨hbX, _⟩
    ·exact hIN z
    ·exact hbX (hN b z)
   ·rcases hfp b hb with rfl | ⟨_, o', ho'⟩
    ·exact hex
    ·exact ⟨o', g₂.hk b o' ho'⟩
  cases f with
  | next => exact step h₅
  | cont => exact step h₅
  | brk => exact h₅
  | ret u => exact h₅
 ·have hin : i = n := by lia
  subst hin
  refine W.done sx _ _ hsti fun h' tk hk => ?_
  have mv1 : Mv [I] sx { sx with heap := h', toks := tk } := ⟨⟨h', tk, rfl⟩, hk⟩
  refine wpAny_execs_nil ?_
  exact fin I _ _ _ k2 hfr0 hex (hn ▸ hinv) mv1
theorem iter_keys (T : TS w h G V) (hD : G.D ∉ X) {e : Expr} (x : Ev pw w A env X h e (.obj (.ref G.D))) : IterW pw w A env X h e (G.order.map fun (k : Nat) => PV.int k) := by
 intro s Q E k hq
 refine x s _ _ k fun v s₁ g r => ?_
 obtain rfl : v = .ref G.D := r
 refine hq _ _ g fun Q' E' hI => ?_
 have d₃ : s₁.heap.DictOf (intKind pw w) G.D _ := DictOf.at_ T.map fun o e => g.hk _ o (k _ o e)
 obtain ⟨ep, at3⟩ := d₃.dictAt
 have hDs : G.D < s₁.heap.objs.size := let ⟨_, _, e, _⟩ := at3; Heap.lt_size e
 have hne : G.D ≠ s₁.heap.objs.size := Nat.ne_of_lt hDs
 refine wpAny_pyIter_dict T.dn at3 (hI _ [s₁.heap.objs.size, G.D] _ _ _ _ (Gw.push s₁ _) rfl (fun A' hA => by rw [List.length_map, <- List.length_map (f := fun (k : Nat) => ((k : Int), Value.ref (G.x k)))]; exact Walks.dictKeys (knd := intKind pw w) hA s₁.heap.objs.size G.D hne (G.order.map fun (k : Nat) => ((k : Int), Value.ref (G.x k))) ep) ?_ ⟨_, Heap.get?_push_size _ rfl⟩ ?_ (fresh_size _) ?_ ?_ ?_)
 ·exact ⟨⟨_, Heap.get?_push_size _ rfl, rfl, rfl⟩, let ⟨o, es, ho, r⟩ := at3; ⟨o, es, Heap.get?_push_of_some _ ho, r⟩⟩
 ·rintro i u hi ⟨kk, xx, hu, hk⟩
  rw [List.getElem?_map] at hu ⊢
  cases ho : G.order[i]? with
  | none => rw [ho] at hu; cases hu
  | some j =>
   rw [ho] at hu
   simp only [Option.map_some, Option.some.injEq, Prod.mk.injEq] at hu
   refine ⟨_, rfl, ?_⟩
   obtain ⟨rfl, _⟩ := hu
   have : Value.isInt (j : Int) u = true := hk
   unfold Rep
   cases u <;> simp [Value.isInt] at this
   exact ⟨_, by rw [this]⟩
 ·intro b hb
  simp at hb
  rcases hb with rfl | rfl
  ·exact .inl rfl
  ·exact .inr ⟨hD, let ⟨o, _, e, _⟩ := at3; ⟨o, e⟩⟩
 ·intro b hb
  simp at hb
  show b < (s₁.heap.push _).objs.size
  rw [Heap.size_push]
  rcases hb with rfl | rfl
  ·exact Nat.lt_succ_self _
  ·exact Nat.lt_succ_of_lt hDs
 ·rintro i h ⟨⟨o, e, _⟩, _⟩; exact ⟨o, e⟩
end
theorem nd_fc : ((fd_find_cycle pw).scope.names.map (·.1)).Nodup := by decide +kernel
theorem kd_fc : ∀ x ∈ (fd_find_cycle pw).scope.names.take 1, x.2 = .local \/ x.2 = .cell := by decide +kernel
theorem FF.mem_some {h : Heap} {l : List Env} (x : FF h l) {b : Addr} (hb : b ∈ framesOf l) : ∃ o, h.get? b = some o := let ⟨_, o, e, _⟩ := Heap.FunFrames.mem x hb; ⟨o, e⟩
section
variable {w : World} {A : Around} {E : Value -> Shared -> Prop} {s : Shared} {X M : List Addr} {env : Env} {h₀ h h' : Heap} {vals : List (Option PV)}
theorem x_newdictS (F : Fm env X M h₀ s.heap vals) (i : Nat) {x : Str} {k : NameKind} (hx : env.scope.names[i]? = some (x, k)) (hk : k = .local \/ k = .cell) {pd pos' pos : Pos} {rest : List Stmt} {Q : Flow -> Shared -> Prop} (hM : M = [])
  (next : ∀ a s', a = s.heap.objs.size -> a ∉ X -> s.heap.get? a = none -> h₀.get? a = none -> Mv (own env) s s' -> Fm env (a :: X) M h₀ s'.heap (vals.set i (some (.obj (.ref a)))) -> s'.heap.DictOf (intKind pw w) a [] -> wpAny (model pw w) A (execs rest env) Q E s')
  (hs : swapsWith (.Dict [] [] pd) (some (.Name x pos')) pos.line env = pure false := by rfl) :
  wpAny (model pw w) A (execs (.Assign [.Name x pos'] (.Dict [] [] pd) pos :: rest) env) Q E s := by
 subst hM
 have hev : wpAny (model pw w) A (eval (.Dict [] [] pd) env) (fun v s₁ => v = .ref s.heap.objs.size /\ s₁ = { s with heap := s.heap.push { cls := .type "dict", data := .dict #[] } }) E s :=
  wpAny_Dict_empty ⟨rfl, rfl⟩
 refine wpAny_execs_cons (wpAny_Assign_Name (wpAny_mono hev (fun v s₁ q => ?_) fun _ _ z => z) hs)
 obtain ⟨rfl, rfl⟩ := q
 have hfr := fresh_size s.heap
 have h0 : h₀.get? s.heap.objs.size = none := by
  cases q : h₀.get? s.heap.objs.size with
  | none => rfl
  | some o => rw [F.keep _ o (by simp) q] at hfr; cases hfr
 have F₁ := F.hold (Gw.push s { cls := .type "dict", data := .dict #[] }).hk hfr ⟨_, Heap.get?_push_size _ rfl⟩
 have hao : s.heap.objs.size ∉ own env := fun z => F.xb.fresh hfr (F.ox _ z)
 refine store F₁ i hx hk (p := .obj (.ref s.heap.objs.size)) rfl fun s' m F' => next _ s' rfl (F.xb.fresh hfr) hfr h0 (((Gw.push s _).mv _).trans m) F' ?_
 obtain ⟨o, es, ep, ho, r⟩ := Heap.DictOf.new (knd := intKind pw w) s.heap
 exact ⟨o, es, ep, m.kp _ _ hao ho, r⟩
end
section
variable {w : World} {A : Around} {s : Shared} {G : SG} {V : SV}
set_option maxHeartbeats 2000000 in
theorem w_find_cycle {outer : List Env} {rk : Nat -> Nat} (T : TS w s.heap G V) (GB0 : GB (framesOf outer) s.heap) (hd : A.depth + 20 < recursionLimit) (hh : A.handled = none) (hfr : A.frames = some outer) (FF0 : FF s.heap outer) (hfp : ∀ b ∈ G.fp, b ∉ framesOf outer) (ac : Ranked G V rk) {Q : Value -> Shared -> Prop} {E : Value -> Shared -> Prop}
  (hq : ∀ s', (∃ h' tk, s' = { s with heap := h', toks := tk }) -> Tn (framesOf outer) s.heap s'.heap -> Q .none s') :
  wpAny (model pw w) A (PySem.call (.ref 228) [.ref G.a] []) Q E s := by
 have Gr := GB0.grd
 have xb0 : XB s.heap (framesOf outer) := fun b hb => FF0.mem_some hb
 refine wpAny_call (enter (fd := fd_find_cycle pw) (body := bodyOf (inS (topS pw 33) 8)) (binds := [("self", .ref G.a)]) (ps := [.obj (.ref G.a)]) (X := framesOf outer) (by lia) Gr.find_cycle.1 Gr.lim Gr.find_cycle.2 rfl rfl rfl rfl kd_fc nd_fc xb0 (RepL.cons (by unfold Rep; rfl) RepL.nil) ?_)
 intro s₁ env henv g F
 have hn : env.scope.names = (fd_find_cycle pw).scope.names := by rw [henv]; rfl
 have eg : env.globals = mainGlobals := by rw [henv]; rfl
 have eb : env.builtins = builtinsNs := by rw [henv]; rfl
 have hA : (A.deeper env).handled = none := hh
 have hint : interactive env = false := by rw [henv]; rfl
 have hf : env.frame = some env.locals := by rw [henv]; rfl
 have hfrd : (A.deeper env).frames = some (env :: outer) := by show A.frames.map (env :: ·) = _; rw [hfr]; rfl
 replace F : Fm env (own env ++ framesOf outer) [] s.heap s₁.heap [some (.obj (.ref G.a)), none, none, none, none, none, none, none, none, none, none] := F
 have hao : ∀ b ∈ G.fp, b ∉ own env := fun b hb q => by obtain ⟨o, e⟩ := T.ex b hb; have := F.fresh b q; rw [e] at this; cases this
 have T₁ := T.hk g.hk
 obtain ⟨P, K₁⟩ := (Gr.hk g.hk).frag
 refine x_assign F 1 (nm hn rfl) (.inl rfl) (Ev.sMap K₁ T₁ (Ev.name F.toRd 0 (nm hn rfl) rfl)) fun s₂ m₂ F₂ => ?_
 refine x_newlist F₂ 2 (nm hn rfl) (.inl rfl) rfl EvL.nil (by decide) fun S s₃ hSX hS2 hS0 m₃ F₃ L₃ => ?_
 refine x_newlist F₃ 3 (nm hn rfl) (.inl rfl) rfl EvL.nil (by decide) fun IT s₄ hIX hI3 hI0 m₄ F₄ L₄ => ?_
 replace F₄ : Fm env (IT :: S :: (own env ++ framesOf outer)) [] s.heap s₄.heap [some (.obj (.ref G.a)), some (.obj (.ref G.D)), some (.obj (.ref S)), some (.obj (.ref IT)), none, none, none, none, none, none, none] := F₄
 have hSown : S ∉ own env := fun z => hSX (List.mem_append_left _ z)
 have hIown : IT ∉ own env := fun z => hIX (List.mem_cons_of_mem _ (List.mem_append_left _ z))
 have G₄ : Grd pw s₄.heap := Gr.hk F₄.keep.hk
 refine wpAny_execs_cons (wpAny_Assign_Name (Q := _) ?_ (by rfl))
 show wpAny _ _ (eval (.Name _ _) env >>= fun f => callWith _ f [] (backTo _ (starEach [] env)) []) _ _ _
 refine wpAny_bind ((Ev.glob F₄.toRd 7 (nm hn rfl) G₄.g_set eg eb) s₄ _ _ (HK.refl _) fun fv s₅ g₅ r₅ => ?_)
 obtain rfl : fv = .type "set" := r₅
 refine callWith_plain (by rfl) trivial (evalArgs_L (X := own env) EvL.nil (by rfl) (HK.refl _) fun us s₆ g₆ r₆ => ⟨g₆.hk, ?_⟩)
 unfold RepL at r₆; subst r₆
 refine call_set_0 fun led => ?_
 have F₆ := (F₄.hk g₅.hk).hk g₆.hk
 have hEf : s₆.heap.get? s₆.heap.objs.size = none := fresh_size _
 have hSet : (s₆.heap.push { cls := .type "set", dict := none, data := .set #[] 0 (.fresh 0 0 led) }).SetOf (intKind pw w) s₆.heap.objs.size (fun _ => false) 0 := setOf_new
 have kE : HK s₆.heap (s₆.heap.push { cls := .type "set", dict := none, data := .set #[] 0 (.fresh 0 0 led) }) := (Gw.push s₆ _).hk
 have hSEX : s₆.heap.objs.size ∉ IT :: S :: (own env ++ framesOf outer) := fun z => by obtain ⟨o, e⟩ := F₆.xb _ z; rw [hEf] at e; cases e
 have hE0 : s.heap.get? s₆.heap.objs.size = none := by
  cases q : s.heap.get? s₆.heap.objs.size with
  | none => rfl
  | some o => rw [F₆.keep _ o (by simp) q] at hEf; cases hEf
 have F₇ := F₆.hold kE hEf (let ⟨o, _, _, _, e, _⟩ := hSet; ⟨o, e⟩)
 generalize hsz : s₆.heap.objs.size = SE at *
 generalize hs7 : ({ s₆ with heap := s₆.heap.push { cls := .type "set", dict := none, data := .set #[] 0 (.fresh 0 0 led) } } : Shared) = s₇
 have e7 : s₇.heap = s₆.heap.push { cls := .type "set", dict := none, data := .set #[] 0 (.fresh 0 0 led) } := by rw [<- hs7]
 rw [<- e7] at F₇ hSet kE
 have hSEown : SE ∉ own env := fun z => hSEX (List.mem_cons_of_mem _ (List.mem_cons_of_mem _ (List.mem_append_left _ z)))
 refine store F₇ 4 (nm hn rfl) (.inl rfl) (p := .obj (.ref SE)) (by unfold Rep; rfl) fun s₈ m₈ F₈ => ?_
 refine x_newdictS F₈ 5 (nm hn rfl) (.inl rfl) rfl fun ND s₉ hNe hNX hN8 hN0 m₉ F₉ D₉ => ?_
 have hNown : ND ∉ own env := fun z => hNX (List.mem_cons_of_mem _ (List.mem_cons_of_mem _ (List.mem_cons_of_mem _ (List.mem_append_left _ z))))
 have hNm : (ND == sysModules) = false := by
  have h66 : 66 < s₈.heap.objs.size := Heap.lt_size (Gr.hk F₈.keep.hk).unquote.1
  refine beq_eq_false_iff_ne.mpr fun e => ?_
  rw [hNe] at e
  rw [e] at h66
  exact absurd h66 (by decide)
 have hk9 : HK s.heap s₉.heap := F₉.keep.hk
 have T₉ := T.hk hk9
 have k39 : Kp (own env) s₃.heap s₉.heap := (m₄.kp.trans (((((g₅.hk.trans g₆.hk).trans kE).kp _).trans m₈.kp).trans m₉.kp))
 have k49 : Kp (own env) s₄.heap s₉.heap := (((((g₅.hk.trans g₆.hk).trans kE).kp _).trans m₈.kp).trans m₉.kp)
 have k79 : Kp (own env) s₇.heap s₉.heap := m₈.kp.trans m₉.kp
 have F₉ : Fm env (ND :: SE :: IT :: S :: (own env ++ framesOf outer)) (framesOf outer) s.heap s₉.heap [some (.obj (.ref G.a)), some (.obj (.ref G.D)), some (.obj (.ref S)), some (.obj (.ref IT)), some (.obj (.ref SE)), some (.obj (.ref ND)), none, none, none, none, none] := { F₉ with keep := F₉.keep.mono (by simp) }
 have c₉ : FCI w s₉.heap G V S IT SE ND rk [] (fun _ => false) := {
  st := ilOfLs (X := S :: (own env ++ framesOf outer)) (xs := []) (let ⟨vs, n, e, r⟩ := L₃; ⟨vs, n, k39 _ _ hSown e, by have r' : vs.toList = [] := r; rw [r']; exact RepL.nil⟩)
  it := let ⟨vs, n, e, r⟩ := L₄; ⟨vs, n, k49 _ _ hIown e, r⟩
  se := let ⟨o, es, ep, tb, ho, r⟩ := hSet; ⟨fun _ => false, 0, ⟨o, es, ep, tb, k79 _ _ hSEown ho, r⟩, fun _ => rfl, by rw [Nat.zero_add]; exact List.length_filter_le _ _⟩
  nd := ⟨[], D₉, rfl⟩
  el := fun p hp => by cases hp
  rk := .nil
  js := .nil
  sn := fun p hp => by cases hp }
 have ex9 : ∃ h' tk, s₉ = { s with heap := h', toks := tk } := ex_tr g.ex (ex_tr m₂.ex (ex_tr m₃.ex (ex_tr m₄.ex (ex_tr g₅.ex (ex_tr g₆.ex (ex_tr ⟨_, _, hs7.symm⟩ (ex_tr m₈.ex m₉.ex)))))))
 have x₉ : FR default [] w s env (framesOf outer) (ND :: SE :: IT :: S :: (own env ++ framesOf outer)) G V S IT SE ND none s₉ := ⟨ex9, F₉, Tn.hk hk9, T₉, fun b hb => by cases hb⟩
 have hDX : G.D ∉ ND :: SE :: IT :: S :: (own env ++ framesOf outer) := fun z => by
  have hDf : G.D ∈ G.fp := mem_fp.mpr (.inr (.inr (.inl rfl)))
  obtain ⟨oD, eD⟩ := T.ex _ hDf
  rcases List.mem_cons.mp z with z | z
  ·rw [z, hN0] at eD; cases eD
  rcases List.mem_cons.mp z with z | z
  ·rw [z, hE0] at eD; cases eD
  rcases List.mem_cons.mp z with z | z
  ·rw [z, hI0] at eD; cases eD
  rcases List.mem_cons.mp z with z | z
  ·rw [z, hS0] at eD; cases eD
  rcases List.mem_append.mp z with z | z
  ·exact hao _ hDf z
  ·exact hfp _ hDf z
 have hSI : S ≠ IT := fun e => hIX (e ▸ List.mem_cons_self)
 refine x_forSG hA (ND :: SE :: IT :: S :: (own env ++ framesOf outer)) (fun b hb => hb) x₉.F.xb (iter_keys T₉ hDX (Ev.name x₉.F.toRd 1 (nm hn rfl) rfl))
  (fun I hb i sx => ∃ kv seen, FR default [] w s env (framesOf outer) (I :: ND :: SE :: IT :: S :: (own env ++ framesOf outer)) G V S IT SE ND kv sx /\ FCI w sx.heap G V S IT SE ND rk [] seen /\ EX hb sx.heap /\ s.heap.get? I = none /\ I ∉ ND :: SE :: IT :: S :: (own env ++ framesOf outer)) ?_ ?_ ?_ ?_
 ·intro I sx gx hI hex
  have x' := x₉.gw gx
  have hI0' : s.heap.get? I = none := by
   cases q : s.heap.get? I with
   | none => rfl
   | some o => rw [hk9 _ _ q] at hI; cases hI
  have hIX' : I ∉ ND :: SE :: IT :: S :: (own env ++ framesOf outer) := fun z => by obtain ⟨o, e⟩ := x₉.F.xb I z; rw [hI] at e; cases e
  exact ⟨none, _, ⟨x'.ex, x₉.F.hold gx.hk hI hex, x'.tn, x'.ts, x'.wt⟩, c₉.hk gx.hk, EX.refl _, hI0', hIX'⟩
 ·rintro I hb i sx sy hkb hI hIb ⟨kv, seen, xx, cc, exx, hI0', hIX'⟩ m hex
  refine ⟨kv, seen, xx.move T m (fun b hb => by rw [List.mem_singleton.mp hb]; exact hI0') (fun b hb z => hIX' (by rw [<- List.mem_singleton.mp hb]; exact F₉.ox _ z)) (fun b hb => .inl (by rw [List.mem_singleton.mp hb]; exact List.mem_cons_self)) (fun b hb _ => by rw [List.mem_singleton.mp hb]; exact hex) (fun b hb z => by cases z), ?_, exx.trans (EX.of m.kp fun b hb => by rw [List.mem_singleton.mp hb]; exact hex), hI0', hIX'⟩
  have nI : ∀ a, a ∈ ND :: SE :: IT :: S :: (own env ++ framesOf outer) -> a ∉ [I] := fun a ha z => hIX' (List.mem_singleton.mp z ▸ ha)
  exact cc.kp m.kp (nI _ (by simp)) (nI _ (by simp)) (nI _ (by simp)) (nI _ (by simp)) fun p hp => by cases hp
 ·rintro I hb i q v sx E' hkb hI hIb hqi ⟨kv, seen, xx, cc, exx, hI0', hIX'⟩ rv hIx
  rw [List.getElem?_map] at hqi
  cases hki : G.order[i]? with
  | none => rw [hki] at hqi; cases hqi
  | some k =>
  rw [hki] at hqi
  obtain rfl : PV.int k = q := by simpa using hqi
  have hk := List.mem_of_getElem? hki
  obtain ⟨tk, rfl⟩ := rv
  refine a_name xx.F 6 (nm hn rfl) (.inl rfl) (p := .int k) ⟨tk, rfl⟩ fun sa ma Fa => ?_
  have xa := xx.mine T (fun b _ z => by cases z) ma Fa
  have nO : ∀ a, a ∈ [S, IT, SE, ND] -> a ∉ own env := fun a ha => by
   simp only [List.mem_cons, List.not_mem_nil, or_false] at ha
   rcases ha with rfl | rfl | rfl | rfl
   ·exact hSown
   ·exact hIown
   ·exact hSEown
   ·exact hNown
  have ca := cc.kp ma.kp (nO _ (by simp)) (nO _ (by simp)) (nO _ (by simp)) (nO _ (by simp)) fun p hp => by cases hp
  have exa : EX hb sa.heap := exx.trans (EX.of ma.kp fun b hb' => Fa.xb b (Fa.ox b hb'))
  let N : List Addr := ND :: SE :: IT :: S :: (own env ++ framesOf outer)
  let wl : List Addr := (List.range hb.objs.size).filter fun b => !N.contains b && (hb.get? b).isSome
  have wlm : ∀ b, b ∈ wl ↔ b ∉ N /\ (hb.get? b).isSome = true := fun b => by
   constructor
   ·intro z
    have := (List.mem_filter.mp z).2
    simp only [Bool.and_eq_true, Bool.not_eq_true', List.contains_eq_mem] at this
    exact ⟨by simpa using this.1, this.2⟩
   ·rintro ⟨h1, h2⟩
    obtain ⟨o, e⟩ := Option.isSome_iff_exists.mp h2
    refine List.mem_filter.mpr ⟨List.mem_range.mpr (Heap.lt_size e), ?_⟩
    simp only [Bool.and_eq_true, Bool.not_eq_true', List.contains_eq_mem]
    exact ⟨by simpa using h1, h2⟩
  have nw : ∀ b ∈ N, b ∉ wl := fun b hb' z => ((wlm b).mp z).1 hb'
  have C : CTX sa.heap wl w (A.deeper env) s env outer (I :: N) G V S IT SE ND rk := {
   O := {
    x := ⟨by simp [N], by simp [N], by simp [N], by simp [N]⟩
    o := ⟨hSown, hIown, hSEown, hNown⟩
    f := ⟨hS0, hI0, hE0, hN0⟩
    d := hSI
    n := hNm
    w := ⟨nw _ (by simp [N]), nw _ (by simp [N]), nw _ (by simp [N]), nw _ (by simp [N])⟩
    e := fun b hb' => nw b (F₉.ox b hb')
    wx := fun b hb' => exa b (Option.isSome_iff_exists.mp ((wlm b).mp hb').2) }
   T0 := T
   GB0 := GB0
   hn := hn
   eg := eg
   eb := eb
   hint := hint
   hh := hA
   hfr := hfrd
   hf := hf
   FF0 := FF0
   hfX := fun b hb' => by simp [N, hb']
   hfp := hfp
   hfw := fun b hb' => nw b (by simp [N, hb'])
   ac := ac }
  have xw : FR sa.heap wl w s env (framesOf outer) (I :: N) G V S IT SE ND (some (.int k)) sa := { xa with wt := fun _ _ _ e => e }
  have back : ∀ s' kv' seen', FR sa.heap wl w s env (framesOf outer) (I :: N) G V S IT SE ND kv' s' -> FCI w s'.heap G V S IT SE ND rk [] seen' -> MvB hb N sx s' /\ ∃ kv seen, FR default [] w s env (framesOf outer) (I :: N) G V S IT SE ND kv s' /\ FCI w s'.heap G V S IT SE ND rk [] seen /\ EX hb s'.heap /\ s.heap.get? I = none /\ I ∉ N := fun s' kv' seen' x' c' => by
   have hkeep : ∀ b o, b ∉ N -> (∃ o', hb.get? b = some o') -> sa.heap.get? b = some o -> s'.heap.get? b = some o := fun b o h1 ⟨o', h2⟩ e => x'.wt b ((wlm b).mpr ⟨h1, by rw [h2]; rfl⟩) o e
   refine ⟨⟨?_, fun b o h1 h2 e => hkeep b o h1 h2 (ma.kp b o (fun z => h1 (F₉.ox b z)) e)⟩, kv', seen', { x' with wt := fun b hb' => by cases hb' }, c', fun b hb' => ?_, hI0', hIX'⟩
   ·obtain ⟨ha, ta, ea⟩ := xx.ex
    obtain ⟨ha', ta', ea'⟩ := x'.ex
    refine ⟨ha', ta', ?_⟩
    rw [ea', ea]
   ·by_cases z : b ∈ N
    ·exact x'.F.xb b (List.mem_cons_of_mem _ z)
    ·obtain ⟨o, e⟩ := exa b hb'
     exact ⟨o, hkeep b o z hb' e⟩
  obtain ⟨Sf, n, hSet', hSf, hnn⟩ := ca.se
  refine x_if (Tst.inSet hSet' (Ev.name xw.F.toRd 6 (nm hn rfl) rfl) (Ev.name xw.F.toRd 4 (nm hn rfl) rfl)) fun sb gb => ?_
  have xb := xw.gw gb
  have cb := ca.hk gb.hk
  rw [hSf]
  cases seen k with
  | true =>
   rw [if_pos rfl]
   exact wpAny_execs_cons (wpAny_Continue (back sb _ _ xb cb))
  | false =>
   rw [if_neg (by decide)]
   refine x_nil ?_
   exact fc_outer C hk xb cb fun s' kv' seen' x' c' => back s' _ _ x' c'
 ·rintro I hb sx sy hkb hI hIb ⟨kv, seen, xx, cc, exx, hI0', hIX'⟩ m
  have tn' := xx.tn.then m.kp fun b hb => by rw [List.mem_singleton.mp hb]; exact hI0'
  refine x_return (X := own env) Ev.cnone fun v s' g' rv => ?_
  unfold Rep at rv; subst rv
  exact hq s' (ex_tr xx.ex (ex_tr m.ex g'.ex)) (tn'.trans (Tn.hk g'.hk))
end
section
open PySem.W
section
variable {w : World} {A : Around} {s : Shared} {G : SG} {V : SV} {X : List Addr} {h : Heap} {env : Env}
set_option maxHeartbeats 1000000 in
theorem w_prepare2 {outer : List Env} {rk : Nat -> Nat} (T : TS w s.heap G V) (GBs : GB (framesOf outer ++ G.fp) s.heap) (hd : A.depth + 30 < recursionLimit) (hh : A.handled = none) (hr : G.rdy = false) (hfr : A.frames = some outer) (FF0 : FF s.heap outer) (hfp : ∀ b ∈ G.fp, b ∉ framesOf outer) (ac : Ranked G V rk) {Q : Value -> Shared -> Prop} {E : Value -> Shared -> Prop}
  (hq : ∀ s' G', Mv (framesOf outer ++ G.fp) s s' -> (∀ b ∈ framesOf outer, ∀ o, s.heap.get? b = some o -> ∃ sl, s'.heap.get? b = some { o with slots := sl }) -> TS w s'.heap G' { V with ready := G.order.filter fun k => V.np k == 0 } -> G'.rdy = true -> G'.a = G.a -> G'.order = G.order -> (∀ b ∈ G.fp, b ∈ G'.fp) -> (∀ b ∈ G'.fp, b ∈ G.fp \/ s.heap.get? b = none) -> Q .none s') :
  wpAny (model pw w) A (PySem.call (.ref 193) [.ref G.a] []) Q E s := by
 have Gr := GBs.grd
 have hdf : G.d ∈ G.fp := mem_fp.mpr (.inr (.inl rfl))
 have xb : XB s.heap (G.d :: framesOf outer) := fun a ha => (List.mem_cons.mp ha).elim (fun e => e ▸ T.ex _ hdf) fun z => FF0.mem_some z
 refine wpAny_call (enter (fd := fd_prepare pw) (body := bodyOf (inS (topS pw 33) 3)) (binds := [("self", .ref G.a)]) (ps := [.obj (.ref G.a)]) (X := G.d :: framesOf outer) (by lia) Gr.prepare.1 Gr.lim Gr.prepare.2 rfl rfl rfl rfl kd_prep nd_prep xb (RepL.cons (by unfold Rep; rfl) RepL.nil) ?_)
 intro s₁ env henv g F
 have hn : env.scope.names = (fd_prepare pw).scope.names := by rw [henv]; rfl
 have hA : (A.deeper env).handled = none := hh
 have hf : env.frame = some env.locals := by rw [henv]; rfl
 have F : Fm env (own env ++ G.d :: framesOf outer) (framesOf outer ++ G.fp) s.heap s₁.heap [some (.obj (.ref G.a)), none, none, none] := { F with keep := F.keep.mono (by simp) }
 have hao : ∀ b ∈ G.fp, b ∉ own env := fun b hb q => by obtain ⟨o, e⟩ := T.ex b hb; have := F.fresh b q; rw [e] at this; cases this
 have T₁ := T.hk g.hk
 have GB₁ := GBs.hk g.hk
 obtain ⟨P, K₁⟩ := GB₁.grd.frag
 refine x_if (Tst.isNotNone (Ev.sReady0 K₁ T₁ (Ev.name F.toRd 0 (nm hn rfl) rfl) hr) rn_none) fun s₂ g₂ => ?_
 rw [if_neg (by decide)]
 refine x_nil ?_
 have F₂ := F.hk g₂.hk
 have T₂ := T₁.hk g₂.hk
 have GB₂ := GB₁.hk g₂.hk
 obtain ⟨P, K₂⟩ := GB₂.grd.frag
 have hDX : G.D ∉ own env ++ G.d :: framesOf outer := fun z => by
  rcases List.mem_append.mp z with z | z
  ·exact hao _ (mem_fp.mpr (.inr (.inr (.inl rfl)))) z
  ·rcases List.mem_cons.mp z with z | z
   ·exact T.ne_d.2.1 z
   ·exact hfp _ (mem_fp.mpr (.inr (.inr (.inl rfl)))) z
 refine wpAny_execs_cons (plainObj_wpAny_Assign_Attribute (evG_comp F₂.toRd hA 1 [] (fun q => match q with | .obj (.ref a) => .int ((G.tag a).2 : Nat) | _ => .none) (fun q => match q with | .obj (.ref a) => V.np (G.tag a).2 == 0 | _ => false) (CompOk.of (has := [true, false, false, false]) (by rw [hn]; decide +kernel) rfl) rfl
  (iter_values K₂ T₂ F₂.xb hDX (Ev.name F₂.toRd 0 (nm hn rfl) rfl)) ?_ ?_ ?_ ?_ ?_ (HK.refl _) fun r s₃ g₃ hr3 rep => ?_) (by rfl))
 ·intro q hq; obtain ⟨i, _, rfl⟩ := List.mem_map.mp hq; exact trivial
 ·rw [List.length_map]; have := T.small; unfold sizeLine; lia
 ·intro q hq _; obtain ⟨i, _, rfl⟩ := List.mem_map.mp hq; exact trivial
 ·intro q hq en h' hcn eg' eb' kk rd
  obtain ⟨j, hj, rfl⟩ := List.mem_map.mp hq
  have Tj := T₂.hk kk
  refine TstAll.one (Tst.hcast (Tst.ints i_eq (Ev.nNp (K₂.keeps kk) Tj hj (Ev.name rd 1 (nm hcn rfl) rfl)) Ev.int) ?_)
  show _ = (V.np (G.tag (G.x j)).2 == 0)
  rw [T.tx j hj]
 ·intro q hq _ en h' hcn eg' eb' kk rd
  obtain ⟨j, hj, rfl⟩ := List.mem_map.mp hq
  have Tj := T₂.hk kk
  refine (Ev.nNode (K₂.keeps kk) Tj hj (Ev.name rd 1 (nm hcn rfl) rfl)).cast ?_
  show _ = PV.int ((G.tag (G.x j)).2 : Nat)
  rw [T.tx j hj]
 ·have F₃ := F₂.hk g₃.hk
  refine (Ev.name F₃.toRd 0 (nm hn rfl) rfl) s₃ _ _ (HK.refl _) fun ov s₄ g₄ r₄ => ?_
  obtain rfl : ov = .ref G.a := r₄
  have k24 := g₃.hk.trans g₄.hk
  have T₄ := T₂.hk k24
  have GB₄ := GB₂.hk k24
  obtain ⟨P, K₄⟩ := GB₄.grd.frag
  have elist : ((G.order.map fun k => PV.obj (.ref (G.x k))).filter (fun q => match q with | .obj (.ref a) => V.np (G.tag a).2 == 0 | _ => false)).map (fun q => match q with | .obj (.ref a) => PV.int ((G.tag a).2 : Nat) | _ => .none) = (G.order.filter fun k => V.np k == 0).map fun (n : Nat) => PV.int n := by
   rw [List.filter_map, List.map_map]
   have e1 : G.order.filter ((fun q => match q with | PV.obj (.ref a) => V.np (G.tag a).2 == 0 | _ => false) ∘ fun k => PV.obj (.ref (G.x k))) = G.order.filter fun k => V.np k == 0 := List.filter_congr fun j hj => by
    show (V.np (G.tag (G.x j)).2 == 0) = _
    rw [T.tx j hj]
   rw [e1]
   refine List.map_congr_left fun j hj => ?_
   show PV.int ((G.tag (G.x j)).2 : Nat) = _
   rw [T.tx j (List.mem_filter.mp hj).1]
  have il : IL s₄.heap r (G.order.filter fun k => V.np k == 0) := by
   have rr := rep [] (by simp)
   rw [elist] at rr
   have := rr.hk g₄.hk
   obtain ⟨a, n, vs, e, _, ho, hi, _⟩ := rep_zs this
   cases e
   exact ⟨vs, n, ho, hi⟩
  have hrf : r ∉ G.fp := fun z => by obtain ⟨o, e⟩ := T₂.ex r z; rw [hr3] at e; cases e
  refine putReady K₄ T₄ hr il hrf fun s₅ m₅ T₅ => ?_
  have F₅ : Fm env (own env ++ G.d :: framesOf outer) (framesOf outer ++ G.fp) s.heap s₅.heap [some (.obj (.ref G.a)), none, none, none] := (F₂.hk k24).other m₅.kp (fun a ha => by rw [List.mem_singleton.mp ha]; exact hao _ hdf) (fun a ha => by rw [List.mem_singleton.mp ha]; simp) (fun a ha => by rw [List.mem_singleton.mp ha]; exact .inl (List.mem_append_right _ hdf)) fun c hc => by
   by_cases e : c = G.d
   ·rw [e]; obtain ⟨_, _, _, _, _, _, _, ho⟩ := T₅.dict; exact ⟨_, ho⟩
   ·obtain ⟨o, ho⟩ := (F₂.hk k24).xb c hc; exact ⟨o, m₅.kp c o (by simpa using e) ho⟩
  have GB₅ := GBs.kp F₅.keep
  obtain ⟨P, K₅⟩ := GB₅.grd.frag
  generalize hG' : ({ G with rdy := true, r := r, tag := fun b => if b = r then (3, 0) else G.tag b } : SG) = G' at T₅
  have ea : G'.a = G.a := by rw [<- hG']
  have eo : G'.order = G.order := by rw [<- hG']
  have erd : G'.rdy = true := by rw [<- hG']
  have hr0 : s.heap.get? r = none := by
   cases q : s.heap.get? r with
   | none => rfl
   | some o => rw [(g.hk.trans g₂.hk) _ _ q] at hr3; cases hr3
  have hsub : ∀ b ∈ G.fp, b ∈ G'.fp := fun b hb => by
   rw [<- hG']
   rcases mem_fp.mp hb with e | e | e | ⟨z, _⟩ | e
   ·exact mem_fp.mpr (.inl e)
   ·exact mem_fp.mpr (.inr (.inl e))
   ·exact mem_fp.mpr (.inr (.inr (.inl e)))
   ·rw [hr] at z; cases z
   ·exact mem_fp.mpr (.inr (.inr (.inr (.inr e))))
  have hnew : ∀ b ∈ G'.fp, b ∈ G.fp \/ s.heap.get? b = none := fun b hb => by
   rw [<- hG'] at hb
   rcases mem_fp.mp hb with e | e | e | ⟨_, e⟩ | e
   ·exact .inl (mem_fp.mpr (.inl e))
   ·exact .inl (mem_fp.mpr (.inr (.inl e)))
   ·exact .inl (mem_fp.mpr (.inr (.inr (.inl e))))
   ·refine .inr ?_; rw [show b = r from e]; exact hr0
   ·exact .inl (mem_fp.mpr (.inr (.inr (.inr (.inr e)))))
  have hao' : ∀ b ∈ G'.fp, b ∉ own env := fun b hb => by
   rcases hnew b hb with z | z
   ·exact hao b z
   ·intro zo
    by_cases hf : b ∈ G.fp
    ·exact hao b hf zo
    ·have hbr : b = r := by
      rw [<- hG'] at hb
      rcases mem_fp.mp hb with e | e | e | ⟨_, e⟩ | e
      ·exact absurd (show b ∈ G.fp from mem_fp.mpr (.inl e)) hf
      ·exact absurd (show b ∈ G.fp from mem_fp.mpr (.inr (.inl e))) hf
      ·exact absurd (show b ∈ G.fp from mem_fp.mpr (.inr (.inr (.inl e)))) hf
      ·exact e
      ·exact absurd (show b ∈ G.fp from mem_fp.mpr (.inr (.inr (.inr (.inr e))))) hf
     obtain ⟨o, e⟩ := F₂.xb b (F₂.ox b zo)
     rw [hbr, hr3] at e; cases e
  have eva : ∀ pos, Ev pw w (A.deeper env) env (own env ++ G.d :: framesOf outer) s₅.heap (.Name "self" pos) (.obj (.ref G'.a)) := fun pos => by rw [ea]; exact Ev.name F₅.toRd 0 (nm hn rfl) rfl
  refine wpAny_execs_cons (wpAny_Assign_Name (call_s K₅ T₅ f_m7 f_ft.2.2.2.2.2.2.1 GB₅.grd.find_cycle.1 (by simp) (eva _) EvL.nil fun us s₆ g₆ r₆ => ?_) (by rfl))
  unfold RepL at r₆; subst r₆
  have rv : ∀ b, b ∈ framesOf (env :: outer) -> b = env.locals \/ b ∈ framesOf outer := fun b hb => by
   unfold framesOf at hb
   rw [List.filterMap_cons, hf] at hb
   exact List.mem_cons.mp hb
  have F₆ := F₅.hk g₆.hk
  have kfs : ∀ b ∈ framesOf outer, ∀ o, s.heap.get? b = some o -> s₆.heap.get? b = some o := fun b hb o e =>
   g₆.hk b o (m₅.kp b o (fun z => hfp _ hdf (List.mem_singleton.mp z ▸ hb)) (k24 b o (g₂.hk b o (g.hk b o e))))
  have ff6 : FF s₆.heap (env :: outer) := by
   obtain ⟨m, o, es, ep, ho, hdt, _⟩ := F₆.ns
   refine ⟨by rw [F₆.kind]; decide, ⟨env.locals, o, hf, rfl, ho, fun vs z => by rw [hdt] at z; cases z⟩, ?_⟩
   have key : ∀ l : List Env, (∀ b ∈ framesOf l, b ∈ framesOf outer) -> FF s.heap l -> FF s₆.heap l := by
    intro l
    induction l with
    | nil => intro _ _; trivial
    | cons e l ih =>
     rintro hs ⟨a, ⟨L, o, b1, b2, b3, b4⟩, c⟩
     have hm : ∀ b ∈ framesOf l, b ∈ framesOf (e :: l) := fun b hb => by unfold framesOf; rw [List.filterMap_cons, b1]; exact List.mem_cons_of_mem _ hb
     have hL : L ∈ framesOf (e :: l) := by unfold framesOf; rw [List.filterMap_cons, b1]; exact List.mem_cons_self
     exact ⟨a, ⟨L, o, b1, b2, kfs L (hs L hL) o b3, b4⟩, ih (fun b hb => hs b (hm b hb)) c⟩
   exact key outer (fun _ h => h) FF0
  have GB6 : GB (framesOf (env :: outer)) s₆.heap := by
   have h1 : GB (env.locals :: (framesOf outer ++ G.fp)) s.heap := GBs.less fun a ha => (List.mem_cons.mp ha).elim (fun e => .inr (e ▸ F.fresh _ List.mem_cons_self)) .inl
   have h2 := (h1.kp (F₅.keep.mono fun b hb => List.mem_cons_of_mem _ hb)).hk g₆.hk
   exact h2.less fun a ha => .inl ((rv a ha).elim (fun e => e ▸ List.mem_cons_self) fun z => List.mem_cons_of_mem _ (List.mem_append_left _ z))
  have hfp' : ∀ b ∈ G'.fp, b ∉ framesOf (env :: outer) := fun b hb z => by
   rcases rv b z with e | z
   ·exact hao' b hb (e ▸ List.mem_cons_self)
   ·rcases hnew b hb with q | q
    ·exact hfp b q z
    ·obtain ⟨o, e⟩ := FF0.mem_some z; rw [q] at e; cases e
  have T₆ := T₅.hk g₆.hk
  refine w_find_cycle (rk := rk) T₆ GB6 (by show A.depth + 1 + 20 < _; lia) hA (by show A.frames.map (env :: ·) = _; rw [hfr]; rfl) ff6 hfp' (by unfold Ranked; rw [eo]; exact ac) fun s₇ ex7 tn7 => ?_
  have hloc : ∀ b o, s.heap.get? b = some o -> b ≠ env.locals := fun b o e z => by rw [z, F.fresh _ List.mem_cons_self] at e; cases e
  have frX : ∀ b ∈ framesOf (env :: outer), b ∈ own env ++ G.d :: framesOf outer := fun b hb => (rv b hb).elim (fun e => e ▸ List.mem_append_left _ List.mem_cons_self) fun z => List.mem_append_right _ (List.mem_cons_of_mem _ z)
  have F₇ : Fm env (own env ++ G.d :: framesOf outer) (framesOf outer ++ G.fp) s.heap s₇.heap [some (.obj (.ref G.a)), none, none, none] := F₆.shift (fun b o hb _ e => tn7.kp b o (fun z => hb (frX b z)) e) (fun b hb o e => tn7.sl b o e)
   (fun b o hb e => tn7.kp b o (fun z => (rv b z).elim (hloc b o e) fun q => hb (List.mem_append_left _ q)) (F₆.keep b o hb e)) (fun b hb => by obtain ⟨o, e⟩ := F₆.xb b hb; obtain ⟨sl, e'⟩ := tn7.sl b o e; exact ⟨_, e'⟩)
  have T₇ := T₆.kp tn7.kp hfp'
  refine store F₇ 1 (nm hn rfl) (.inl rfl) (p := .none) (by unfold Rep; rfl) fun s₈ m₈ F₈ => ?_
  have T₈ := T₇.kp m₈.kp hao'
  refine x_if (Tst.vnone (Ev.name F₈.toRd 1 (nm hn rfl) rfl)) fun s₉ g₉ => ?_
  rw [if_neg (by decide)]
  refine x_nil (x_nil ?_)
  refine hq s₉ G' ⟨ex_tr g.ex (ex_tr g₂.ex (ex_tr g₃.ex (ex_tr g₄.ex (ex_tr m₅.ex (ex_tr g₆.ex (ex_tr ex7 (ex_tr m₈.ex g₉.ex))))))), F₈.keep.trans (g₉.hk.kp _)⟩ (fun b hb o e => ?_) (T₈.hk g₉.hk) erd ea eo hsub hnew
  obtain ⟨sl, e'⟩ := tn7.sl b o (kfs b hb o e)
  exact ⟨sl, g₉.hk _ _ (m₈.kp _ _ (fun z => by obtain ⟨o', e0⟩ := FF0.mem_some hb; rw [F.fresh b z] at e0; cases e0) e')⟩
end
end
theorem outV_at (f : Nat -> Int) (ks : List Nat) (k : Nat) : outV f ks k = if k ∈ ks then -1 else f k := by
 unfold outV
 induction ks generalizing f with
 | nil => simp
 | cons j ks ih =>
  rw [List.foldl_cons, ih]
  unfold updI
  by_cases h : k ∈ ks
  ·rw [if_pos h, if_pos (List.mem_cons_of_mem _ h)]
  ·rw [if_neg h]
   by_cases hj : k = j
   ·rw [if_pos hj, if_pos (hj ▸ List.mem_cons_self)]
   ·rw [if_neg hj, if_neg fun z => (List.mem_cons.mp z).elim hj h]
noncomputable def tell1 (V : SV) (j : Nat) : SV := { V with np := updI V.np j (V.np j - 1), ready := if V.np j - 1 = 0 then V.ready ++ [j] else V.ready }
theorem tell_cons (V : SV) (j : Nat) (js : List Nat) : tell V (j :: js) = tell (tell1 V j) js := rfl
theorem tell_np (V : SV) (js : List Nat) (k : Nat) : (tell V js).np k = V.np k - (js.count k : Int) := by
 induction js generalizing V with
 | nil => simp [tell]
 | cons j js ih =>
  rw [tell_cons, ih]
  show updI V.np j (V.np j - 1) k - _ = _
  unfold updI
  by_cases h : k = j
  ·subst h; rw [if_pos rfl, List.count_cons_self]; lia
  ·rw [if_neg h, List.count_cons_of_ne fun e => h e.symm]
theorem tell_ready (V : SV) (js : List Nat) (hge : ∀ k ∈ js, (js.count k : Int) <= V.np k) : ∃ ex : List Nat, (tell V js).ready = V.ready ++ ex /\ ex.Nodup /\ ∀ k, k ∈ ex ↔ k ∈ js /\ V.np k = (js.count k : Int) := by
 induction js generalizing V with
 | nil => exact ⟨[], by simp [tell], List.nodup_nil, by simp⟩
 | cons j js ih =>
  rw [tell_cons]
  have hj := hge j List.mem_cons_self
  rw [List.count_cons_self] at hj
  have hnp : ∀ k, (tell1 V j).np k = if k = j then V.np j - 1 else V.np k := fun k => rfl
  obtain ⟨ex, e1, e2, e3⟩ := ih (tell1 V j) fun k hk => by
   rw [hnp]
   by_cases h : k = j
   ·subst h; rw [if_pos rfl]; lia
   ·rw [if_neg h]
    have := hge k (List.mem_cons_of_mem _ hk)
    rwa [List.count_cons_of_ne fun e => h e.symm] at this
  have hr : (tell1 V j).ready = if V.np j - 1 = 0 then V.ready ++ [j] else V.ready := rfl
  by_cases hz : V.np j - 1 = 0
  ·have hc0 : js.count j = 0 := by lia
   have hjn : j ∉ js := List.count_eq_zero.mp hc0
   refine ⟨j :: ex, by rw [e1, hr, if_pos hz, List.append_assoc]; rfl, ?_, fun k => ?_⟩
   ·rw [List.nodup_cons]
    exact ⟨fun z => hjn ((e3 j).mp z).1, e2⟩
   ·rw [List.mem_cons, e3, hnp, List.mem_cons]
    by_cases h : k = j
    ·subst h
     rw [List.count_cons_self]
     constructor
     ·intro _; exact ⟨.inl rfl, by lia⟩
     ·intro _; exact .inl rfl
    ·rw [if_neg h, List.count_cons_of_ne fun e => h e.symm]
     simp [h]
  ·refine ⟨ex, by rw [e1, hr, if_neg hz], e2, fun k => ?_⟩
   rw [e3, hnp, List.mem_cons]
   by_cases h : k = j
   ·subst h
    rw [if_pos rfl, List.count_cons_self]
    constructor
    ·rintro ⟨a, b⟩; exact ⟨.inl rfl, by lia⟩
    ·rintro ⟨a, b⟩
     have hpos : js.count k ≠ 0 := by lia
     exact ⟨List.count_pos_iff.mp (Nat.pos_of_ne_zero hpos), by lia⟩
   ·rw [if_neg h, List.count_cons_of_ne fun e => h e.symm]
    simp [h]
structure SI (n : Nat) (need : Nat -> List Nat) (ds ws : List Nat) (V : SV) : Prop where
 suc : ∀ p, p < n -> ∀ k, (V.succ p).count k = if k < n then (need k).count p else 0
 npd : ∀ k ∈ ds, V.np k = -2
 npw : ∀ k ∈ ws, V.np k = -1
 npo : ∀ k, k < n -> k ∉ ds -> k ∉ ws -> V.np k = ((need k).filter fun p => !ds.contains p).length
 rn : V.ready.Nodup
 rd : ∀ k, k ∈ V.ready ↔ k < n /\ k ∉ ds /\ k ∉ ws /\ ∀ p ∈ need k, p ∈ ds
 wok : ∀ k ∈ ws, k < n /\ k ∉ ds /\ ∀ p ∈ need k, p ∈ ds
 dok : ∀ k ∈ ds, k < n /\ ∀ p ∈ need k, p ∈ ds
 wn : ws.Nodup
 dn : ds.Nodup
 pas : V.pas = ds.length + ws.length
 fin : V.fin = ds.length
theorem SI.out {n : Nat} {need : Nat -> List Nat} {ds ws ws' : List Nat} {V : SV} (x : SI n need ds ws V) (hn : ws'.Nodup) (hm : ∀ k, k ∈ ws' ↔ k ∈ ws \/ k ∈ V.ready) (hl : ws'.length = ws.length + V.ready.length) :
  SI n need ds ws' { V with np := outV V.np V.ready, ready := [], pas := V.pas + V.ready.length } where
 suc := x.suc
 npd := fun k hk => by
  show outV V.np V.ready k = -2
  rw [outV_at, if_neg fun z => ((x.rd k).mp z).2.1 hk]; exact x.npd k hk
 npw := fun k hk => by
  show outV V.np V.ready k = -1
  rw [outV_at]
  split
  ·rfl
  ·rename_i h; exact x.npw k (((hm k).mp hk).resolve_right h)
 npo := fun k h1 h2 h3 => by
  show outV V.np V.ready k = _
  have hw : k ∉ ws := fun z => h3 ((hm k).mpr (.inl z))
  rw [outV_at, if_neg fun z => h3 ((hm k).mpr (.inr z))]; exact x.npo k h1 h2 hw
 rn := List.nodup_nil
 rd := fun k => by
  constructor
  ·intro z; cases z
  ·rintro ⟨a, b, c, d⟩
   exact absurd ((hm k).mpr (.inr ((x.rd k).mpr ⟨a, b, fun z => c ((hm k).mpr (.inl z)), d⟩))) c
 wok := fun k hk => ((hm k).mp hk).elim (x.wok k) fun z => let ⟨a, b, _, d⟩ := (x.rd k).mp z; ⟨a, b, d⟩
 dok := x.dok
 wn := hn
 dn := x.dn
 pas := by show V.pas + V.ready.length = _; rw [x.pas, hl]; lia
 fin := x.fin
theorem count_filter_add (l : List Nat) (ds : List Nat) (d : Nat) (hd : d ∉ ds) : (l.filter fun p => !ds.contains p).length = (l.filter fun p => !(ds ++ [d]).contains p).length + l.count d := by
 induction l with
 | nil => rfl
 | cons p l ih =>
  rw [List.filter_cons, List.filter_cons]
  by_cases h : p = d
  ·subst h
   have h1 : ds.contains p = false := by simpa using hd
   have h2 : (ds ++ [p]).contains p = true := by simp
   rw [h1, h2, List.count_cons_self]
   simp only [Bool.not_false, Bool.not_true, if_true, Bool.false_eq_true, if_false, List.length_cons]
   lia
  ·have h2 : (ds ++ [d]).contains p = ds.contains p := by simp [h]
   rw [h2, List.count_cons_of_ne h]
   cases ds.contains p
   ·simp only [Bool.not_false, if_true, List.length_cons]; lia
   ·simp only [Bool.not_true, Bool.false_eq_true, if_false]; exact ih
theorem SI.done {n : Nat} {need : Nat -> List Nat} {ds ws : List Nat} {V : SV} (x : SI n need ds ws V) {d : Nat} (hd : d ∈ ws) (hself : ∀ k < n, ∀ p ∈ need k, p < n) : SI n need (ds ++ [d]) (ws.erase d) (doneV V d) := by
 obtain ⟨hdn, hdd, hdneed⟩ := x.wok d hd
 have hsc := x.suc d hdn
 have hin : ∀ k, k ∈ V.succ d ↔ k < n /\ d ∈ need k := fun k => by
  rw [<- List.count_pos_iff, hsc]
  split
  ·rename_i h; rw [List.count_pos_iff]; simp [h]
  ·rename_i h; simp [h]
 have hnot : ∀ k ∈ V.succ d, k ∉ ds /\ k ∉ ws := fun k hk => by
  obtain ⟨a, b⟩ := (hin k).mp hk
  exact ⟨fun z => hdd ((x.dok k z).2 d b), fun z => hdd ((x.wok k z).2.2 d b)⟩
 have hkd : ∀ k ∈ V.succ d, k ≠ d := fun k hk e => (hnot k hk).2 (e ▸ hd)
 have hnp0 : ∀ k ∈ V.succ d, V.np k = ((need k).filter fun p => !(ds ++ [d]).contains p).length + ((V.succ d).count k : Int) := fun k hk => by
  obtain ⟨a, b⟩ := (hin k).mp hk
  rw [x.npo k a (hnot k hk).1 (hnot k hk).2, hsc, if_pos a, count_filter_add _ ds d hdd]; lia
 let V1 : SV := { V with np := updI V.np d (-2) }
 have hV1 : ∀ k, k ≠ d -> V1.np k = V.np k := fun k h => if_neg h
 obtain ⟨ex, e1, e2, e3⟩ := tell_ready V1 (V.succ d) fun k hk => by rw [hV1 k (hkd k hk), hnp0 k hk]; lia
 have hnp : ∀ k, (doneV V d).np k = V1.np k - ((V.succ d).count k : Int) := fun k => tell_np V1 (V.succ d) k
 have hrd : (doneV V d).ready = V.ready ++ ex := e1
 have hex : ∀ k, k ∈ ex ↔ k ∈ V.succ d /\ ∀ p ∈ need k, p ∈ ds ++ [d] := fun k => by
  rw [e3]
  constructor
  ·rintro ⟨a, b⟩
   refine ⟨a, fun p hp => ?_⟩
   rw [hV1 k (hkd k a), hnp0 k a] at b
   have h0 : ((need k).filter fun p => !(ds ++ [d]).contains p).length = 0 := by lia
   have h1 := List.filter_eq_nil_iff.mp (List.length_eq_zero_iff.mp h0) p hp
   by_cases z : p ∈ ds ++ [d]
   ·exact z
   ·exact absurd (by simpa using z) h1
  ·rintro ⟨a, b⟩
   refine ⟨a, ?_⟩
   have h0 : (need k).filter (fun p => !(ds ++ [d]).contains p) = [] := List.filter_eq_nil_iff.mpr fun p hp => by
    have := b p hp
    rw [show (ds ++ [d]).contains p = true from by rw [List.contains_eq_mem]; exact decide_eq_true this]
    decide
   rw [hV1 k (hkd k a), hnp0 k a, h0]; simp
 have hsuc0 : ∀ k, k ∉ V.succ d -> (V.succ d).count k = 0 := fun k h => List.count_eq_zero.mpr h
 exact {
  suc := fun p hp k => by
   have : (doneV V d).succ = V.succ := tell_succ V1 (V.succ d)
   rw [this]; exact x.suc p hp k
  npd := fun k hk => by
   rw [hnp]
   rcases List.mem_append.mp hk with hk | hk
   ·have h1 : k ∉ V.succ d := fun z => (hnot k z).1 hk
    have h2 : k ≠ d := fun e => hdd (e ▸ hk)
    rw [hV1 k h2, hsuc0 k h1, x.npd k hk]; rfl
   ·obtain rfl := List.mem_singleton.mp hk
    have h1 : k ∉ V.succ k := fun z => hkd k z rfl
    rw [hsuc0 k h1]
    show updI V.np k (-2) k - _ = _
    unfold updI; rw [if_pos rfl]; rfl
  npw := fun k hk => by
   have hk' := List.mem_of_mem_erase hk
   have h2 : k ≠ d := fun e => by
    have := List.Nodup.not_mem_erase x.wn (a := d)
    exact this (e ▸ hk)
   have h1 : k ∉ V.succ d := fun z => (hnot k z).2 hk'
   rw [hnp, hV1 k h2, hsuc0 k h1, x.npw k hk']; rfl
  npo := fun k h1 h2 h3 => by
   have hkd' : k ≠ d := fun e => h2 (by simp [e])
   have hds : k ∉ ds := fun z => h2 (List.mem_append_left _ z)
   have hws : k ∉ ws := fun z => h3 ((List.mem_erase_of_ne hkd').mpr z)
   rw [hnp, hV1 k hkd', x.npo k h1 hds hws, hsc, if_pos h1, count_filter_add _ ds d hdd]; lia
  rn := by
   rw [hrd, List.nodup_append]
   refine ⟨x.rn, e2, fun a ha b hb e => ?_⟩
   subst e
   have h1 := ((x.rd a).mp ha).2.2.2 d ((hin a).mp ((hex a).mp hb).1).2
   exact hdd h1
  rd := fun k => by
   rw [hrd, List.mem_append, x.rd, hex, hin]
   constructor
   ·rintro (⟨a, b, c, e⟩ | ⟨⟨a, b⟩, c⟩)
    ·refine ⟨a, fun z => ?_, fun z => c (List.mem_of_mem_erase z), fun p hp => List.mem_append_left _ (e p hp)⟩
     rcases List.mem_append.mp z with z | z
     ·exact b z
     ·exact c (List.mem_singleton.mp z ▸ hd)
    ·have hk := (hin k).mpr ⟨a, b⟩
     refine ⟨a, fun z => ?_, fun z => (hnot k hk).2 (List.mem_of_mem_erase z), c⟩
     rcases List.mem_append.mp z with z | z
     ·exact (hnot k hk).1 z
     ·exact hkd k hk (List.mem_singleton.mp z)
   ·rintro ⟨a, b, c, e⟩
    have hkd' : k ≠ d := fun z => b (by simp [z])
    have hds : k ∉ ds := fun z => b (List.mem_append_left _ z)
    have hws : k ∉ ws := fun z => c ((List.mem_erase_of_ne hkd').mpr z)
    by_cases hdk : d ∈ need k
    ·exact .inr ⟨⟨a, hdk⟩, e⟩
    ·refine .inl ⟨a, hds, hws, fun p hp => ?_⟩
     rcases List.mem_append.mp (e p hp) with z | z
     ·exact z
     ·exact absurd (List.mem_singleton.mp z ▸ hp) hdk
  wok := fun k hk => by
   have hk' := List.mem_of_mem_erase hk
   have h2 : k ≠ d := fun e => List.Nodup.not_mem_erase x.wn (a := d) (e ▸ hk)
   obtain ⟨a, b, c⟩ := x.wok k hk'
   exact ⟨a, fun z => (List.mem_append.mp z).elim b fun z => h2 (List.mem_singleton.mp z), fun p hp => List.mem_append_left _ (c p hp)⟩
  dok := fun k hk => by
   rcases List.mem_append.mp hk with hk | hk
   ·obtain ⟨a, b⟩ := x.dok k hk
    exact ⟨a, fun p hp => List.mem_append_left _ (b p hp)⟩
   ·rw [List.mem_singleton.mp hk]
    exact ⟨hdn, fun p hp => List.mem_append_left _ (hdneed p hp)⟩
  wn := x.wn.erase d
  dn := by
   rw [List.nodup_append]
   exact ⟨x.dn, by simp, fun a ha b hb e => hdd (by rw [List.mem_singleton.mp hb] at e; exact e ▸ ha)⟩
  pas := by
   show (tell V1 (V.succ d)).pas = _
   rw [(tell_pf _ _).1, List.length_append, List.length_erase_of_mem hd]
   have : 0 < ws.length := List.length_pos_of_mem hd
   have h2 : V1.pas = V.pas := rfl
   rw [h2, x.pas]
   simp; lia
  fin := by
   show V.fin + 1 = _
   rw [x.fin, List.length_append]; simp }
theorem addS_count (f : Nat -> List Nat) (k : Nat) (ps : List Nat) (j x : Nat) : (addS f k ps j).count x = (f j).count x + if x = k then ps.count j else 0 := by
 induction ps generalizing f with
 | nil => simp [addS]
 | cons p ps ih =>
  show (addS (updL f p (f p ++ [k])) k ps j).count x = _
  rw [ih]
  unfold updL
  by_cases h : j = p
  ·subst h
   rw [if_pos rfl, List.count_append, List.count_cons_self]
   by_cases hx : x = k
   ·subst hx; simp; lia
   ·have : List.count x [k] = 0 := List.count_eq_zero.mpr (by simpa using hx)
    rw [if_neg hx, if_neg hx, this]
  ·rw [if_neg h, List.count_cons_of_ne fun e => h e.symm]
noncomputable def addAll (need : Nat -> List Nat) (i : Nat) : SV := (List.range i).foldl (fun V k => addV V k (need k)) V0
theorem addAll_succ (need : Nat -> List Nat) (i : Nat) : addAll need (i + 1) = addV (addAll need i) i (need i) := by
 unfold addAll; rw [List.range_succ, List.foldl_append]; rfl
theorem addAll_at (need : Nat -> List Nat) (i : Nat) : (∀ k, (addAll need i).np k = if k < i then ((need k).length : Int) else 0) /\ (∀ p k, ((addAll need i).succ p).count k = if k < i then (need k).count p else 0) /\ (addAll need i).pas = 0 /\ (addAll need i).fin = 0 /\ (addAll need i).ready = [] := by
 induction i with
 | zero => exact ⟨fun k => rfl, fun p k => rfl, rfl, rfl, rfl⟩
 | succ i ih =>
  obtain ⟨a, b, c, d, e⟩ := ih
  rw [addAll_succ]
  refine ⟨fun k => ?_, fun p k => ?_, c, d, e⟩
  ·show updI (addAll need i).np i _ k = _
   unfold updI
   by_cases h : k = i
   ·subst h
    rw [if_pos rfl, if_pos (Nat.lt_succ_self _), a, if_neg (Nat.lt_irrefl _)]; lia
   ·rw [if_neg h, a]
    by_cases hk : k < i
    ·rw [if_pos hk, if_pos (by lia)]
    ·rw [if_neg hk, if_neg (by lia)]
  ·show (addS (addAll need i).succ i (need i) p).count k = _
   rw [addS_count, b]
   by_cases h : k = i
   ·subst h
    rw [if_neg (Nat.lt_irrefl _), if_pos rfl, if_pos (Nat.lt_succ_self _)]; lia
   ·rw [if_neg h]
    by_cases hk : k < i
    ·rw [if_pos hk, if_pos (by lia)]; rfl
    ·rw [if_neg hk, if_neg (by lia)]
theorem SI.start {n : Nat} {need : Nat -> List Nat} {order : List Nat} (hnd : order.Nodup) (ho : ∀ k, k ∈ order ↔ k < n) :
  SI n need [] [] { addAll need n with ready := order.filter fun k => (addAll need n).np k == 0 } := by
 obtain ⟨a, b, c, d, e⟩ := addAll_at need n
 exact {
  suc := fun p hp k => b p k
  npd := fun k hk => by cases hk
  npw := fun k hk => by cases hk
  npo := fun k hk _ _ => by
   show (addAll need n).np k = _
   rw [a, if_pos hk, List.filter_eq_self.mpr fun p _ => by simp]
  rn := hnd.filter _
  rd := fun k => by
   show k ∈ order.filter _ ↔ _
   rw [List.mem_filter, ho, a]
   constructor
   ·rintro ⟨h1, h2⟩
    rw [if_pos h1] at h2
    have h3 : (need k).length = 0 := by have := beq_iff_eq.mp h2; lia
    refine ⟨h1, by simp, by simp, fun p hp => ?_⟩
    rw [List.length_eq_zero_iff.mp h3] at hp; cases hp
   ·rintro ⟨h1, _, _, h4⟩
    rw [if_pos h1]
    have : need k = [] := List.eq_nil_iff_forall_not_mem.mpr fun p hp => by have := h4 p hp; cases this
    rw [this]; exact ⟨h1, rfl⟩
  wok := fun k hk => by cases hk
  dok := fun k hk => by cases hk
  wn := List.nodup_nil
  dn := List.nodup_nil
  pas := by show (addAll need n).pas = _; rw [c]; rfl
  fin := by show (addAll need n).fin = _; rw [d]; rfl }
theorem ranked_of {G : SG} {n : Nat} {need : Nat -> List Nat} {rk : Nat -> Nat} (ho : ∀ k, k ∈ G.order ↔ k < n) (hr : ∀ k < n, ∀ p ∈ need k, rk p < rk k) : Ranked G (addAll need n) rk := fun v hv j hj => by
 have h := List.count_pos_iff.mpr hj
 rw [(addAll_at need n).2.1] at h
 split at h
 ·rename_i h1
  exact ⟨(ho j).mpr h1, hr j h1 v (List.count_pos_iff.mp h)⟩
 ·exact absurd h (Nat.lt_irrefl _)
section
open PySem.W
theorem nd_run : ((fd_run pw).scope.names.map (·.1)).Nodup := by decide +kernel
theorem kd_run : ∀ x ∈ (fd_run pw).scope.names.take 5, x.2 = .local \/ x.2 = .cell := by decide +kernel
noncomputable abbrev vR (dd sd bg sg pk nd so k tx hv wt lf gp de : Option PV) : List (Option PV) := [dd, sd, bg, sg, pk, nd, so, k, tx, hv, wt, lf, gp, de, none, none, none, none, none, none, none, none, none]
theorem GB.of {fs fp : List Addr} {h₀ h : Heap} (x : GB fs h₀) (k : Kp fs h₀ h) (hf : ∀ b ∈ fp, b ∈ fs \/ h₀.get? b = none) : GB (fs ++ fp) h :=
 (x.less fun a ha => (List.mem_append.mp ha).elim .inl (hf a)).kp (k.mono fun b hb => List.mem_append_left _ hb)
section
variable {w : World} {A : Around} {s0 s : Shared} {env : Env} {fs X : List Addr} {E : Value -> Shared -> Prop} {P : Params} {t1 t2 t3 t4 : Int × Tok} {D : Addr} {rv : Value} {np nf : Int} {k1 k2 : Tok} {n : Nat}
theorem Fm.growT {env : Env} {X M : List Addr} {h₀ h h' : Heap} {vals : List (Option PV)} (F : Fm env X M h₀ h vals) {fp' : List Addr} (dk : DKp X h h') (ow : ∀ b ∈ own env, ∀ o, h.get? b = some o -> ∃ sl, h'.get? b = some { o with slots := sl }) (keep : Kp M h₀ h') (xb : XB h' X) (ex : ∀ b ∈ fp', ∃ o, h'.get? b = some o) (new : ∀ b ∈ fp', b ∈ X \/ h.get? b = none) : Fm env (fp' ++ X) M h₀ h' vals :=
 {F.shift dk ow keep xb with
  rd := fun i x k pv e1 e2 => by
   obtain ⟨v, a, b⟩ := F.rd i x k pv e1 e2
   have b2 : Rep (fp' ++ X) h pv v := Rep.more (fun c hc => (List.mem_append.mp hc).elim (new c) .inl) b
   refine ⟨v, ?_, Rep.dkp (fun c o hc hd e => dk c o (fun z => hc (List.mem_append_right _ z)) hd e) b2⟩
   rcases a with ⟨e, m, ⟨o, es, ep, ho, r⟩, hm⟩ | ⟨e, c, l, o, ho, hd⟩
   ·obtain ⟨sl, ho'⟩ := ow _ List.mem_cons_self o ho
    exact .inl ⟨e, m, ⟨_, es, ep, ho', r⟩, hm⟩
   ·obtain ⟨sl, ho'⟩ := ow _ (mem_own_of_lookup l) o ho
    exact .inr ⟨e, c, l, _, ho', hd⟩
  xb := fun a ha => (List.mem_append.mp ha).elim (ex a) (xb a)
  ox := fun a ha => List.mem_append_right _ (F.ox a ha) }
theorem addS_len (f : Nat -> List Nat) (k : Nat) (ps : List Nat) (j : Nat) : (addS f k ps j).length = (f j).length + ps.count j := by
 induction ps generalizing f with
 | nil => simp [addS]
 | cons p ps ih =>
  show (addS (updL f p (f p ++ [k])) k ps j).length = _
  rw [ih]
  unfold updL
  by_cases h : j = p
  ·subst h; rw [if_pos rfl, List.length_append, List.count_cons_self]; simp; lia
  ·rw [if_neg h, List.count_cons_of_ne fun e => h e.symm]
theorem addAll_len {need : Nat -> List Nat} {i : Nat} (h : ∀ k < i, (need k).length <= 10) (j : Nat) : ((addAll need i).succ j).length <= 10 * i := by
 induction i with
 | zero => exact Nat.le_refl _
 | succ i ih =>
  rw [addAll_succ]
  show (addS (addAll need i).succ i (need i) j).length <= _
  rw [addS_len]
  have := ih fun k hk => h k (by lia)
  have h2 := h i (Nat.lt_succ_self _)
  have h3 := List.count_le_length (a := j) (l := need i)
  lia
theorem f_add : findObj (Kts P pw) 238 (some (sDict t1 t2 t3 t4 D rv np nf k1 k2 n)) "add" = some (.bind (.builtin "function.__get__") (.ref 188)) := by kernel_rfl
theorem f_fnA : fnIn (Kts P pw) 188 = true := by kernel_rfl
theorem call_star {P : Params} {G : SG} {V : SV} (K : (Kts P pw).In s.heap) (T : TS w s.heap G V) {o e1 e2 : Expr} {apos sp pos : Pos} {Q : Value -> Shared -> Prop} (eo : Ev pw w A env X s.heap o (.obj (.ref G.a)))
  (args : ∀ s', Gw s s' -> ∀ Q' : List Value -> Shared -> Prop, (∀ vs s'', Gw s' s'' -> codeAny (model pw w) A (.call (.ref 188) ⟨.ref G.a :: vs, []⟩) (fun r s₃ => match r with | .ok (.ret v) => Q v s₃ | .ok _ => False | .error e => E e s₃) s'' -> Q' vs s'') -> wpAny (model pw w) A (spliced (backTo pos (starEach [e1, .Starred e2 sp] env))) Q' E s')
  (hst : starEach [e1, .Starred e2 sp] env = [(false, eval e1 env), (true, eval e2 env)] := by rfl)
  (he : eval (.Call (.Attribute o "add" apos) [e1, .Starred e2 sp] [] pos) env = (do
   let ov <- eval o env
   standAt apos.atName
   let (f, first) <- holding [ov] (do pure (<- getAttr ov "add" true, ([] : List Value)))
   let callPos <- (pure pos : Sem Pos)
   callWith callPos f first (backTo pos (starEach [e1, .Starred e2 sp] env)) []) := by rfl) :
  wpAny (model pw w) A (eval (.Call (.Attribute o "add" apos) [e1, .Starred e2 sp] [] pos) env) Q E s := by
 rw [he]
 refine wpAny_bind (eo s _ _ (HK.refl _) fun ov s₁ g r => ?_)
 obtain rfl : ov = .ref G.a := r
 obtain ⟨t1, t2, t3, t4, k1, k2, n, I⟩ := I_s (T.hk g.hk)
 have K₁ := K.keeps g.hk
 refine wpAny_bind (wpAny_standAt (wpAny_bind (wpAny_holding (wpAny_bind (get_bind K₁ I f_sga f_add f_sgk (wpAny_call (fn_get (s := { s₁ with toks := s₁.toks + 1 }) K₁ f_ft.2.1 ?_)))))))
 show wpAny _ _ (handedOut _) _ _ _
 rw [handedOut_of rfl]
 refine wpAny_pure (wpAny_pure (wpAny_bind (wpAny_pure ?_)))
 have g2 : Gw s { s₁ with heap := s₁.heap.push (methodObj (.ref 188) (.ref G.a)), toks := s₁.toks + 1 } := by
  obtain ⟨⟨h1, t1, e1⟩, k⟩ := g
  subst e1
  exact ⟨⟨_, _, rfl⟩, fun b o e => Heap.get?_push_of_some _ (k b o e)⟩
 have hq : (s₁.heap.push (methodObj (.ref 188) (.ref G.a))).get? s₁.heap.objs.size = some (methodObj (.ref 188) (.ref G.a)) := Heap.get?_push_size _ rfl
 generalize hs2 : ({ s₁ with heap := s₁.heap.push (methodObj (.ref 188) (.ref G.a)), toks := s₁.toks + 1 } : Shared) = s₂ at g2
 have e2 : s₂.heap = s₁.heap.push (methodObj (.ref 188) (.ref G.a)) := by rw [<- hs2]
 rw [<- e2] at hq
 have K₂ := K.keeps g2.hk
 have hargs := args s₂ g2
 rw [hst] at hargs ⊢
 refine ks_call (P := MethP (Kts P pw) s₁.heap.objs.size 188 (.ref G.a)) (by rfl) (keeps_M f_fnA) (evalArgs_plain ?_)
 refine hargs _ fun vs s₃ g₃ hc => ⟨⟨g₃.hk _ _ hq, K₂.keeps g₃.hk⟩, wpAny_call (method_call (g₃.hk _ _ hq) ?_)⟩
 exact hc
theorem star_list {X : List Addr} {h : Heap} {e : Expr} {xs : List Nat} {pos p : Pos} {Q : List Value -> Shared -> Prop} (x : Ev pw w A env X s.heap e (pvN xs)) (hl : xs.length <= 1000)
  (hq : ∀ vs s', Gw s s' -> IntsAre vs (zs xs) -> Q vs s') : wpAny (model pw w) A (eval e env) (fun v s₁ => StarOf (model pw w) A E v (fun here s₂ => wpAny (model pw w) A (spliced (backTo pos (starEach [] env))) (fun vs s₃ => Q (here ++ vs) s₃) E s₂) s₁) E s := by
 refine x s _ _ (HK.refl _) fun v s₁ g r => ?_
 obtain ⟨a, n, vs, rfl, _, ho, hi, _⟩ := rep_zs r
 have hsz : vs.size = xs.length := by have := hi.length; simpa using this
 unfold StarOf notIterableAtAll
 have hT : s₁.TypeIs (.ref a) "list" := ⟨_, ho, rfl⟩
 refine wpAny_bind (wpAny_specialOf hT PySem.F.slot_list_iter.lookup (wpAny_pure ⟨rfl, ?_⟩))
 refine wpAny_collect_seq a (.inl rfl) ho rfl rfl (fun h' hk => spliced_nil ?_) (by rw [hsz]; unfold sizeLine; lia)
 rw [List.append_nil]
 exact hq _ _ (g.trans ⟨⟨h', s₁.toks, rfl⟩, hk⟩) hi
end
noncomputable def runB : List Stmt := bodyOf (topS pw 42)
theorem FF.turn {h h' : Heap} : ∀ {l : List Env}, (∀ b ∈ framesOf l, ∀ o, h.get? b = some o -> ∃ sl, h'.get? b = some { o with slots := sl }) -> FF h l -> FF h' l
 | [], _, _ => trivial
 | e :: l, k, ⟨a, ⟨L, o, b1, b2, b3, b4⟩, c⟩ => by
  have hm : ∀ b ∈ framesOf l, b ∈ framesOf (e :: l) := fun b hb => by unfold framesOf; rw [List.filterMap_cons, b1]; exact List.mem_cons_of_mem _ hb
  have hL : L ∈ framesOf (e :: l) := by unfold framesOf; rw [List.filterMap_cons, b1]; exact List.mem_cons_self
  obtain ⟨sl, e'⟩ := k L hL o b3
  exact ⟨a, ⟨L, _, b1, b2, e', b4⟩, FF.turn (fun b hb => k b (hm b hb)) c⟩
structure SrtI (w : World) (s0 s : Shared) (env : Env) (outer : List Env) (X : List Addr) (deeds : List (List Nat × List Nat)) (side : Nat) (need : Nat -> List Nat) (sd bg sg pk : Option PV) (G : SG) (I : Addr) (hb : Heap) (i : Nat) (sx : Shared) (Gi : SG) (Xi : List Addr) : Prop where
 Fi : Fm env Xi (framesOf outer) s0.heap sx.heap (vR (some (.list (deeds.map pvD))) sd bg sg pk (some (.list ((deeds.map (needOf deeds side)).map pvN))) (some (.obj (.ref G.a))) none none none none none none none)
 Ti : TS w sx.heap Gi (addAll need i)
 ea : Gi.a = G.a
 er : Gi.rdy = false
 si : ∀ b ∈ Gi.fp, b ∈ Xi /\ b ∉ own env /\ (b ∈ framesOf outer \/ s0.heap.get? b = none)
 ni : ∀ b ∈ Gi.fp, b ∈ G.fp \/ hb.get? b = none
 hIX : I ∈ Xi
 hIo : I ∉ own env
 hIf : I ∉ Gi.fp
 exi : ∃ h' tk, sx = { s0 with heap := h', toks := tk }
 exx : EX hb sx.heap
 li : Gi.order.length <= 11 * i
 mi : ∀ j ∈ Gi.order, j < deeds.length
 mj : ∀ j < i, j ∈ Gi.order
 xi : ∀ b ∈ X, b ∈ Xi
 fi : ∀ b ∈ Gi.fp, b ∉ framesOf outer
 ki : ∀ b ∈ framesOf outer, ∀ o, s.heap.get? b = some o -> sx.heap.get? b = some o
section
variable {w : World} {A : Around} {s0 s : Shared} {env : Env} {outer : List Env} {fs X : List Addr} {E : Value -> Shared -> Prop} {deeds : List (List Nat × List Nat)} {side : Nat} {dd sd bg sg pk : Option PV}
set_option maxHeartbeats 2000000 in
theorem run_sorter {rk : Nat -> Nat} (hn : env.scope.names = (fd_run pw).scope.names) (eg : env.globals = mainGlobals) (eb : env.builtins = builtinsNs) (hint : interactive env = false) (hh : A.handled = none) (hd : A.depth + 100 < recursionLimit) (hfr : A.frames = some (env :: outer)) (hf : env.frame = some env.locals)
  (GB0 : GB (framesOf outer) s0.heap) (FF0 : FF s0.heap outer) (hex : ∃ h' tk, s = { s0 with heap := h', toks := tk }) (k0 : ∀ b ∈ framesOf outer, ∀ o, s0.heap.get? b = some o -> s.heap.get? b = some o) (hfX : ∀ b ∈ framesOf outer, b ∈ X)
  (hns : (deeds.map (needOf deeds side)).length = deeds.length) (hn5 : deeds.length <= 10) (hnl : ∀ d ∈ deeds, (needOf deeds side d).length <= 10) (hlt : ∀ d ∈ deeds, ∀ p ∈ needOf deeds side d, p < deeds.length) (hrk : ∀ k < deeds.length, ∀ p ∈ needOf deeds side (deeds.getD k ([], [])), rk p < rk k)
  (F : Fm env X (framesOf outer) s0.heap s.heap (vR (some (.list (deeds.map pvD))) sd bg sg pk (some (.list ((deeds.map (needOf deeds side)).map pvN))) none none none none none none none none)) {Q : Flow -> Shared -> Prop}
  (next : ∀ s' G Y, (∃ h' tk, s' = { s0 with heap := h', toks := tk }) -> Fm env Y (framesOf outer) s0.heap s'.heap (vR (some (.list (deeds.map pvD))) sd bg sg pk (some (.list ((deeds.map (needOf deeds side)).map pvN))) (some (.obj (.ref G.a))) none none none none none none none) -> (∀ b ∈ X, b ∈ Y) ->
   TS w s'.heap G { addAll (fun k => needOf deeds side (deeds.getD k ([], []))) deeds.length with ready := G.order.filter fun k => (addAll (fun k => needOf deeds side (deeds.getD k ([], []))) deeds.length).np k == 0 } -> G.rdy = true -> (∀ k, k ∈ G.order ↔ k < deeds.length) -> (∀ b ∈ G.fp, b ∈ Y /\ b ∉ own env /\ (b ∈ framesOf outer \/ s0.heap.get? b = none)) -> (∀ b ∈ G.fp, b ∉ framesOf outer) ->
   (∀ b ∈ framesOf outer, ∀ o, s.heap.get? b = some o -> ∃ sl, s'.heap.get? b = some { o with slots := sl }) -> wpAny (model pw w) A (execs (runB.drop 4) env) Q E s') :
  wpAny (model pw w) A (execs (runB.drop 1) env) Q E s := by
 generalize hneed : (fun k => needOf deeds side (deeds.getD k ([], []))) = need at *
 have hneed' : ∀ k, need k = needOf deeds side (deeds.getD k ([], [])) := fun k => by rw [<- hneed]
 have Gr := (GB0.kp F.keep).grd
 obtain ⟨P, K⟩ := Gr.frag
 refine wpAny_execs_cons (wpAny_Assign_Name (Q := _) ?_ (by rfl))
 show wpAny _ _ (eval (.Name _ _) env >>= fun f => callWith _ f [] (backTo _ (starEach [] env)) []) _ _ _
 refine wpAny_bind ((Ev.glob F.toRd 15 (nm hn rfl) Gr.g_TopologicalSorter eg eb) s _ _ (HK.refl _) fun fv s₁ g₁ r₁ => ?_)
 obtain rfl : fv = .ref 238 := r₁
 refine callWith_K0 (K.keeps g₁.hk) f_keep.2 ?_
 refine w_newsorter ((GB0.kp F.keep).hk g₁.hk) (by lia) hh fun s₂ G g₂ T₂ hfr2 hrd hor => ?_
 have F₁ := F.hk g₁.hk
 have F₂ := F₁.grow (fp := []) (fp' := G.fp) (g₂.hk.kp []) (by simp) T₂.ex (by simp) (fun b hb => .inr (hfr2 b hb))
 have sub2 := sub_grow (fp := []) (fp' := G.fp) F₁ (by simp) (fun b hb => .inr (hfr2 b hb))
 refine store F₂ 6 (nm hn rfl) (.inl rfl) (p := .obj (.ref G.a)) (by unfold Rep; rfl) fun s₃ m₃ F₃ => ?_
 have T₃ := T₂.kp m₃.kp fun b hb => (sub2 b hb).2.1
 replace F₃ : Fm env (G.fp ++ X) (framesOf outer) s0.heap s₃.heap (vR (some (.list (deeds.map pvD))) sd bg sg pk (some (.list ((deeds.map (needOf deeds side)).map pvN))) (some (.obj (.ref G.a))) none none none none none none none) := F₃
 have ex3 := ex_tr hex (ex_tr g₁.ex (ex_tr g₂.ex m₃.ex))
 have hfs2 : ∀ b ∈ G.fp, b ∉ framesOf outer := fun b hb z => by
  obtain ⟨o, e⟩ := F₁.xb b (hfX b z)
  rw [hfr2 b hb] at e; cases e
 have G₃ : Grd pw s₃.heap := (GB0.kp F₃.keep).grd
 refine x_forS hh (own env ++ G.fp) (fun b hb => (List.mem_append.mp hb).elim (F₃.ox b) fun z => (sub2 b z).1) F₃.xb (Ev.call (Ev.glob F₃.toRd 16 (nm hn rfl) G₃.g_range eg eb) (EvL.cons (Ev.call (Ev.glob F₃.toRd 17 (nm hn rfl) G₃.g_len eg eb) (EvL.cons (Ev.name F₃.toRd 0 (nm hn rfl) rfl) EvL.nil) trivial (c_len (by rw [List.length_map]; lia))) EvL.nil) trivial ((c_range1 F₃.xb).cast (by rw [List.length_map]) rfl)) (Items.rngN (n := deeds.length) (by lia))
  (fun I hb i sx => ∃ Gi Xi, SrtI w s0 s env outer X deeds side need sd bg sg pk G I hb i sx Gi Xi) ?_ ?_ ?_ ?_
 ·intro I sx gx hI hex'
  have hIf : I ∉ G.fp := fun z => by obtain ⟨o, e⟩ := T₃.ex I z; rw [hI] at e; cases e
  have hIo : I ∉ own env := fun z => by obtain ⟨o, e⟩ := F₃.xb I (F₃.ox I z); rw [hI] at e; cases e
  refine ⟨G, _, F₃.hold gx.hk hI hex', T₃.hk gx.hk, rfl, hrd, fun b hb => ⟨List.mem_cons_of_mem _ (sub2 b hb).1, (sub2 b hb).2⟩, fun b hb => .inl hb, by simp, hIo, hIf, ex_tr ex3 gx.ex, EX.refl _, by rw [hor]; simp, by rw [hor]; simp, fun j hj => absurd hj (Nat.not_lt_zero _), fun b hb => List.mem_cons_of_mem _ (List.mem_append_right _ hb), hfs2, fun b hb o e => gx.hk b o (m₃.kp b o (fun z => by obtain ⟨o', e0⟩ := FF0.mem_some hb; rw [F.fresh b z] at e0; cases e0) (g₂.hk b o (g₁.hk b o e)))⟩
 ·rintro I hb i sx sy hkb hI hIb ⟨Gi, Xi, J⟩ m hex'
  have hI0 : s0.heap.get? I = none := by
   cases q : s0.heap.get? I with
   | none => rfl
   | some o =>
    by_cases hf' : I ∈ framesOf outer
    ·obtain ⟨o', e⟩ := F₃.xb I (List.mem_append_right _ (hfX I hf')); rw [hI] at e; cases e
    ·rw [F₃.keep I o hf' q] at hI; cases hI
  have nI : ∀ b, b ∈ [I] -> b = I := fun b hb => List.mem_singleton.mp hb
  refine ⟨Gi, Xi, J.Fi.other m.kp (fun a ha => by rw [nI a ha]; exact J.hIo) (fun a ha => by rw [nI a ha]; exact J.hIX) (fun a ha => by rw [nI a ha]; exact .inr hI0) (fun b hb' => ?_), J.Ti.kp m.kp (fun b hb' z => J.hIf (nI b z ▸ hb')), J.ea, J.er, J.si, J.ni, J.hIX, J.hIo, J.hIf, ex_tr J.exi m.ex, J.exx.trans (EX.of m.kp fun b hb' => by rw [nI b hb']; exact hex'), J.li, J.mi, J.mj, J.xi, J.fi, fun b hb' o e => m.kp b o (fun z => by obtain ⟨o', e0⟩ := FF0.mem_some hb'; rw [nI b z, hI0] at e0; cases e0) (J.ki b hb' o e)⟩
  by_cases e : b = I
  ·exact e ▸ hex'
  ·obtain ⟨o, ho⟩ := J.Fi.xb b hb'; exact ⟨o, m.kp b o (by simpa using e) ho⟩
 ·rintro I hb i q v sx E' hkb hI hIb hqi ⟨Gi, Xi, J⟩ rv hIx
  have li := J.li
  rw [List.getElem?_map] at hqi
  have hi : i < deeds.length := by
   cases hr : (List.range deeds.length)[i]? with
   | none => rw [hr] at hqi; cases hqi
   | some j => have := List.getElem?_eq_some_iff.mp hr; simpa using this.1
  obtain rfl : PV.int i = q := by rw [List.getElem?_range hi] at hqi; simpa using hqi
  obtain ⟨tk, rfl⟩ := rv
  refine a_name J.Fi 7 (nm hn rfl) (.inl rfl) (p := .int i) ⟨tk, rfl⟩ fun sa ma Fa => ?_
  have Ta := J.Ti.kp ma.kp fun b hb' => (J.si b hb').2.1
  replace Fa : Fm env Xi (framesOf outer) s0.heap sa.heap (vR (some (.list (deeds.map pvD))) sd bg sg pk (some (.list ((deeds.map (needOf deeds side)).map pvN))) (some (.obj (.ref G.a))) (some (.int i)) none none none none none none) := Fa
  have GBa : GB (framesOf outer ++ Gi.fp) sa.heap := GB0.of Fa.keep fun b hb' => (J.si b hb').2.2
  obtain ⟨P, Ka⟩ := GBa.grd.frag
  have hneedi : (deeds.map (needOf deeds side))[i]? = some (need i) := by
   rw [List.getElem?_map, hneed', List.getD_eq_getElem?_getD, List.getElem?_eq_getElem hi]; rfl
  have hdi : deeds[i]? = some (deeds.getD i ([], [])) := by rw [List.getD_eq_getElem?_getD, List.getElem?_eq_getElem hi]; rfl
  have hni : (need i).length <= 10 := by rw [hneed']; exact hnl _ (List.mem_of_getElem? hdi)
  have eva : ∀ pos, Ev pw w A env Xi sa.heap (.Name "sorter" pos) (.obj (.ref Gi.a)) := fun pos => by rw [J.ea]; exact Ev.name Fa.toRd 6 (nm hn rfl) rfl
  refine wpAny_execs_cons (wpAny_Expr_any (call_star (X := Xi) Ka Ta (eva _) (fun sb gb Q' hQ' => ?_) (by rfl) (by rfl)) hint (by rfl))
  have Fb := Fa.hk gb.hk
  show wpAny _ _ (spliced ((false, eval _ env) :: backTo _ (starEach [_] env))) _ _ _
  refine spliced_cons ((Ev.name Fb.toRd 7 (nm hn rfl) rfl) sb _ _ (HK.refl _) fun u sc gc rc => ?_)
  obtain ⟨tu, rfl⟩ := rc
  have Fc := Fb.hk gc.hk
  refine items_star (star_list (X := Xi) (h := sc.heap) (xs := need i) (p := default) (Q := fun vs s₃ => Q' (Value.int (i : Int) tu :: vs) s₃) (Ev.item (Ev.name Fc.toRd 5 (nm hn rfl) rfl) (Ev.name Fc.toRd 7 (nm hn rfl) rfl) (by lia) (by lia) (by rw [Int.toNat_natCast, List.getElem?_map, hneedi]; rfl)) (by lia) fun vs sd' gd hvs => ?_) (by rfl)
  have k13 := (gb.hk.trans gc.hk).trans gd.hk
  have Td := Ta.hk k13
  refine hQ' _ _ (gc.trans gd) ?_
  refine w_add Td ((GBa.hk k13).less fun a ha => .inl (List.mem_append_right _ ha)) (by lia) hh J.er hvs (by lia) (fun j => Nat.le_trans (addAll_len (fun k hk => by
   have hdk : deeds[k]? = some (deeds.getD k ([], [])) := by rw [List.getD_eq_getElem?_getD, List.getElem?_eq_getElem (by lia)]; rfl
   rw [hneed']; exact hnl _ (List.mem_of_getElem? hdk)) j) (by lia)) fun se Ge me Te xe hme hle => ?_
  have Fd := Fa.hk k13
  have Fe := Fd.grow me.kp J.si Te.ex (fun b hb' => Te.ex b (xe.sub b hb')) xe.new
  have sube := sub_grow Fd J.si xe.new
  have exad : EX sx.heap sd'.heap := (EX.of ma.kp fun b hb' => Fa.xb b (Fa.ox b hb')).trans (EX.hk k13)
  have nfe : ∀ b ∈ Ge.fp, b ∈ G.fp \/ hb.get? b = none := fun b hb' => by
   rcases xe.new b hb' with z | z
   ·exact J.ni b z
   ·exact .inr ((J.exx.trans exad).none z)
  refine x_nil ⟨?_, Ge, Ge.fp ++ Xi, Fe.forget 7, by rw [addAll_succ]; exact Te, xe.a.trans J.ea, xe.rdy.trans J.er, sube, nfe, List.mem_append_right _ J.hIX, J.hIo, fun z => ?_, ex_tr J.exi (ex_tr ma.ex (ex_tr gb.ex (ex_tr gc.ex (ex_tr gd.ex me.ex)))), J.exx.trans (exad.trans (EX.of me.kp fun b hb' => Te.ex b (xe.sub b hb'))), by lia, fun j hj => ?_, fun j hj => ?_, fun b hb' => List.mem_append_right _ (J.xi b hb'), fun b hb' => ?_, fun b hb' o e => ?_⟩
  ·refine (MvB.of ma fun b hb' => .inl (List.mem_append_left _ hb')).trans ((MvB.of (((gb.trans gc).trans gd).mv []) (by simp)).trans (MvB.of me fun b hb' => ?_))
   exact (J.ni b hb').imp (List.mem_append_right _) id
  ·rcases xe.new I z with q | q
   ·exact J.hIf q
   ·obtain ⟨o, e⟩ := exad I hIx; rw [q] at e; cases e
  ·rcases (hme j).mp hj with z | z | z
   ·exact J.mi j z
   ·rw [z]; exact hi
   ·rw [hneed'] at z; exact hlt _ (List.mem_of_getElem? hdi) j z
  ·rcases Nat.lt_succ_iff_lt_or_eq.mp hj with z | z
   ·exact (hme j).mpr (.inl (J.mj j z))
   ·exact (hme j).mpr (.inr (.inl z))
  ·rcases xe.new b hb' with z | z
   ·exact J.fi b z
   ·intro zf
    obtain ⟨o, e⟩ := Fd.xb b (J.xi b (hfX b zf)); rw [z] at e; cases e
  ·refine me.kp b o (fun z => J.fi b z hb') (k13 b o (ma.kp b o (fun z => ?_) (J.ki b hb' o e)))
   obtain ⟨o', e0⟩ := FF0.mem_some hb'; rw [F.fresh b z] at e0; cases e0
 ·rintro I hb sx sy hkb hI hIb ⟨Gi, Xi, J⟩ m
  have Ti := J.Ti
  have mj := J.mj
  have li := J.li
  rw [List.length_map, List.length_range] at Ti mj li
  have hI0 : s0.heap.get? I = none := by
   cases q : s0.heap.get? I with
   | none => rfl
   | some o =>
    by_cases hf' : I ∈ framesOf outer
    ·obtain ⟨o', e⟩ := F₃.xb I (List.mem_append_right _ (hfX I hf')); rw [hI] at e; cases e
    ·rw [F₃.keep I o hf' q] at hI; cases hI
  have nI : ∀ b, b ∈ [I] -> b = I := fun b hb => List.mem_singleton.mp hb
  have hsub : ∀ b, b ∈ Xi.filter (fun b => b != I) -> b ∈ Xi := fun b hb => (List.mem_filter.mp hb).1
  have Fy : Fm env (Xi.filter fun b => b != I) (framesOf outer) s0.heap sy.heap (vR (some (.list (deeds.map pvD))) sd bg sg pk (some (.list ((deeds.map (needOf deeds side)).map pvN))) (some (.obj (.ref G.a))) none none none none none none none) :=
   {J.Fi with
    rd := fun j x k pv e1 e2 => by
     obtain ⟨v, a, b⟩ := J.Fi.rd j x k pv e1 e2
     refine ⟨v, ?_, Rep.less hsub (Rep.kp (m.kp.mono fun c hc => by rw [nI c hc]; exact J.hIX) b)⟩
     rcases a with ⟨e, mm, n, hm⟩ | ⟨e, c, l, hc⟩
     ·exact .inl ⟨e, mm, n.at' fun o ho => m.kp _ o (fun z => J.hIo (nI _ z ▸ List.mem_cons_self)) ho, hm⟩
     ·obtain ⟨o, ho, hd'⟩ := hc
      exact .inr ⟨e, c, l, o, m.kp _ o (fun z => J.hIo (nI _ z ▸ mem_own_of_lookup l)) ho, hd'⟩
    xb := fun b hb' => by
     obtain ⟨o, ho⟩ := J.Fi.xb b (hsub b hb')
     exact ⟨o, m.kp b o (fun z => by have := (List.mem_filter.mp hb').2; rw [nI b z] at this; simp at this) ho⟩
    ns := let ⟨mm, e⟩ := J.Fi.ns; ⟨mm, e.at' fun o ho => m.kp _ o (fun z => J.hIo (nI _ z ▸ List.mem_cons_self)) ho⟩
    cl := fun x e => by
     obtain ⟨c, ov, a, o, ho, hd'⟩ := J.Fi.cl x e
     exact ⟨c, ov, a, o, m.kp _ o (fun z => J.hIo (nI _ z ▸ mem_own_of_lookup a)) ho, hd'⟩
    cs := fun x c e => by
     obtain ⟨ov, o, ho, hd'⟩ := J.Fi.cs x c e
     exact ⟨ov, o, m.kp _ o (fun z => J.hIo (nI _ z ▸ mem_own_of_lookup e)) ho, hd'⟩
    ox := fun a ha => List.mem_filter.mpr ⟨J.Fi.ox a ha, by
     have : a ≠ I := fun e => J.hIo (e ▸ ha)
     simpa using this⟩
    keep := fun b o hb' e => m.kp b o (fun z => by rw [nI b z, hI0] at e; cases e) (J.Fi.keep b o hb' e) }
  have Ty := Ti.kp m.kp fun b hb' z => J.hIf (nI b z ▸ hb')
  have ky : ∀ b ∈ framesOf outer, ∀ o, s.heap.get? b = some o -> sy.heap.get? b = some o := fun b hb' o e => m.kp b o (fun z => by obtain ⟨o', e0⟩ := FF0.mem_some hb'; rw [nI b z, hI0] at e0; cases e0) (J.ki b hb' o e)
  have xy : ∀ b ∈ X, b ∈ Xi.filter fun b => b != I := fun b hb' => List.mem_filter.mpr ⟨J.xi b hb', by
   have : b ≠ I := fun e => by obtain ⟨o, e'⟩ := F₃.xb b (List.mem_append_right _ hb'); rw [e, hI] at e'; cases e'
   simpa using this⟩
  have sy' : ∀ b ∈ Gi.fp, b ∈ (Xi.filter fun b => b != I) /\ b ∉ own env /\ (b ∈ framesOf outer \/ s0.heap.get? b = none) := fun b hb' => ⟨List.mem_filter.mpr ⟨(J.si b hb').1, by
   have : b ≠ I := fun e => J.hIf (e ▸ hb')
   simpa using this⟩, (J.si b hb').2⟩
  generalize (Xi.filter fun b => b != I) = Y at *
  have GBy : GB (framesOf outer ++ Gi.fp) sy.heap := GB0.of Fy.keep fun b hb' => (sy' b hb').2.2
  obtain ⟨P, Ky⟩ := GBy.grd.frag
  have eva : ∀ pos, Ev pw w A env Y sy.heap (.Name "sorter" pos) (.obj (.ref Gi.a)) := fun pos => by rw [J.ea]; exact Ev.name Fy.toRd 6 (nm hn rfl) rfl
  have rv : ∀ b, b ∈ framesOf (env :: outer) -> b = env.locals \/ b ∈ framesOf outer := fun b hb => by
   unfold framesOf at hb
   rw [List.filterMap_cons, hf] at hb
   exact List.mem_cons.mp hb
  refine x_ifW (wpAny_isTrue_Compare1 (call_s (X := Y) Ky Ty f_m3 f_ft.2.2.1 GBy.grd.prepare.1 (by simp) (eva _) EvL.nil fun us sb gb rb => ?_) (by rfl))
  unfold RepL at rb; subst rb
  have Fb := Fy.hk gb.hk
  have Tb := Ty.hk gb.hk
  have kb : ∀ b ∈ framesOf outer, ∀ o, s.heap.get? b = some o -> sb.heap.get? b = some o := fun b hb' o e => gb.hk b o (ky b hb' o e)
  have ffs : ∀ b ∈ framesOf outer, ∃ o, s.heap.get? b = some o := fun b hb' => F.xb b (hfX b hb')
  have GBb : GB (framesOf (env :: outer) ++ Gi.fp) sb.heap := by
   have h1 : GB (env.locals :: (framesOf outer ++ Gi.fp)) s0.heap := GB0.less fun a ha => (List.mem_cons.mp ha).elim (fun e => .inr (e ▸ F.fresh _ List.mem_cons_self)) fun z => (List.mem_append.mp z).elim .inl fun z => (sy' a z).2.2
   refine (h1.kp (Fb.keep.mono fun b hb => List.mem_cons_of_mem _ (List.mem_append_left _ hb))).less fun a ha => .inl ?_
   rcases List.mem_append.mp ha with z | z
   ·exact (rv a z).elim (fun e => e ▸ List.mem_cons_self) fun q => List.mem_cons_of_mem _ (List.mem_append_left _ q)
   ·exact List.mem_cons_of_mem _ (List.mem_append_right _ z)
  have ffb : FF sb.heap (env :: outer) := by
   obtain ⟨mm, o, es, ep, ho, hdt, _⟩ := Fb.ns
   refine ⟨by rw [Fb.kind]; decide, ⟨env.locals, o, hf, rfl, ho, fun vs z => by rw [hdt] at z; cases z⟩, ?_⟩
   exact FF.turn (fun b hb' o e => ⟨o.slots, kb b hb' o (k0 b hb' o e)⟩) FF0
  have hfpb : ∀ b ∈ Gi.fp, b ∉ framesOf (env :: outer) := fun b hb' z => (rv b z).elim (fun e => (sy' b hb').2.1 (e ▸ List.mem_cons_self)) (J.fi b hb')
  have hord : ∀ k, k ∈ Gi.order ↔ k < deeds.length := fun k => ⟨J.mi k, mj k⟩
  have hrk' : ∀ k < deeds.length, ∀ p ∈ need k, rk p < rk k := fun k hk p hp => by rw [hneed'] at hp; exact hrk k hk p hp
  refine w_prepare2 (outer := env :: outer) (rk := rk) Tb GBb (by lia) hh J.er hfr ffb hfpb (ranked_of hord hrk') fun sc Gc mc slc Tc erd ea2 eo hsub2 hnew => ?_
  have frY : ∀ b ∈ framesOf (env :: outer), b ∈ Y := fun b hb' => (rv b hb').elim (fun e => e ▸ Fb.ox _ List.mem_cons_self) fun z => xy b (hfX b z)
  have inY : ∀ b, b ∈ framesOf (env :: outer) ++ Gi.fp -> b ∈ Y := fun b hb' => (List.mem_append.mp hb').elim (frY b) fun z => (sy' b z).1
  have Fc : Fm env (Gc.fp ++ Y) (framesOf outer) s0.heap sc.heap (vR (some (.list (deeds.map pvD))) sd bg sg pk (some (.list ((deeds.map (needOf deeds side)).map pvN))) (some (.obj (.ref G.a))) none none none none none none none) := by
   refine Fb.growT (fun b o hb' _ e => mc.kp b o (fun z => hb' (inY b z)) e) (fun b hb' o e => ?_) (fun b o hb' e => ?_) (fun b hb' => ?_) Tc.ex (fun b hb' => (hnew b hb').imp (fun z => (sy' b z).1) id)
   ·by_cases z : b ∈ framesOf (env :: outer)
    ·exact slc b z o e
    ·exact ⟨o.slots, mc.kp b o (fun q => (List.mem_append.mp q).elim z fun q => (sy' b q).2.1 hb') e⟩
   ·refine mc.kp b o (fun q => ?_) (Fb.keep b o hb' e)
    rcases List.mem_append.mp q with z | z
    ·rcases rv b z with z | z
     ·rw [z, F.fresh _ List.mem_cons_self] at e; cases e
     ·exact hb' z
    ·rcases (sy' b z).2.2 with q | q
     ·exact hb' q
     ·rw [q] at e; cases e
   ·obtain ⟨o, e⟩ := Fb.xb b hb'
    by_cases z : b ∈ framesOf (env :: outer)
    ·obtain ⟨sl, e'⟩ := slc b z o e; exact ⟨_, e'⟩
    ·by_cases q : b ∈ Gi.fp
     ·exact Tc.ex b (hsub2 b q)
     ·exact ⟨o, mc.kp b o (fun p => (List.mem_append.mp p).elim z q) e⟩
  refine (Ev.cnone (X := Y)) sc _ _ (HK.refl _) fun u sd' gd rd' => ?_
  unfold Rep at rd'; subst rd'
  refine isnot_none_gen (wpAny_truthy_bool ?_)
  rw [if_neg (by decide)]
  refine x_nil ?_
  have subc : ∀ b ∈ Gc.fp, b ∈ Gc.fp ++ Y /\ b ∉ own env /\ (b ∈ framesOf outer \/ s0.heap.get? b = none) := fun b hb' => by
   refine ⟨List.mem_append_left _ hb', ?_⟩
   rcases hnew b hb' with z | z
   ·exact (sy' b z).2
   ·refine ⟨fun q => (by obtain ⟨o, e⟩ := Fb.xb b (Fb.ox b q); rw [z] at e; cases e), ?_⟩
    by_cases q : b ∈ framesOf outer
    ·exact .inl q
    ·right
     cases e : s0.heap.get? b with
     | none => rfl
     | some o => rw [Fb.keep b o q e] at z; cases z
  refine next sd' Gc (Gc.fp ++ Y) (ex_tr J.exi (ex_tr m.ex (ex_tr gb.ex (ex_tr mc.ex gd.ex)))) (by rw [ea2, J.ea]; exact Fc.hk gd.hk) (fun b hb' => List.mem_append_right _ (xy b hb')) ?_ erd (fun k => by rw [eo]; exact hord k) subc (fun b hb' z => ?_) (fun b hb' o e => ?_)
  ·rw [eo]; exact Tc.hk gd.hk
  ·rcases hnew b hb' with q | q
   ·exact J.fi b q z
   ·obtain ⟨o, e⟩ := Fb.xb b (xy b (hfX b z)); rw [q] at e; cases e
  ·obtain ⟨sl, e'⟩ := slc b (by unfold framesOf; rw [List.filterMap_cons, hf]; exact List.mem_cons_of_mem _ hb') o (kb b hb' o e)
   exact ⟨sl, gd.hk _ _ e'⟩
end
end
theorem before_idx : ∀ {xs : List Nat} {k m : Nat}, m < xs.idxOf k -> xs.getD m 0 ≠ k
 | [], _, _, h => by simp at h
 | x :: xs, k, m, h => by
  rw [List.idxOf_cons] at h
  cases hx : (x == k) with
  | true => rw [hx] at h; simp at h
  | false =>
   rw [hx] at h
   simp only [cond_false] at h
   cases m with
   | zero => intro e; rw [show x = k from e] at hx; simp at hx
   | succ m => exact before_idx (xs := xs) (k := k) (m := m) (by lia)
theorem ints_erase : ∀ {xs : List Nat} {l : List Value}, IntsAre l (zs xs) -> ∀ i, IntsAre (l.eraseIdx i) (zs (xs.eraseIdx i))
 | [], _, h, i => by cases h; exact .nil
 | x :: xs, _, h, i => by
  cases h with
  | cons _ t h =>
   cases i with
   | zero => exact h
   | succ i => exact .cons _ t (ints_erase (xs := xs) h i)
section
variable {prog : Program} {w : World} {A : Around} {E : Value -> Shared -> Prop} {s : Shared} {X : List Addr} {env : Env} {h : Heap}
theorem iterL_il {a : Addr} {xs : List Nat} {e : Expr} (il : IL h a xs) (x : Ev prog w A env X h e (.obj (.ref a))) : IterL prog w A env X h e (xs.map fun (n : Nat) => PV.int n) := by
 intro s Q E k hq
 refine x s _ _ k fun v s₁ g r => ?_
 obtain rfl : v = .ref a := r
 refine hq _ _ g fun Q' E' hI => ?_
 obtain ⟨vs, n, ho0, hi⟩ := il
 have ho := g.hk _ _ (k _ _ ho0)
 have hl : s₁.heap.IsList a vs := ⟨_, ho, rfl, n, rfl⟩
 have hne : a ≠ s₁.heap.objs.size := Nat.ne_of_lt (Heap.lt_size ho)
 have hsz : vs.size = xs.length := by have := hi.length; simpa using this
 refine wpAny_pyIter_list hl (hI _ [s₁.heap.objs.size, a] vs.size _ _ _ (Gw.push s₁ _) (by rw [hsz, List.length_map]) (fun A' hA => Walks.list hA s₁.heap.objs.size a hne vs) ⟨⟨_, Heap.get?_push_size _ rfl, rfl, rfl⟩, hl.push _⟩ ⟨_, Heap.get?_push_size _ rfl⟩ ?_ (fresh_size _) ?_ ?_)
 ·intro i u hlt hu
  have h1 : i < xs.length := by lia
  have hx : xs[i]? = some xs[i] := List.getElem?_eq_getElem h1
  obtain ⟨t, e⟩ := ints_get hi hx
  have hu' : vs.toList[i]? = some u := by simpa using hu
  rw [e] at hu'
  refine ⟨.int (xs[i] : Nat), by rw [List.getElem?_map, hx]; rfl, t, (Option.some.inj hu').symm⟩
 ·intro b hb
  simp at hb
  show b < (s₁.heap.push _).objs.size
  rw [Heap.size_push]
  rcases hb with rfl | rfl
  ·exact Nat.lt_succ_self _
  ·exact Nat.lt_succ_of_lt (Heap.lt_size ho)
 ·rintro i h ⟨⟨o, e, _⟩, _⟩; exact ⟨o, e⟩
theorem Tst.neIL {l r : Expr} {pos : Pos} {a : Addr} {xs b : List Nat} (hu : A.units + 64 < cLine) (il : IL h a xs) (x : Ev prog w A env X h l (.obj (.ref a))) (y : Ev prog w A env X h r (pvN b)) (hm : behindInMarks .NotEq r = false := by rfl) :
  Tst prog w A env h (.Compare l [.NotEq] [r] pos) (!decide (xs = b)) :=
 Tst.cmp x y (fun s Q E u v k ra rb hq => by
  obtain rfl : u = .ref a := ra
  obtain ⟨v1, n1, o1, i1⟩ := il
  obtain ⟨a2, n2, v2, rfl, _, _, i2, l2⟩ := rep_zs rb
  refine PySem.W.ne_intsK (vs := v1.toList) ⟨_, k _ _ o1, rfl, n1, by simp⟩ i1 l2 i2 hu ?_
  have e : decide (zs xs = zs b) = decide (xs = b) := by
   by_cases h : xs = b
   ·subst h; simp
   ·rw [decide_eq_false h, decide_eq_false]
    intro z; apply h
    exact zs_inj z
  rw [e]; exact hq s (Gw.refl s)) hm
theorem w_sorted {a : Addr} {xs : List Nat} {z : List Nat} {Q : Value -> Shared -> Prop} (il : IL s.heap a xs) (h64 : xs.length < 64) (hz : ∀ ns' : List Int, ns'.Perm (zs xs) -> ns'.Pairwise (· <= ·) -> ns' = zs z)
  (hq : ∀ b s', Gw s s' -> s.heap.get? b = none -> IL s'.heap b z -> Q (.ref b) s') : wpAny (model prog w) A (PySem.call (.builtin "sorted") [.ref a] []) Q E s := by
 obtain ⟨vs, n, ho, hi⟩ := il
 have hl : s.heap.IsList a vs.toList.toArray := by rw [arr_list]; exact ⟨_, ho, rfl, n, rfl⟩
 refine sorted_ints hl hi (by rw [hi.length, List.length_map]; exact h64) fun out ns' a1 a2 a3 => ?_
 obtain ⟨e, he⟩ := sortedAll_at s.heap vs.toList out
 have hk : HK s.heap (sortedAll s.heap vs.toList out) := fun _ _ => sortedAll_old
 refine hq _ _ (Gw.heap' hk) ?_ ⟨_, _, he, by rw [<- hz ns' a2 a3]; exact a1⟩
 cases q : s.heap.get? (s.heap.objs.size + 1) with
 | none => rfl
 | some o => exact absurd (Heap.lt_size q) (Nat.not_lt.mpr (Nat.le_succ _))
theorem w_popat {a : Addr} {xs : List Nat} {i : Nat} {k : Nat} {e : Expr} {Q : Value -> Shared -> Prop} {pos : Pos} (il : IL s.heap a xs) (hl : xs.length <= 1000) (hi : xs[i]? = some k) (x : Ev prog w A env X s.heap e (.int i))
  (hq : ∀ t s', Mv [a] s s' -> IL s'.heap a (xs.eraseIdx i) -> Q (.int k t) s') : wpAny (model prog w) A (callWith pos (.builtin "list.pop") [.ref a] [(false, eval e env)] []) Q E s := by
 refine PySem.P.pop_at_list (x s _ _ (HK.refl _) fun v s₁ g r => ?_)
 obtain ⟨u, rfl⟩ := r
 obtain ⟨vs, n, ho, hv⟩ := il
 have hsz : vs.size = xs.length := by have := hv.length; simpa using this
 have hlt := (List.getElem?_eq_some_iff.mp hi).1
 obtain ⟨t, ht⟩ := ints_get hv hi
 have ho' := g.hk _ _ ho
 refine ⟨vs, n, i, u, i, .int k t, by rw [hsz]; unfold sizeLine; lia, rfl, ho', ?_, ?_, by rw [<- Array.getElem?_toList]; exact ht, ?_⟩
 ·unfold Builtin.List.listFitsIndex
  rw [Bool.and_eq_true]; exact ⟨decide_eq_true (by lia), decide_eq_true (by lia)⟩
 ·unfold seqIndex?
  have h0 : ¬ ((i : Int) < 0) := by lia
  dsimp only
  rw [if_neg h0]
  have h1 : (decide (0 <= (i : Int)) && decide ((i : Int) < (vs.size : Int))) = true := by rw [Bool.and_eq_true]; exact ⟨decide_eq_true (by lia), decide_eq_true (by lia)⟩
  rw [if_pos h1]
  rw [Int.toNat_natCast]
 ·refine hq t _ ?_ ⟨_, _, Heap.get?_update_self _ ho' rfl, ?_⟩
  ·obtain ⟨⟨h1, t1, e1⟩, k1⟩ := g
   subst e1
   exact ⟨⟨_, t1, rfl⟩, (k1.kp _).trans (Kp.of_same (Heap.SameBut.update ..))⟩
  ·have e1 : (vs.eraseIdxIfInBounds i).toList = vs.toList.eraseIdx i := by
    unfold Array.eraseIdxIfInBounds
    rw [dif_pos (by lia), Array.toList_eraseIdx]
   rw [e1]
   exact ints_erase hv i
theorem w_remove {a : Addr} {xs : List Nat} {k : Nat} {e : Expr} {Q : Value -> Shared -> Prop} {pos : Pos} (il : IL s.heap a xs) (hl : xs.length <= 1000) (hk : k ∈ xs) (x : Ev prog w A env X s.heap e (.int k))
  (hq : ∀ s', Mv [a] s s' -> IL s'.heap a (xs.erase k) -> Q .none s') : wpAny (model prog w) A (callWith pos (.builtin "list.remove") [.ref a] [(false, eval e env)] []) Q E s := by
 refine PySem.P.remove_list (x s _ _ (HK.refl _) fun v s₁ g r => ?_)
 obtain ⟨u, rfl⟩ := r
 obtain ⟨vs, n, ho, hv⟩ := il
 have hsz : vs.size = xs.length := by have := hv.length; simpa using this
 have ho' := g.hk _ _ ho
 have hj : xs.idxOf k < xs.length := List.idxOf_lt_length_iff.mpr hk
 have at_ : ∀ m, m < xs.length -> ∃ t, vs[m]? = some (.int (xs.getD m 0 : Nat) t) := fun m hm => by
  have hx : xs[m]? = some (xs.getD m 0) := by rw [List.getD_eq_getElem?_getD, List.getElem?_eq_getElem hm]; rfl
  obtain ⟨t, ht⟩ := ints_get hv hx
  exact ⟨t, by rw [<- Array.getElem?_toList]; exact ht⟩
 have get_ : ∀ m (hm : m < vs.size), ∃ t, vs[m] = .int (xs.getD m 0 : Nat) t := fun m hm => by
  obtain ⟨t, ht⟩ := at_ m (by lia)
  rw [Array.getElem?_eq_getElem hm] at ht
  exact ⟨t, Option.some.inj ht⟩
 refine ⟨vs, n, (fun y => match y with | .int i _ => i == (k : Int) | _ => false), xs.idxOf k, by rw [hsz]; exact hj, by rw [hsz]; unfold sizeLine; lia, ho', fun y hy => ?_, ?_, fun m hm hlt => ?_, ?_⟩
 ·obtain ⟨m, hm, rfl⟩ := Array.mem_iff_getElem.mp hy
  obtain ⟨t, e⟩ := get_ m hm
  rw [e]
  exact PySem.MeetsSeq.EqGives.int _ _ _ _
 ·obtain ⟨t, e⟩ := get_ _ (by rw [hsz]; exact hj)
  rw [e]
  have : xs.getD (xs.idxOf k) 0 = k := by rw [List.getD_eq_getElem?_getD, List.getElem?_eq_getElem hj]; simp
  rw [this]; simp
 ·obtain ⟨t, e⟩ := get_ m hm
  rw [e]
  have hne : xs.getD m 0 ≠ k := before_idx hlt
  exact beq_eq_false_iff_ne.mpr (by lia)
 ·refine hq _ ?_ ⟨_, _, Heap.get?_update_self _ ho' rfl, ?_⟩
  ·obtain ⟨⟨h1, t1, e1⟩, k1⟩ := g
   subst e1
   exact ⟨⟨_, t1, rfl⟩, (k1.kp _).trans (Kp.of_same (Heap.SameBut.update ..))⟩
  ·have e1 : (vs.eraseIdxIfInBounds (xs.idxOf k)).toList = vs.toList.eraseIdx (xs.idxOf k) := by
    unfold Array.eraseIdxIfInBounds
    rw [dif_pos (by lia), Array.toList_eraseIdx]
   rw [e1, List.erase_eq_eraseIdx_of_idxOf rfl]
   exact ints_erase hv _
end
section
variable {w : World} {A : Around} {E : Value -> Shared -> Prop} {s : Shared} {X M : List Addr} {env : Env} {h₀ h h' : Heap} {vals : List (Option PV)}
theorem x_newdictM (F : Fm env X M h₀ s.heap vals) (i : Nat) {x : Str} {k : NameKind} (hx : env.scope.names[i]? = some (x, k)) (hk : k = .local \/ k = .cell) {pd pos' pos : Pos} {rest : List Stmt} {Q : Flow -> Shared -> Prop} (hM : ∀ b ∈ M, b ∈ X)
  (next : ∀ a s', a = s.heap.objs.size -> a ∉ X -> s.heap.get? a = none -> h₀.get? a = none -> Mv (own env) s s' -> Fm env (a :: X) M h₀ s'.heap (vals.set i (some (.obj (.ref a)))) -> s'.heap.DictOf (intKind pw w) a [] -> wpAny (model pw w) A (execs rest env) Q E s')
  (hs : swapsWith (.Dict [] [] pd) (some (.Name x pos')) pos.line env = pure false := by rfl) :
  wpAny (model pw w) A (execs (.Assign [.Name x pos'] (.Dict [] [] pd) pos :: rest) env) Q E s := by
 have hev : wpAny (model pw w) A (eval (.Dict [] [] pd) env) (fun v s₁ => v = .ref s.heap.objs.size /\ s₁ = { s with heap := s.heap.push { cls := .type "dict", data := .dict #[] } }) E s :=
  wpAny_Dict_empty ⟨rfl, rfl⟩
 refine wpAny_execs_cons (wpAny_Assign_Name (wpAny_mono hev (fun v s₁ q => ?_) fun _ _ z => z) hs)
 obtain ⟨rfl, rfl⟩ := q
 have hfr := fresh_size s.heap
 have h0 : h₀.get? s.heap.objs.size = none := by
  cases q : h₀.get? s.heap.objs.size with
  | none => rfl
  | some o =>
   by_cases z : s.heap.objs.size ∈ M
   ·obtain ⟨o', e⟩ := F.xb _ (hM _ z); rw [hfr] at e; cases e
   ·rw [F.keep _ o z q] at hfr; cases hfr
 have F₁ := F.hold (Gw.push s { cls := .type "dict", data := .dict #[] }).hk hfr ⟨_, Heap.get?_push_size _ rfl⟩
 have hao : s.heap.objs.size ∉ own env := fun z => F.xb.fresh hfr (F.ox _ z)
 refine store F₁ i hx hk (p := .obj (.ref s.heap.objs.size)) rfl fun s' m F' => next _ s' rfl (F.xb.fresh hfr) hfr h0 (((Gw.push s _).mv _).trans m) F' ?_
 obtain ⟨o, es, ep, ho, r⟩ := Heap.DictOf.new (knd := intKind pw w) s.heap
 exact ⟨o, es, ep, m.kp _ _ hao ho, r⟩
end
section
variable {w : World} {A : Around} {s0 s : Shared} {env : Env} {X M : List Addr} {E : Value -> Shared -> Prop} {dd sd pk nd so : Option PV}
set_option maxHeartbeats 1000000 in
theorem run_have (hn : env.scope.names = (fd_run pw).scope.names) (eg : env.globals = mainGlobals) (eb : env.builtins = builtinsNs) (hh : A.handled = none) (hM : ∀ b ∈ M, b ∈ X) (GB0 : GB M s0.heap) {begun sgs : List Nat} (hl : begun.length = sgs.length) (hl10 : begun.length <= 100)
  (F : Fm env X M s0.heap s.heap (vR dd sd (some (pvN begun)) (some (.str (txt sgs))) pk nd so none none none none none none none)) {Q : Flow -> Shared -> Prop}
  (next : ∀ s' aH, Mv (own env) s s' -> s.heap.get? aH = none -> s0.heap.get? aH = none -> aH ∉ X -> Fm env (aH :: X) M s0.heap s'.heap (vR dd sd (some (pvN begun)) (some (.str (txt sgs))) pk nd so none (some (pvN begun)) (some (.obj (.ref aH))) none none none none) -> HD w s'.heap aH begun.length (updF (fun _ => none) begun sgs begun.length) -> wpAny (model pw w) A (execs (runB.drop 7) env) Q E s') :
  wpAny (model pw w) A (execs (runB.drop 4) env) Q E s := by
 refine x_assign F 8 (nm hn rfl) (.inr rfl) (p := pvN begun) (Ev.name F.toRd 2 (nm hn rfl) rfl) fun s₁ m₁ F₁ => ?_
 replace F₁ : Fm env X M s0.heap s₁.heap (vR dd sd (some (pvN begun)) (some (.str (txt sgs))) pk nd so none (some (pvN begun)) none none none none none) := F₁
 refine x_newdictM F₁ 9 (nm hn rfl) (.inr rfl) hM fun aH s₂ hae haX ha1 ha0 m₂ F₂ D₂ => ?_
 replace F₂ : Fm env (aH :: X) M s0.heap s₂.heap (vR dd sd (some (pvN begun)) (some (.str (txt sgs))) pk nd so none (some (pvN begun)) (some (.obj (.ref aH))) none none none none) := F₂
 have hao : aH ∉ own env := fun z => haX (F.ox _ z)
 have D₂ : HD w s₂.heap aH 0 (updF (fun _ => none) begun sgs 0) := ⟨[], D₂, Nat.le_refl _, fun _ _ e => by cases e⟩
 have G₂ : Grd pw s₂.heap := (GB0.kp F₂.keep).grd
 have has : s.heap.get? aH = none := by
  cases q : s.heap.get? aH with
  | none => rfl
  | some o => rw [m₁.kp aH o hao q] at ha1; cases ha1
 refine x_forR hh F₂ 7 (nm hn rfl) (.inl rfl) [aH] (by simp) (fun b hb => F₂.xb b (List.mem_cons_of_mem _ (hM b hb))) (fun I i h => HD w h aH (0 + i) (updF (fun _ => none) begun sgs i))
  (Ev.call (Ev.glob F₂.toRd 16 (nm hn rfl) G₂.g_range eg eb) (EvL.cons (Ev.call (Ev.glob F₂.toRd 17 (nm hn rfl) G₂.g_len eg eb) (EvL.cons (Ev.name F₂.toRd 2 (nm hn rfl) rfl) EvL.nil) trivial (c_lenN (by lia))) EvL.nil) trivial (c_range1 F₂.xb)) (Items.rngN (by lia))
  (fun i => vR dd sd (some (pvN begun)) (some (.str (txt sgs))) pk nd so (if i = 0 then none else some (.int ((i - 1 : Nat) : Int))) (some (pvN begun)) (some (.obj (.ref aH))) none none none none) rfl ?_ ?_ ?_ ?_
 ·intro I h' k' hI; exact D₂.hk k'
 ·intro I i h1 h2 hI kp l
  obtain ⟨o9, ho9⟩ := D₂.ex
  exact l.kp kp (by simp; exact ⟨(fun e => by rw [e, hI] at ho9; cases ho9), hao⟩)
 ·intro I i q s10 E' hI hq' F10 D10
  rw [List.getElem?_map] at hq'
  have hi : i < begun.length := by
   cases hr : (List.range begun.length)[i]? with
   | none => rw [hr] at hq'; cases hq'
   | some j => have := List.getElem?_eq_some_iff.mp hr; simpa using this.1
  obtain rfl : PV.int i = q := by rw [List.getElem?_range hi] at hq'; simpa using hq'
  replace F10 : Fm env (I :: aH :: X) M s0.heap s10.heap (vR dd sd (some (pvN begun)) (some (.str (txt sgs))) pk nd so (some (.int i)) (some (pvN begun)) (some (.obj (.ref aH))) none none none none) := F10
  have hm : begun[i]? = some (begun.getD i 0) := by rw [List.getD_eq_getElem?_getD, List.getElem?_eq_getElem hi]; rfl
  have hw' : sgs[i]? = some (sgs.getD i 0) := by rw [List.getD_eq_getElem?_getD, List.getElem?_eq_getElem (by lia)]; rfl
  refine x_setD F10 D10 (by simp) hao (.inr ha0) (by lia) (c := begun.getD i 0) (sg := sgs.getD i 0) (Ev.name F10.toRd 9 (nm hn rfl) rfl) (Ev.item (Ev.name F10.toRd 2 (nm hn rfl) rfl) (Ev.name F10.toRd 7 (nm hn rfl) rfl) (by lia) (by lia) (by rw [Int.toNat_natCast]; exact pvN_get hm)) (Ev.sign (Ev.name F10.toRd 3 (nm hn rfl) rfl) (Ev.name F10.toRd 7 (nm hn rfl) rfl) (by lia) (by lia) (by rw [Int.toNat_natCast]; simpa using hw')) fun s11 m11 F11 D11 => x_nil ⟨m11.mono (by simp), F11, D11⟩
 ·intro I s10 hI m10 F10 D10
  rw [List.length_map, List.length_range] at F10 D10
  refine next s10 aH ⟨ex_tr m₁.ex (ex_tr m₂.ex m10.ex), fun b o hb e => ?_⟩ has ha0 haX (F10.forget 7) (by rw [Nat.zero_add] at D10; exact D10)
  have hba : b ≠ aH := fun z => by rw [z, has] at e; cases e
  exact m10.kp b o (by simp; exact ⟨hb, hba⟩) (m₂.kp b o hb (m₁.kp b o hb e))
end
theorem ints_of_get : ∀ {xs : List Nat} {l : List Value}, l.length = xs.length -> (∀ (j : Nat) (v : Value), l[j]? = some v -> ∃ t, v = .int (xs.getD j 0 : Nat) t) -> IntsAre l (zs xs)
 | [], [], _, _ => .nil
 | x :: xs, v :: l, h, k => by
  obtain ⟨t, rfl⟩ := k 0 v rfl
  exact .cons _ t (ints_of_get (xs := xs) (by simpa using h) fun j u e => k (j + 1) u (by simpa using e))
 | [], _ :: _, h, _ => by simp at h
 | _ :: _, [], h, _ => by simp at h
section
variable {prog : Program} {w : World} {A : Around} {E : Value -> Shared -> Prop} {s : Shared} {X : List Addr}
theorem w_listrng (hh : A.handled = none) {n : Nat} (hn : n <= 2 ^ 24) {v : Value} (r : Rep X s.heap (.rng 0 n) v) {Q : Value -> Shared -> Prop}
  (hq : ∀ b s', Gw s s' -> s.heap.get? b = none -> IL s'.heap b (List.range n) -> Q (.ref b) s') : wpAny (model prog w) A (PySem.call (.type "list") [v] []) Q E s := by
 unfold Rep at r
 obtain ⟨r, t, u, z, rfl, hr, hR⟩ := r
 refine call_list_range (n := n) hh hR ?_ ?_ hn fun h' tk acc' c' hk he hi => ?_
 ·exact rng_small (by lia) (by lia) (by lia) (by lia)
 ·unfold Builtin.Range.rangeSize
  rw [if_pos (by decide)]
  by_cases c : (0 : Int) < n
  ·rw [if_pos c, Int.ediv_one]; lia
  ·rw [if_neg c]; lia
 ·refine hq _ _ (Gw.heap hk tk) (fresh_size _) ⟨_, _, he, ?_⟩
  have hl : acc'.toList.length = n := by simpa using hi.1
  refine ints_of_get (by rw [hl, List.length_range]) fun j u hj => ?_
  have hjn : j < n := by have := (List.getElem?_eq_some_iff.mp hj).1; lia
  obtain ⟨t', e⟩ := hi.2 j u (by simpa using hj)
  refine ⟨t', ?_⟩
  rw [e, List.getD_eq_getElem?_getD, List.getElem?_range hjn]
  simp
end
noncomputable def runW : Stmt := nth runB 9
noncomputable def turnB : List Stmt := whileBody runW
structure RL (w : World) (s0 : Shared) (env : Env) (fs Y : List Addr) (G : SG) (V : SV) (aH aL : Addr) (N : Nat) (f : Nat -> Option Nat) (left : List Nat) (vals : List (Option PV)) (s : Shared) : Prop where
 ex : ∃ h' tk, s = { s0 with heap := h', toks := tk }
 F : Fm env Y fs s0.heap s.heap vals
 ts : TS w s.heap G V
 rdy : G.rdy = true
 sub : ∀ b ∈ G.fp, b ∈ Y /\ b ∉ own env /\ (b ∈ fs \/ s0.heap.get? b = none)
 nfs : ∀ b ∈ G.fp, b ∉ fs
 hd : HD w s.heap aH N f
 il : IL s.heap aL left
 hH : aH ∈ Y /\ aH ∉ own env /\ s0.heap.get? aH = none /\ aH ∉ G.fp
 hL : aL ∈ Y /\ aL ∉ own env /\ s0.heap.get? aL = none /\ aL ∉ G.fp
 ne : aH ≠ aL
 sl : ∀ b ∈ fs, ∀ o, s0.heap.get? b = some o -> ∃ sl, s.heap.get? b = some { o with slots := sl }
section
variable {w : World} {A : Around} {s0 s s' : Shared} {env : Env} {fs Y : List Addr} {G : SG} {V : SV} {aH aL : Addr} {N : Nat} {f : Nat -> Option Nat} {left : List Nat} {vals : List (Option PV)} {E : Value -> Shared -> Prop}
theorem RL.gw (x : RL w s0 env fs Y G V aH aL N f left vals s) (g : Gw s s') : RL w s0 env fs Y G V aH aL N f left vals s' :=
 {x with
  ex := ex_tr x.ex g.ex
  F := x.F.hk g.hk
  ts := x.ts.hk g.hk
  hd := x.hd.hk g.hk
  il := x.il.at_ fun o => g.hk _ o
  sl := fun b hb o e => let ⟨sl, e'⟩ := x.sl b hb o e; ⟨sl, g.hk _ _ e'⟩ }
theorem RL.own_ (x : RL w s0 env fs Y G V aH aL N f left vals s) {vals' : List (Option PV)} (hex : ∀ b ∈ fs, ∃ o, s0.heap.get? b = some o) (m : Mv (own env) s s') (F' : Fm env Y fs s0.heap s'.heap vals') : RL w s0 env fs Y G V aH aL N f left vals' s' :=
 {x with
  ex := ex_tr x.ex m.ex
  F := F'
  ts := x.ts.kp m.kp fun b hb => (x.sub b hb).2.1
  hd := x.hd.kp m.kp x.hH.2.1
  il := x.il.at_ fun o => m.kp _ o x.hL.2.1
  sl := fun b hb o e => let ⟨sl, e'⟩ := x.sl b hb o e; ⟨sl, m.kp _ _ (fun z => by obtain ⟨o', e0⟩ := hex b hb; rw [x.F.fresh b z] at e0; cases e0) e'⟩ }
theorem RL.sorter (x : RL w s0 env fs Y G V aH aL N f left vals s) {V' : SV} (m : Mv G.fp s s') (T' : TS w s'.heap G V') : RL w s0 env fs Y G V' aH aL N f left vals s' :=
 {x with
  ex := ex_tr x.ex m.ex
  F := x.F.other m.kp (fun a ha => (x.sub a ha).2.1) (fun a ha => (x.sub a ha).1) (fun a ha => (x.sub a ha).2.2) fun b hb => by
   by_cases hf : b ∈ G.fp
   ·exact T'.ex b hf
   ·obtain ⟨o, ho⟩ := x.F.xb b hb; exact ⟨o, m.kp b o hf ho⟩
  ts := T'
  hd := x.hd.kp m.kp x.hH.2.2.2
  il := x.il.at_ fun o => m.kp _ o x.hL.2.2.2
  sl := fun b hb o e => let ⟨sl, e'⟩ := x.sl b hb o e; ⟨sl, m.kp _ _ (fun z => x.nfs b z hb) e'⟩ }
theorem RL.gb (x : RL w s0 env fs Y G V aH aL N f left vals s) (GB0 : GB fs s0.heap) : GB (fs ++ G.fp) s.heap := GB0.of x.F.keep fun b hb => (x.sub b hb).2.2
theorem Tst.isNotB {h : Heap} {X : List Addr} {l r : Expr} {pos : Pos} {a b : Bool} (x : Ev pw w A env X h l (.bool a)) (y : Ev pw w A env X h r (.bool b)) (hm : behindInMarks .IsNot r = false := by rfl) : Tst pw w A env h (.Compare l [.IsNot] [r] pos) (!(a == b)) :=
 Tst.cmp x y (fun s Q E u v _ ra rb hq => by
  unfold Rep at ra rb; subst ra rb
  refine wpAny_isNot_plain (by cases a <;> cases b <;> rfl) ?_
  have e : (Value.bool a == Value.bool b) = (a == b) := by cases a <;> cases b <;> rfl
  rw [e]; exact hq s (Gw.refl s)) hm
theorem Ev.active {h : Heap} {X : List Addr} {value : Expr} {apos pos : Pos} {pl : Sem Bool} (T : TS w h G V) (Gr : Grd pw h) (hd : A.depth + 20 < recursionLimit) (hr : G.rdy = true) (hl : V.ready.length <= 1000) (e : Ev pw w A env X h value (.obj (.ref G.a)))
  (he : eval (.Call (.Attribute value "is_active" apos) [] [] pos) env = (do
   let ov <- eval value env
   standAt apos.atName
   let (f, first) <- holding [ov] (getMethod ov "is_active" pl)
   callWith pos f first (backTo pos (starEach [] env)) []) := by rfl) : Ev pw w A env X h (.Call (.Attribute value "is_active" apos) [] [] pos) (.bool (decide (V.fin < V.pas) || !V.ready.isEmpty)) := by
 intro s Q E k hq
 obtain ⟨P, K⟩ := Gr.frag
 refine call_s (X := X) (K.keeps k) (T.hk k) f_m5 f_ft.2.2.2.2.1 (Gr.hk k).is_active.1 (by simp) (fun s Q E k' hq' => e s Q E (k.trans k') hq') EvL.nil (fun us s₁ g₁ r₁ => ?_) (by rfl) he
 unfold RepL at r₁; subst r₁
 exact w_active ((T.hk k).hk g₁.hk) ((Gr.hk k).hk g₁.hk) hd hr hl fun s' g' => hq _ s' (g₁.trans g') (by unfold Rep; rfl)
set_option maxHeartbeats 1000000 in
theorem turn_group (hn : env.scope.names = (fd_run pw).scope.names) (eg : env.globals = mainGlobals) (eb : env.builtins = builtinsNs) (hh : A.handled = none) (hd : A.depth + 100 < recursionLimit) (GB0 : GB fs s0.heap) (hex : ∀ b ∈ fs, ∃ o, s0.heap.get? b = some o) {dd sd bg sg pk nd k tx wt gp de : Option PV}
  (x : RL w s0 env fs Y G V aH aL N f left (vR dd sd bg sg pk nd (some (.obj (.ref G.a))) k tx (some (.obj (.ref aH))) wt (some (.obj (.ref aL))) gp de) s) (hl : V.ready.length <= 200) (hord : ∀ j ∈ V.ready, j ∈ G.order) (hact : V.fin < V.pas + V.ready.length) {Q : Flow -> Shared -> Prop}
  (next : ∀ s', RL w s0 env fs Y G { V with np := outV V.np V.ready, ready := [], pas := V.pas + V.ready.length } aH aL N f left (vR dd sd bg sg pk nd (some (.obj (.ref G.a))) k tx (some (.obj (.ref aH))) wt (some (.obj (.ref aL))) (some (.tuple (V.ready.map fun (n : Nat) => PV.int n))) de) s' -> wpAny (model pw w) A (execs (turnB.drop 2) env) Q E s') :
  wpAny (model pw w) A (execs turnB env) Q E s := by
 have GBs := x.gb GB0
 obtain ⟨P, K⟩ := GBs.grd.frag
 refine wpAny_execs_cons (wpAny_Assign_Name (call_s (X := Y) K x.ts f_m4 f_ft.2.2.2.1 GBs.grd.get_ready.1 (by simp) (Ev.name x.F.toRd 6 (nm hn rfl) rfl) EvL.nil fun us s₁ g₁ r₁ => ?_) (by rfl))
 unfold RepL at r₁; subst r₁
 have x₁ := x.gw g₁
 refine w_get_ready (X := Y) x₁.ts ((x₁.gb GB0).less fun a ha => .inl (List.mem_append_right _ ha)) (by lia) hh x.rdy hl hord x₁.F.xb (fun b hb => (x₁.sub b hb).1) fun v s₂ m₂ T₂ r₂ => ?_
 have x₂ := x₁.sorter m₂ T₂
 refine store x₂.F 12 (nm hn rfl) (.inl rfl) r₂ fun s₃ m₃ F₃ => ?_
 have x₃ := x₂.own_ hex m₃ F₃
 replace x₃ : RL w s0 env fs Y G { V with np := outV V.np V.ready, ready := [], pas := V.pas + V.ready.length } aH aL N f left (vR dd sd bg sg pk nd (some (.obj (.ref G.a))) k tx (some (.obj (.ref aH))) wt (some (.obj (.ref aL))) (some (.tuple (V.ready.map fun (n : Nat) => PV.int n))) de) s₃ := x₃
 have GB₃ := x₃.gb GB0
 have Gr₃ := GB₃.grd
 have hact' : (decide (V.fin < V.pas + (V.ready.length : Int)) || !([] : List Nat).isEmpty) = true := by rw [decide_eq_true hact]; rfl
 refine x_if (b := false) (Tst.or_false (Tst.hcast (Tst.not (Tst.vbool (X := Y) (Ev.call (Ev.glob x₃.F.toRd 19 (nm hn rfl) Gr₃.g_isinstance eg eb) (EvL.cons (Ev.name x₃.F.toRd 12 (nm hn rfl) rfl) (EvL.cons (Ev.glob x₃.F.toRd 20 (nm hn rfl) Gr₃.g_tuple eg eb) EvL.nil)) trivial c_isi_tuple))) rfl) (Tst.or_false (Tst.hcast (Tst.isNotB (X := Y) (Ev.active x₃.ts Gr₃ (by lia) x₃.rdy (Nat.zero_le _) (Ev.name x₃.F.toRd 6 (nm hn rfl) rfl)) Ev.cbool) (by rw [hact']; rfl)) Tst.or_nil)) fun s₄ g₄ => ?_
 rw [if_neg (by decide)]
 exact x_nil (next s₄ (x₃.gw g₄))
end
section
variable {w : World} {A : Around} {s0 s s' : Shared} {env : Env} {fs Y : List Addr} {G : SG} {V : SV} {aH aL : Addr} {N : Nat} {f : Nat -> Option Nat} {left : List Nat} {vals : List (Option PV)} {E : Value -> Shared -> Prop}
theorem RL.hold (x : RL w s0 env fs Y G V aH aL N f left vals s) (g : Gw s s') {b : Addr} (hb : s.heap.get? b = none) (hex : ∃ o, s'.heap.get? b = some o) : RL w s0 env fs (b :: Y) G V aH aL N f left vals s' :=
 {x.gw g with
  F := x.F.hold g.hk hb hex
  sub := fun c hc => ⟨List.mem_cons_of_mem _ (x.sub c hc).1, (x.sub c hc).2⟩
  hH := ⟨List.mem_cons_of_mem _ x.hH.1, x.hH.2⟩
  hL := ⟨List.mem_cons_of_mem _ x.hL.1, x.hL.2⟩ }
set_option maxHeartbeats 1000000 in
theorem turn_wait (hn : env.scope.names = (fd_run pw).scope.names) (eg : env.globals = mainGlobals) (eb : env.builtins = builtinsNs) (hh : A.handled = none) (GB0 : GB fs s0.heap) (hex : ∀ b ∈ fs, ∃ o, s0.heap.get? b = some o) {dd sd bg sg pk nd so k tx de : Option PV} {ws rs z : List Nat} (hl : ws.length + rs.length < 64) (hz : ∀ ns' : List Int, ns'.Perm (zs (ws ++ rs)) -> ns'.Pairwise (· <= ·) -> ns' = zs z)
  (x : RL w s0 env fs Y G V aH aL N f left (vR dd sd bg sg pk nd so k tx (some (.obj (.ref aH))) (some (pvN ws)) (some (.obj (.ref aL))) (some (.tuple (rs.map fun (n : Nat) => PV.int n))) de) s) {Q : Flow -> Shared -> Prop}
  (next : ∀ s' aW, s.heap.get? aW = none -> s0.heap.get? aW = none -> aW ∉ Y -> RL w s0 env fs (aW :: Y) G V aH aL N f left (vR dd sd bg sg pk nd so k tx (some (.obj (.ref aH))) (some (.obj (.ref aW))) (some (.obj (.ref aL))) (some (.tuple (rs.map fun (n : Nat) => PV.int n))) de) s' -> IL s'.heap aW z -> wpAny (model pw w) A (execs (turnB.drop 3) env) Q E s') :
  wpAny (model pw w) A (execs (turnB.drop 2) env) Q E s := by
 have Gr := (x.gb GB0).grd
 refine wpAny_execs_cons (wpAny_Assign_Name (Q := _) ?_ (by rfl))
 show wpAny _ _ (eval (.Name _ _) env >>= fun f => callWith _ f [] (backTo _ (starEach _ env)) []) _ _ _
 refine wpAny_bind ((Ev.glob x.F.toRd 21 (nm hn rfl) Gr.g_sorted eg eb) s _ _ (HK.refl _) fun fv s₁ g₁ r₁ => ?_)
 obtain rfl : fv = .builtin "sorted" := r₁
 have x₁ := x.gw g₁
 have Gr₁ := Gr.hk g₁.hk
 refine callWith_plain (by rfl) trivial (evalArgs_L (X := Y) (EvL.cons (p := pvN (ws ++ rs)) (Ev.cast (Ev.catL x₁.F.xb (Ev.name x₁.F.toRd 10 (nm hn rfl) rfl) (Ev.call (Ev.glob x₁.F.toRd 18 (nm hn rfl) Gr₁.g_list eg eb) (EvL.cons (Ev.name x₁.F.toRd 12 (nm hn rfl) rfl) EvL.nil) trivial (c_list_seq x₁.F.xb (.inr rfl) (by rw [List.length_map]; unfold sizeLine; lia))) (by rw [List.length_map, List.length_map]; unfold sizeLine; lia)) (by show PV.list _ = PV.list _; rw [<- List.map_append])) EvL.nil) (by rfl) (HK.refl _) fun us s₂ g₂ r₂ => ⟨g₂.hk, ?_⟩)
 obtain ⟨u, rfl, r⟩ := r₂.one
 obtain ⟨a, n, vs, rfl, ha, ho, hi, _⟩ := rep_zs r
 refine w_sorted ⟨vs, n, ho, hi⟩ (by rw [List.length_append]; exact hl) hz fun b s₃ g₃ hb il => ?_
 have x₂ := x₁.gw g₂
 have x₃ := x₂.hold g₃ hb (let ⟨_, _, e, _⟩ := il; ⟨_, e⟩)
 have hbY : b ∉ Y := fun z => by obtain ⟨o, e⟩ := x₂.F.xb b z; rw [hb] at e; cases e
 have hbs : s.heap.get? b = none := by
  cases q : s.heap.get? b with
  | none => rfl
  | some o => rw [(g₁.hk.trans g₂.hk) b o q] at hb; cases hb
 have hb0 : s0.heap.get? b = none := by
  cases q : s0.heap.get? b with
  | none => rfl
  | some o =>
   by_cases z : b ∈ fs
   ·obtain ⟨sl, e⟩ := x.sl b z o q; rw [hbs] at e; cases e
   ·rw [x.F.keep b o z q] at hbs; cases hbs
 refine store x₃.F 10 (nm hn rfl) (.inl rfl) (p := .obj (.ref b)) (by unfold Rep; rfl) fun s₄ m₄ F₄ => ?_
 have hbo : b ∉ own env := fun z => hbY (x.F.ox b z)
 exact next s₄ b hbs hb0 hbY (x₃.own_ hex m₄ F₄) (il.at_ fun o => m₄.kp _ o hbo)
end
section
variable {prog : Program} {w : World} {A : Around} {E : Value -> Shared -> Prop} {X : List Addr} {env : Env} {h : Heap}
theorem Ev.compL {vals : List (Option PV)} (r : Rd env X h vals) (hh : A.handled = none) {elt iter : Expr} {x : Str} {px pos : Pos} {ifs : List Expr} {scope : Scope} {its : List PV} (li : Nat) (jm : List (Nat × Nat)) (f : PV -> PV) (pr : PV -> Bool)
  (ok : CompOk scope.names env.scope.names vals li x jm) (hkind : scope.kind = .function)
  (ev : IterL prog w A env X h iter its) (hfl : ∀ q ∈ its, Flat q) (hn : its.length <= sizeLine) (hff : ∀ q ∈ its, pr q = true -> Flat (f q))
  (tests : ∀ q ∈ its, ∀ (en : Env) (h' : Heap), en.scope.names = relN scope.names -> en.globals = env.globals -> en.builtins = env.builtins -> HK h h' -> Rd en X h' (cvals scope.names.length li jm vals q) -> TstAll prog w A en h' ifs (pr q))
  (elts : ∀ q ∈ its, pr q = true -> ∀ (en : Env) (h' : Heap), en.scope.names = relN scope.names -> en.globals = env.globals -> en.builtins = env.builtins -> HK h h' -> Rd en X h' (cvals scope.names.length li jm vals q) -> Ev prog w A en X h' elt (f q))
  (hs : ∀ x, foldedSetIterable iter env x = pure x := by intro _; rfl) : Ev prog w A env X h (.ListComp elt [⟨.Name x px, iter, ifs, 0⟩] scope pos) (.list ((its.filter pr).map f)) := by
 intro s Q E k hq
 refine evL_comp r hh li jm f pr ok hkind ev hfl hn hff tests elts k (fun D s' g hD rep => ?_) hs
 refine hq _ _ g (rep X fun z => ?_)
 obtain ⟨o, e⟩ := r.xb D z
 rw [k D o e] at hD; cases hD
end
section
variable {w : World} {A : Around} {s0 s s' : Shared} {env : Env} {fs Y : List Addr} {G : SG} {V : SV} {aH aL : Addr} {N : Nat} {f : Nat -> Option Nat} {left : List Nat} {vals : List (Option PV)} {E : Value -> Shared -> Prop}
noncomputable def av (deeds : List (List Nat × List Nat)) (side : Nat) (text : List Nat) (k : Nat) : Bool := ((sd side (deeds.getD k ([], []))).filter fun c => !decide (c ∈ text)).isEmpty
set_option maxHeartbeats 1000000 in
theorem turn_check (hn : env.scope.names = (fd_run pw).scope.names) (hh : A.handled = none) (hu : A.units + 64 < cLine) (GB0 : GB fs s0.heap) {deeds : List (List Nat × List Nat)} {side : Nat} {text z : List Nat} {bg sg pk nd so k de gp : Option PV} {aW : Addr} (hside : side = 0 \/ side = 1) (hn5 : deeds.length <= 100) (hll : left.length <= 100) (hlt : ∀ j ∈ left, j < deeds.length) (hlen : ∀ d ∈ deeds, (sd side d).length <= 50) (htext : ∀ c ∈ text, c < 2 ^ 20) (hav : left.filter (av deeds side text) = z)
  (x : RL w s0 env fs Y G V aH aL N f left (vR (some (.list (deeds.map pvD))) (some (.int side)) bg sg pk nd so k (some (pvN text)) (some (.obj (.ref aH))) (some (.obj (.ref aW))) (some (.obj (.ref aL))) gp de) s) (il : IL s.heap aW z) {Q : Flow -> Shared -> Prop}
  (next : ∀ s', Gw s s' -> wpAny (model pw w) A (execs (turnB.drop 4) env) Q E s') :
  wpAny (model pw w) A (execs (turnB.drop 3) env) Q E s := by
 refine x_if (b := false) (Tst.hcast (Tst.neIL (X := Y) hu il (Ev.name x.F.toRd 10 (nm hn rfl) rfl) (b := z) (Ev.cast (Ev.compL x.F.toRd hh 1 [(2, 0), (3, 1), (4, 8)] (fun q => q) (fun q => match q with | .int j => av deeds side text j.toNat | _ => false) (CompOk.of (has := [true, true, bg.isSome, sg.isSome, pk.isSome, nd.isSome, so.isSome, k.isSome, true, true, true, true, gp.isSome, de.isSome, false, false, false, false, false, false, false, false, false]) ?_ rfl) rfl (iterL_il x.il (Ev.name x.F.toRd 11 (nm hn rfl) rfl)) ?_ ?_ ?_ ?_ ?_) ?_)) ?_) fun s' g => ?_
 ·rw [hn]
  generalize bg.isSome = b1
  generalize sg.isSome = b2
  generalize pk.isSome = b3
  generalize nd.isSome = b4
  generalize so.isSome = b5
  generalize k.isSome = b6
  generalize gp.isSome = b7
  generalize de.isSome = b8
  revert b1 b2 b3 b4 b5 b6 b7 b8
  decide +kernel
 ·intro q hq; obtain ⟨i, _, rfl⟩ := List.mem_map.mp hq; exact trivial
 ·rw [List.length_map]; unfold sizeLine; lia
 ·intro q hq _; obtain ⟨i, _, rfl⟩ := List.mem_map.mp hq; exact trivial
 ·intro q hq en h' hcn eg' eb' kk rd
  obtain ⟨j, hj, rfl⟩ := List.mem_map.mp hq
  replace rd : Rd en Y h' [none, some (.int j), some (.list (deeds.map pvD)), some (.int side), some (pvN text)] := rd
  have hjl := hlt j hj
  have hgj : deeds[j]? = some (deeds.getD j ([], [])) := by rw [List.getD_eq_getElem?_getD, List.getElem?_eq_getElem hjl]; rfl
  have hdl := hlen _ (List.mem_of_getElem? hgj)
  refine TstAll.one (Tst.hcast (Tst.not (Tst.vlist (X := Y) (Ev.comp rd hh (its := (sd side (deeds.getD j ([], []))).map fun (n : Nat) => PV.int n) 1 [(2, 4)] (fun q => q) (fun q => match q with | .int c => !decide (c.toNat ∈ text) | _ => false) (CompOk.of (has := [false, true, true, true, true]) (by rw [hcn]; decide +kernel) rfl) rfl (Ev.itemT (Ev.item (z := pvD (deeds.getD j ([], []))) (Ev.name rd 2 (nm hcn rfl) rfl) (Ev.name rd 1 (nm hcn rfl) rfl) (by lia) (by lia) (by rw [List.getElem?_map, Int.toNat_natCast, hgj]; rfl)) (Ev.name rd 3 (nm hcn rfl) rfl) (by lia) (by lia) (pvD_get hside _)) (Items.list _) ?_ ?_ ?_ ?_ ?_) ?_)) ?_)
  ·intro q hq; obtain ⟨i, _, rfl⟩ := List.mem_map.mp hq; exact trivial
  ·rw [List.length_map]; unfold sizeLine; lia
  ·intro q hq _; obtain ⟨i, _, rfl⟩ := List.mem_map.mp hq; exact trivial
  ·intro q hq en2 h2 hcn2 eg2 eb2 kk2 rd2
   obtain ⟨c, hc, rfl⟩ := List.mem_map.mp hq
   replace rd2 : Rd en2 Y h2 [none, some (.int c), some (pvN text)] := rd2
   exact TstAll.one (Tst.hcast (Tst.notInN (xs := text) (c := c) (Ev.name rd2 1 (nm hcn2 rfl) rfl) (Ev.name rd2 2 (nm hcn2 rfl) rfl)) rfl)
  ·intro q hq _ en2 h2 hcn2 eg2 eb2 kk2 rd2
   exact Ev.name rd2 1 (nm hcn2 rfl) (by obtain ⟨c, _, rfl⟩ := List.mem_map.mp hq; rfl)
  ·rw [List.length_map]; exact Nat.le_trans (List.length_filter_le _ _) (by rw [List.length_map]; lia)
  ·rw [List.map_id', List.filter_map, Bool.not_not]
   unfold av
   show List.isEmpty (List.map _ _) = _
   rw [List.isEmpty_map]; rfl
 ·intro q hq _ en h' hcn eg' eb' kk rd
  exact Ev.name rd 1 (nm hcn rfl) (by obtain ⟨c, _, rfl⟩ := List.mem_map.mp hq; rfl)
 ·rw [List.map_id', List.filter_map]
  show PV.list _ = PV.list _
  rw [<- hav]; rfl
 ·rw [decide_eq_true rfl]; rfl
 ·rw [if_neg (by decide)]
  exact x_nil (next s' g)
end
section
variable {w : World} {A : Around} {s0 s s' : Shared} {env : Env} {fs Y : List Addr} {G : SG} {V : SV} {aH aL : Addr} {N : Nat} {f : Nat -> Option Nat} {left : List Nat} {vals : List (Option PV)} {E : Value -> Shared -> Prop}
set_option maxHeartbeats 1000000 in
theorem turn_pick (hn : env.scope.names = (fd_run pw).scope.names) (eg : env.globals = mainGlobals) (eb : env.builtins = builtinsNs) (GB0 : GB fs s0.heap) (hex : ∀ b ∈ fs, ∃ o, s0.heap.get? b = some o) {nD : Nat} {deedsP : List PV} {P : Int} {z : List Nat} {sd bg sg nd so k tx de gp : Option PV} {aW : Addr} (hD : deedsP.length = nD) (hn5 : nD <= 50) (hll : left.length <= nD) (hz : 0 < z.length) (hzl : z.length <= 100) (hW : aW ∈ Y /\ aW ∉ own env /\ s0.heap.get? aW = none /\ aW ∉ G.fp /\ aW ≠ aH /\ aW ≠ aL)
  (x : RL w s0 env fs Y G V aH aL N f left (vR (some (.list deedsP)) sd bg sg (some (.int P)) nd so k tx (some (.obj (.ref aH))) (some (.obj (.ref aW))) (some (.obj (.ref aL))) gp de) s) (il : IL s.heap aW z) {Q : Flow -> Shared -> Prop}
  (next : ∀ s' i d, z[i]? = some d -> RL w s0 env fs Y G V aH aL N f left (vR (some (.list deedsP)) sd bg sg (some (.int P)) nd so k tx (some (.obj (.ref aH))) (some (.obj (.ref aW))) (some (.obj (.ref aL))) gp (some (.int (d : Nat)))) s' -> IL s'.heap aW (z.eraseIdx i) -> wpAny (model pw w) A (execs (turnB.drop 5) env) Q E s') :
  wpAny (model pw w) A (execs (turnB.drop 4) env) Q E s := by
 have Gr := (x.gb GB0).grd
 refine wpAny_execs_cons (wpAny_Assign_Name (MethodCall_ ((Ev.name x.F.toRd 10 (nm hn rfl) rfl) s _ _ (HK.refl _) fun v s₁ g₁ r₁ => ?_) (by rfl)) (by rfl))
 obtain rfl : v = .ref aW := r₁
 have x₁ := x.gw g₁
 have Gr₁ := Gr.hk g₁.hk
 have il₁ := il.at_ fun o => g₁.hk _ o
 obtain ⟨vs, n, ho, hv⟩ := id il₁
 refine (GM.list ho PySem.F.slot_list_pop PySem.F.type_list_pop).out _ _ ?_
 have hpow : (0 : Int) < 2 ^ ((nD : Int) - (left.length : Int)).toNat := Int.pow_pos (by decide)
 have hzp : (0 : Int) < (z.length : Int) := by lia
 have m0 := Int.fmod_nonneg_of_pos (P.fdiv (2 ^ ((nD : Int) - (left.length : Int)).toNat)) hzp
 have m1 := Int.fmod_lt_of_pos (P.fdiv (2 ^ ((nD : Int) - (left.length : Int)).toNat)) hzp
 have hcast : ((P.fdiv (2 ^ ((nD : Int) - (left.length : Int)).toNat)).fmod (z.length : Int)) = (((P.fdiv (2 ^ ((nD : Int) - (left.length : Int)).toNat)).fmod (z.length : Int)).toNat : Int) := by lia
 have hi : ((P.fdiv (2 ^ ((nD : Int) - (left.length : Int)).toNat)).fmod (z.length : Int)).toNat < z.length := by lia
 have hp2 : (2 : Int) ^ ((nD : Int) - (left.length : Int)).toNat <= 2 ^ 50 := by
  have h1 : ((nD : Int) - (left.length : Int)).toNat <= 50 := by lia
  exact_mod_cast Nat.pow_le_pow_right (by decide) h1
 generalize hix : ((P.fdiv (2 ^ ((nD : Int) - (left.length : Int)).toNat)).fmod (z.length : Int)).toNat = i at hi hcast
 have hzi : z[i]? = some z[i] := List.getElem?_eq_getElem hi
 refine w_popat (X := Y) il₁ (by lia) hzi (Ev.cast (Ev.mod (Ev.fdiv (Ev.name x₁.F.toRd 4 (nm hn rfl) rfl) (Ev.pow Ev.int (Ev.sub (Ev.call (Ev.glob x₁.F.toRd 17 (nm hn rfl) Gr₁.g_len eg eb) (EvL.cons (Ev.name x₁.F.toRd 0 (nm hn rfl) rfl) EvL.nil) trivial ((c_len (by lia)).cast rfl (by rw [hD]))) (Ev.call (Ev.glob x₁.F.toRd 17 (nm hn rfl) Gr₁.g_len eg eb) (EvL.cons (Ev.name x₁.F.toRd 11 (nm hn rfl) rfl) EvL.nil) trivial (c_len_il x₁.il (by lia)))) (by lia) (by lia) (by decide)) (by lia) ?_) (Ev.call (Ev.glob x₁.F.toRd 17 (nm hn rfl) Gr₁.g_len eg eb) (EvL.cons (Ev.name x₁.F.toRd 10 (nm hn rfl) rfl) EvL.nil) trivial (c_len_il il₁ (by lia))) (by lia)) (by rw [hcast])) fun t s₂ m₂ il₂ => ?_
 ·exact pylong60 (by lia)
 ·have x₂ : RL w s0 env fs Y G V aH aL N f left (vR (some (.list deedsP)) sd bg sg (some (.int P)) nd so k tx (some (.obj (.ref aH))) (some (.obj (.ref aW))) (some (.obj (.ref aL))) gp de) s₂ :=
   {x₁ with
    ex := ex_tr x₁.ex m₂.ex
    F := x₁.F.other m₂.kp (fun a ha => by rw [List.mem_singleton.mp ha]; exact hW.2.1) (fun a ha => by rw [List.mem_singleton.mp ha]; exact hW.1) (fun a ha => by rw [List.mem_singleton.mp ha]; exact .inr hW.2.2.1) fun b hb => by
     by_cases e : b = aW
     ·rw [e]; obtain ⟨_, _, e', _⟩ := il₂; exact ⟨_, e'⟩
     ·obtain ⟨o, ho⟩ := x₁.F.xb b hb; exact ⟨o, m₂.kp b o (by simpa using e) ho⟩
    ts := x₁.ts.kp m₂.kp fun b hb e => hW.2.2.2.1 (List.mem_singleton.mp e ▸ hb)
    hd := x₁.hd.kp m₂.kp (by simpa using fun e => hW.2.2.2.2.1 e.symm)
    il := x₁.il.at_ fun o => m₂.kp _ o (by simpa using fun e => hW.2.2.2.2.2 e.symm)
    sl := fun b hb o e => let ⟨sl, e'⟩ := x₁.sl b hb o e; ⟨sl, m₂.kp _ _ (fun q => by obtain ⟨o', e0⟩ := hex b hb; rw [List.mem_singleton.mp q, hW.2.2.1] at e0; cases e0) e'⟩ }
  refine store x₂.F 13 (nm hn rfl) (.inl rfl) (p := .int (z[i] : Nat)) ⟨t, rfl⟩ fun s₃ m₃ F₃ => ?_
  exact next s₃ i _ hzi (x₂.own_ hex m₃ F₃) (il₂.at_ fun o => m₃.kp _ o hW.2.1)
end
section
variable {w : World} {A : Around} {s0 s s' : Shared} {env : Env} {fs Y : List Addr} {G : SG} {V : SV} {aH aL : Addr} {N : Nat} {f : Nat -> Option Nat} {left : List Nat} {vals : List (Option PV)} {E : Value -> Shared -> Prop}
theorem turn_remove (hn : env.scope.names = (fd_run pw).scope.names) (hint : interactive env = false) (hex : ∀ b ∈ fs, ∃ o, s0.heap.get? b = some o) {dd sd bg sg pk nd so k tx gp : Option PV} {aW : Addr} {z : List Nat} {d : Nat} (hll : left.length <= 100) (hd : d ∈ left) (hWL : aW ≠ aL)
  (x : RL w s0 env fs Y G V aH aL N f left (vR dd sd bg sg pk nd so k tx (some (.obj (.ref aH))) (some (.obj (.ref aW))) (some (.obj (.ref aL))) gp (some (.int (d : Nat)))) s) (il : IL s.heap aW z) {Q : Flow -> Shared -> Prop}
  (next : ∀ s', RL w s0 env fs Y G V aH aL N f (left.erase d) (vR dd sd bg sg pk nd so k tx (some (.obj (.ref aH))) (some (.obj (.ref aW))) (some (.obj (.ref aL))) gp (some (.int (d : Nat)))) s' -> IL s'.heap aW z -> wpAny (model pw w) A (execs (turnB.drop 6) env) Q E s') :
  wpAny (model pw w) A (execs (turnB.drop 5) env) Q E s := by
 refine wpAny_execs_cons (wpAny_Expr_any (MethodCall_ ((Ev.name x.F.toRd 11 (nm hn rfl) rfl) s _ _ (HK.refl _) fun v s₁ g₁ r₁ => ?_) (by rfl)) hint (by rfl))
 obtain rfl : v = .ref aL := r₁
 have x₁ := x.gw g₁
 obtain ⟨vs, n, ho, hv⟩ := id x₁.il
 refine (GM.list ho PySem.F.slot_list_remove PySem.F.type_list_remove).out _ _ ?_
 refine w_remove (X := Y) x₁.il (by lia) hd (Ev.name x₁.F.toRd 13 (nm hn rfl) rfl) fun s₂ m₂ il₂ => ?_
 have hL := x.hL
 refine next s₂ { x₁ with
  ex := ex_tr x₁.ex m₂.ex
  F := x₁.F.other m₂.kp (fun a ha => by rw [List.mem_singleton.mp ha]; exact hL.2.1) (fun a ha => by rw [List.mem_singleton.mp ha]; exact hL.1) (fun a ha => by rw [List.mem_singleton.mp ha]; exact .inr hL.2.2.1) fun b hb => by
   by_cases e : b = aL
   ·rw [e]; obtain ⟨_, _, e', _⟩ := il₂; exact ⟨_, e'⟩
   ·obtain ⟨o, ho⟩ := x₁.F.xb b hb; exact ⟨o, m₂.kp b o (by simpa using e) ho⟩
  ts := x₁.ts.kp m₂.kp fun b hb e => hL.2.2.2 (List.mem_singleton.mp e ▸ hb)
  hd := x₁.hd.kp m₂.kp (by simpa using x.ne)
  il := il₂
  sl := fun b hb o e => let ⟨sl, e'⟩ := x₁.sl b hb o e; ⟨sl, m₂.kp _ _ (fun q => by obtain ⟨o', e0⟩ := hex b hb; rw [List.mem_singleton.mp q, hL.2.2.1] at e0; cases e0) e'⟩ } ((il.at_ fun o => g₁.hk _ o).at_ fun o => m₂.kp _ o (by simpa using hWL))
end
section
variable {w : World} {A : Around} {s0 s s' : Shared} {env : Env} {fs Y : List Addr} {G : SG} {V : SV} {aH aL : Addr} {N : Nat} {f : Nat -> Option Nat} {left : List Nat} {vals : List (Option PV)} {E : Value -> Shared -> Prop}
theorem call_nm {X : List Addr} {x : Str} {px pos : Pos} {es : List Expr} {ps : List PV} {f : Value} {s : Shared} {E : Value -> Shared -> Prop} (hf : Ev pw w A env X s.heap (.Name x px) (.obj f)) (ha : EvL pw w A env X s.heap es ps) (hpl : Plainly s.heap f) {Q : Value -> Shared -> Prop}
  (hc : ∀ vs s₂, Gw s s₂ -> RepL X s₂.heap ps vs -> wpAny (model pw w) A (PySem.call f vs []) Q E s₂) (hp : ∀ pos, (backTo pos (starEach es env)).any (·.1) = false := by intro _; rfl) : wpAny (model pw w) A (eval (.Call (.Name x px) es [] pos) env) Q E s := by
 show wpAny _ _ (eval (.Name x px) env >>= fun f => callWith pos f [] (backTo pos (starEach es env)) []) _ _ _
 refine wpAny_bind (hf s _ _ (HK.refl _) fun v s₁ g r => ?_)
 obtain rfl : v = f := r
 refine callWith_plain (hp pos) ?_ (evalArgs_L ha (hp pos) g.hk fun vs s₂ g₂ r₂ => ⟨g₂.hk, ?_⟩)
 ·cases v with
  | ref a => obtain ⟨o, fd, ho, hd⟩ := hpl; exact ⟨o, fd, g.hk _ _ ho, hd⟩
  | _ => trivial
 ·exact hc vs s₂ (g.trans g₂) r₂
set_option maxHeartbeats 1000000 in
theorem turn_put (hn : env.scope.names = (fd_run pw).scope.names) (eg : env.globals = mainGlobals) (eb : env.builtins = builtinsNs) (hh : A.handled = none) (hd : A.depth + 170 < recursionLimit) (hu : A.units + 520 < cLine) (GB0 : GB fs s0.heap) (hex : ∀ b ∈ fs, ∃ o, s0.heap.get? b = some o) {deeds : List (List Nat × List Nat)} {side : Nat} {T md pre post sg W : List Nat} {bg sgs pk nd so k gp : Option PV} {aW : Addr} {z : List Nat} {d : Nat}
  (hd5 : d < deeds.length) (hn5 : deeds.length <= 100) (hs5 : (side = 0 /\ deeds.getD d ([], []) = (T, md)) \/ (side = 1 /\ deeds.getD d ([], []) = (md, T))) (hc : WCase side sg W) (hTs : T.map f = sg.map some) (hmd : md.length = W.length) (hN : N + 10 <= 1000) (hlt : ∀ x ∈ pre ++ T ++ post, x < 2 ^ 20) (hlen : (pre ++ T ++ post).length <= 100) (hmlt : ∀ x ∈ md, x < 2 ^ 20) (hpre : ∀ t ∈ T, t ∉ pre) (hWH : aW ≠ aH)
  (x : RL w s0 env fs Y G V aH aL N f left (vR (some (.list (deeds.map pvD))) (some (.int side)) bg sgs pk nd so k (some (pvN (pre ++ T ++ post))) (some (.obj (.ref aH))) (some (.obj (.ref aW))) (some (.obj (.ref aL))) gp (some (.int (d : Nat)))) s) (il : IL s.heap aW z) (hWo : aW ∉ own env) {Q : Flow -> Shared -> Prop}
  (next : ∀ s', RL w s0 env fs Y G V aH aL (N + md.length) (updF f md W md.length) left (vR (some (.list (deeds.map pvD))) (some (.int side)) bg sgs pk nd so k (some (pvN (pre ++ md ++ post))) (some (.obj (.ref aH))) (some (.obj (.ref aW))) (some (.obj (.ref aL))) gp (some (.int (d : Nat)))) s' -> IL s'.heap aW z -> wpAny (model pw w) A (execs (turnB.drop 7) env) Q E s') :
  wpAny (model pw w) A (execs (turnB.drop 6) env) Q E s := by
 have GBs := x.gb GB0
 have hH := x.hH
 have hput := GBs.grd.put
 refine wpAny_execs_cons (wpAny_Assign_Name (call_nm (Ev.glob x.F.toRd 22 (nm hn rfl) GBs.grd.g_law_put eg eb) (EvL.cons (Ev.item (z := pvD (deeds.getD d ([], []))) (Ev.name x.F.toRd 0 (nm hn rfl) rfl) (Ev.name x.F.toRd 13 (nm hn rfl) rfl) (by lia) (by lia) (by rw [List.getElem?_map, Int.toNat_natCast, List.getElem?_eq_getElem hd5, List.getD_eq_getElem?_getD, List.getElem?_eq_getElem hd5]; rfl)) (EvL.cons (Ev.name x.F.toRd 1 (nm hn rfl) rfl) (EvL.cons (Ev.name x.F.toRd 8 (nm hn rfl) rfl) (EvL.cons (Ev.name x.F.toRd 9 (nm hn rfl) rfl) EvL.nil)))) ⟨_, _, hput.1, rfl⟩ fun vs s₁ g₁ r₁ => ?_) (by rfl))
 have x₁ := x.gw g₁
 have GB₁ : GB [aH] s₁.heap := (GB.of (fp := [aH]) GB0 x₁.F.keep fun b hb => by rw [List.mem_singleton.mp hb]; exact .inr hH.2.2.1).less fun a ha => .inl (List.mem_append_right _ ha)
 refine w_put GB₁ (by lia) (by lia) hh x₁.F.xb hH.1 hs5 hc hTs hmd hN hlt hlen hmlt hpre x₁.hd r₁ fun v s₂ m₂ r₂ D₂ => ?_
 have il₂ : IL s₂.heap aW z := (il.at_ fun o => g₁.hk _ o).at_ fun o => m₂.kp _ o (by simpa using hWH)
 have x₂ : RL w s0 env fs Y G V aH aL (N + md.length) (updF f md W md.length) left _ s₂ := { x₁ with
  ex := ex_tr x₁.ex m₂.ex
  F := x₁.F.other m₂.kp (fun a ha => by rw [List.mem_singleton.mp ha]; exact hH.2.1) (fun a ha => by rw [List.mem_singleton.mp ha]; exact hH.1) (fun a ha => by rw [List.mem_singleton.mp ha]; exact .inr hH.2.2.1) fun b hb => by
   by_cases e : b = aH
   ·rw [e]; exact D₂.ex
   ·obtain ⟨o, ho⟩ := x₁.F.xb b hb; exact ⟨o, m₂.kp b o (by simpa using e) ho⟩
  ts := x₁.ts.kp m₂.kp fun b hb e => hH.2.2.2 (List.mem_singleton.mp e ▸ hb)
  hd := D₂
  il := x₁.il.at_ fun o => m₂.kp _ o (by simpa using x.ne.symm)
  sl := fun b hb o e => let ⟨sl, e'⟩ := x₁.sl b hb o e; ⟨sl, m₂.kp _ _ (fun q => by obtain ⟨o', e0⟩ := hex b hb; rw [List.mem_singleton.mp q, hH.2.2.1] at e0; cases e0) e'⟩ }
 refine store x₂.F 8 (nm hn rfl) (.inr rfl) r₂ fun s₃ m₃ F₃ => ?_
 exact next s₃ (x₂.own_ hex m₃ F₃) (il₂.at_ fun o => m₃.kp _ o hWo)
end
section
variable {w : World} {A : Around} {s0 s s' : Shared} {env : Env} {fs Y : List Addr} {G : SG} {V : SV} {aH aL : Addr} {N : Nat} {f : Nat -> Option Nat} {left : List Nat} {vals : List (Option PV)} {E : Value -> Shared -> Prop}
set_option maxHeartbeats 1000000 in
theorem turn_done (hn : env.scope.names = (fd_run pw).scope.names) (hh : A.handled = none) (hd : A.depth + 100 < recursionLimit) (GB0 : GB fs s0.heap) {dd sd bg sg pk nd k gp : Option PV} {text z : List Nat} {aW : Addr} {d : Nat}
  (htl : text.length <= 1000) (hte : text ≠ []) (hk : d ∈ G.order) (hkn : V.np d = -1) (hsu : ∀ j ∈ V.succ d, j ∈ G.order) (hl : V.ready.length + (V.succ d).length <= 1000)
  (x : RL w s0 env fs Y G V aH aL N f left (vR dd sd bg sg pk nd (some (.obj (.ref G.a))) k (some (pvN text)) (some (.obj (.ref aH))) (some (.obj (.ref aW))) (some (.obj (.ref aL))) gp (some (.int (d : Nat)))) s) (il : IL s.heap aW z) (hWG : aW ∉ G.fp) {Q : Flow -> Shared -> Prop}
  (next : ∀ s', RL w s0 env fs Y G (doneV V d) aH aL N f left (vR dd sd bg sg pk nd (some (.obj (.ref G.a))) k (some (pvN text)) (some (.obj (.ref aH))) (some (.obj (.ref aW))) (some (.obj (.ref aL))) gp (some (.int (d : Nat)))) s' -> IL s'.heap aW z -> Q .next s') :
  wpAny (model pw w) A (execs (turnB.drop 7) env) Q E s := by
 have GBs := x.gb GB0
 obtain ⟨P, K⟩ := GBs.grd.frag
 refine x_cons (wpAny_If (isTrue_or (Tst.not (Tst.vlist (xs := text.map fun (n : Nat) => PV.int n) (Ev.name x.F.toRd 8 (nm hn rfl) rfl) (by rw [List.length_map]; lia)) s _ _ (HK.refl _) fun s₁ g₁ => ?_)))
 rw [if_neg (by cases text with | nil => exact absurd rfl hte | cons a b => simp)]
 have x₁ := x.gw g₁
 have Gr₁ := (x₁.gb GB0).grd
 refine isTrue_or (wpAny_isTrue_Compare1 (call_s (X := Y) (K.keeps g₁.hk) x₁.ts f_m6 f_ft.2.2.2.2.2.1 Gr₁.done.1 (by simp) (Ev.name x₁.F.toRd 6 (nm hn rfl) rfl) (EvL.cons (Ev.name x₁.F.toRd 13 (nm hn rfl) rfl) EvL.nil) fun us s₂ g₂ r₂ => ?_) (by rfl))
 unfold RepL at r₂
 obtain ⟨u, r₃, rfl, p, r₂⟩ := r₂
 obtain rfl : r₃ = [] := r₂
 have x₂ := x₁.gw g₂
 unfold Rep at p
 obtain ⟨t, rfl⟩ := p
 refine w_done x₂.ts ((x₂.gb GB0).less fun a ha => .inl (List.mem_append_right _ ha)) (by lia) hh x.rdy hk hkn hsu hl fun s₃ m₃ T₃ => ?_
 have x₃ := x₂.sorter m₃ T₃
 refine (Ev.cnone (X := Y)) s₃ _ _ (HK.refl _) fun u s₄ g₄ r₄ => ?_
 unfold Rep at r₄; subst r₄
 refine isnot_none_gen (wpAny_truthy_bool ?_)
 rw [if_neg (by decide)]
 refine isTrue_or_nil ?_
 rw [if_neg (by decide)]
 refine x_nil (show wpAny (model pw w) A (execs [] env) Q E s₄ from x_nil (next s₄ (x₃.gw g₄) (((((il.at_ fun o => g₁.hk _ o).at_ fun o => g₂.hk _ o).at_ fun o => m₃.kp _ o hWG)).at_ fun o => g₄.hk _ o)))
end
section
variable {w : World} {A : Around} {s0 s s' : Shared} {env : Env} {fs Y : List Addr} {G : SG} {V : SV} {aH aL : Addr} {N : Nat} {f : Nat -> Option Nat} {left : List Nat} {vals : List (Option PV)} {E : Value -> Shared -> Prop}
theorem Fm.letgo {X M : List Addr} {h₀ h : Heap} {aW : Addr} {z : List Nat} {i : Nat} (F : Fm env (aW :: X) M h₀ h vals) (hi : vals[i]? = some (some (.obj (.ref aW)))) (hI : aW ∉ X) (hox : ∀ a ∈ own env, a ∈ X) (hM : h₀.get? aW = none) (il : IL h aW z) : Fm env X M h₀ h (vals.set i (some (pvN z))) :=
 have F' := F.drop (Kp.refl _ _) hI hox hM
 {F' with
  rd := fun j x k pv e1 e2 => by
   rw [List.getElem?_set] at e2
   split at e2
   ·rename_i q
    subst q
    rw [if_pos (by exact (List.getElem?_eq_some_iff.mp hi).1)] at e2
    obtain rfl : pvN z = pv := by simpa using e2
    obtain ⟨v, a, b⟩ := F'.rd i x k _ e1 hi
    obtain rfl : v = .ref aW := by unfold Rep at b; exact b
    exact ⟨_, a, il.rep hI⟩
   ·exact F'.rd j x k pv e1 e2 }
theorem RL.letgo {aW : Addr} {z : List Nat} {i : Nat} (x : RL w s0 env fs (aW :: Y) G V aH aL N f left vals s) (hi : vals[i]? = some (some (.obj (.ref aW)))) (hI : aW ∉ Y) (hox : ∀ a ∈ own env, a ∈ Y) (hM : s0.heap.get? aW = none) (il : IL s.heap aW z) (hH : aH ∈ Y) (hL : aL ∈ Y) (hG : ∀ b ∈ G.fp, b ∈ Y) : RL w s0 env fs Y G V aH aL N f left (vals.set i (some (pvN z))) s :=
 {x with
  F := x.F.letgo hi hI hox hM il
  sub := fun b hb => ⟨hG b hb, (x.sub b hb).2⟩
  hH := ⟨hH, x.hH.2⟩
  hL := ⟨hL, x.hL.2⟩ }
end
noncomputable def needN (deeds : List (List Nat × List Nat)) (side k : Nat) : List Nat := needOf deeds side (deeds.getD k ([], []))
structure RunOK (deeds : List (List Nat × List Nat)) (side : Nat) (PI : List Nat -> List Nat -> (Nat -> Option Nat) -> Prop) : Prop where
 bnd : ∀ ds text f, PI ds text f -> text ≠ [] /\ text.length <= 100 /\ ∀ c ∈ text, c < 2 ^ 20
 av : ∀ ds text f, PI ds text f -> ∀ k < deeds.length, k ∉ ds -> (av deeds side text k = true ↔ ∀ p ∈ needN deeds side k, p ∈ ds)
 step : ∀ ds text f, PI ds text f -> ∀ d < deeds.length, d ∉ ds -> (∀ p ∈ needN deeds side d, p ∈ ds) -> ∃ T md pre post sg W, text = pre ++ T ++ post /\ ((side = 0 /\ deeds.getD d ([], []) = (T, md)) \/ (side = 1 /\ deeds.getD d ([], []) = (md, T))) /\ WCase side sg W /\ T.map f = sg.map some /\ md.length = W.length /\ (∀ t ∈ T, t ∉ pre) /\ PI (ds ++ [d]) (pre ++ md ++ post) (updF f md W md.length)
structure LOK (n : Nat) (ds left : List Nat) : Prop where
 s : left.Pairwise (· < ·)
 m : ∀ k, k ∈ left ↔ k < n /\ k ∉ ds
theorem LOK.nodup {n : Nat} {ds left : List Nat} (x : LOK n ds left) : left.Nodup := x.s.imp fun h => Nat.ne_of_lt h
theorem LOK.erase {n : Nat} {ds left : List Nat} (x : LOK n ds left) (d : Nat) : LOK n (ds ++ [d]) (left.erase d) where
 s := x.s.sublist List.erase_sublist
 m := fun k => by
  rw [x.nodup.mem_erase_iff, x.m]
  simp only [List.mem_append, List.mem_singleton, not_or]
  constructor
  ·rintro ⟨a, b, c⟩; exact ⟨b, c, a⟩
  ·rintro ⟨b, c, a⟩; exact ⟨a, b, c⟩
theorem LOK.start (n : Nat) : LOK n [] (List.range n) where
 s := List.pairwise_lt_range
 m := fun k => by simp
theorem sorted_one {z l : List Nat} (hz : z.Pairwise (· < ·)) (hl : l.Nodup) (hm : ∀ k, k ∈ z ↔ k ∈ l) : ∀ ns' : List Int, ns'.Perm (zs l) -> ns'.Pairwise (· <= ·) -> ns' = zs z := fun ns' p s => by
 have q : z.Perm l := (List.perm_ext_iff_of_nodup (hz.imp fun h => Nat.ne_of_lt h) hl).mpr hm
 have p' : ns'.Perm (zs z) := p.trans (q.map _).symm
 refine p'.eq_of_pairwise (le := (· <= ·)) (fun a b _ _ h1 h2 => Int.le_antisymm h1 h2) s ?_
 unfold zs
 rw [List.pairwise_map]
 exact hz.imp fun h => by lia
theorem SI.turn {deeds : List (List Nat × List Nat)} {side : Nat} {PI : List Nat -> List Nat -> (Nat -> Option Nat) -> Prop} (R : RunOK deeds side PI) {ds ws left text : List Nat} {f : Nat -> Option Nat} {V : SV} (x : SI deeds.length (needN deeds side) ds ws V) (L : LOK deeds.length ds left) (p : PI ds text f) :
  (∀ k, k ∈ left.filter (av deeds side text) ↔ k ∈ ws ++ V.ready) /\ (ws ++ V.ready).Nodup /\ (left.filter (av deeds side text)).length = ws.length + V.ready.length := by
 have hav := R.av ds text f p
 have hm : ∀ k, k ∈ left.filter (av deeds side text) ↔ k ∈ ws ++ V.ready := fun k => by
  rw [List.mem_filter, L.m, List.mem_append, x.rd]
  constructor
  ·rintro ⟨⟨a, b⟩, c⟩
   by_cases hw : k ∈ ws
   ·exact .inl hw
   ·exact .inr ⟨a, b, hw, (hav k a b).mp c⟩
  ·rintro (h | ⟨a, b, _, c⟩)
   ·obtain ⟨a, b, c⟩ := x.wok k h
    exact ⟨⟨a, b⟩, (hav k a b).mpr c⟩
   ·exact ⟨⟨a, b⟩, (hav k a b).mpr c⟩
 have hnd : (ws ++ V.ready).Nodup := List.nodup_append.mpr ⟨x.wn, x.rn, fun a ha b hb e => ((x.rd b).mp hb).2.2.1 (e ▸ ha)⟩
 refine ⟨hm, hnd, ?_⟩
 have := ((List.perm_ext_iff_of_nodup (L.nodup.filter _) hnd).mpr hm).length_eq
 rw [this, List.length_append]
theorem LOK.some_ready {deeds : List (List Nat × List Nat)} {side : Nat} {rk : Nat -> Nat} (hrk : ∀ k < deeds.length, ∀ p ∈ needN deeds side k, p < deeds.length /\ rk p < rk k) {ds left : List Nat} (L : LOK deeds.length ds left) (hne : left ≠ []) :
  ∃ k ∈ left, ∀ p ∈ needN deeds side k, p ∈ ds := by
 suffices h : ∀ m k, rk k <= m -> k ∈ left -> ∃ k ∈ left, ∀ p ∈ needN deeds side k, p ∈ ds by
  obtain ⟨k, hk⟩ := List.exists_mem_of_ne_nil _ hne
  exact h _ k (Nat.le_refl _) hk
 intro m
 induction m with
 | zero =>
  intro k h0 hk
  refine ⟨k, hk, fun p hp => ?_⟩
  have := (hrk k ((L.m k).mp hk).1 p hp).2
  lia
 | succ m ih =>
  intro k h0 hk
  by_cases hall : ∀ p ∈ needN deeds side k, p ∈ ds
  ·exact ⟨k, hk, hall⟩
  ·simp only [Classical.not_forall] at hall
   obtain ⟨p, hp, hpd⟩ := hall
   have := hrk k ((L.m k).mp hk).1 p hp
   exact ih p (by lia) ((L.m p).mpr ⟨this.1, hpd⟩)
def RInv (w : World) (s0 : Shared) (env : Env) (fs Y : List Addr) (G : SG) (aH aL : Addr) (deeds : List (List Nat × List Nat)) (side : Nat) (PI : List Nat -> List Nat -> (Nat -> Option Nat) -> Prop) (NB : Nat) (bg sg : Option PV) (P : Int) (nd k : Option PV) (m : Nat) (s : Shared) : Prop :=
 ∃ ds ws N f left text V gp de, left.length = m /\ LOK deeds.length ds left /\ SI deeds.length (needN deeds side) ds ws V /\ PI ds text f /\ N <= NB + 4 * ds.length /\ ds.length + m = deeds.length /\
  RL w s0 env fs Y G V aH aL N f left (vR (some (.list (deeds.map pvD))) (some (.int side)) bg sg (some (.int P)) nd (some (.obj (.ref G.a))) k (some (pvN text)) (some (.obj (.ref aH))) (some (pvN ws)) (some (.obj (.ref aL))) gp de) s
theorem len_le_counts {c : Nat} : ∀ (n : Nat) (l : List Nat), (∀ k ∈ l, k < n) -> (∀ k, l.count k <= c) -> l.length <= n * c
 | 0, l, h, _ => by
  cases l with
  | nil => simp
  | cons a l => exact absurd (h a List.mem_cons_self) (by lia)
 | n + 1, l, h, hc => by
  have h1 := len_le_counts n (l.filter (· != n)) (fun k hk => by
   have := List.mem_filter.mp hk
   have a := h k this.1
   have b : k ≠ n := by simpa using this.2
   lia) (fun k => Nat.le_trans (List.filter_sublist.count_le k) (hc k))
  have h2 : l.length = (l.filter (· != n)).length + l.count n := by
   clear h hc h1
   induction l with
   | nil => rfl
   | cons a l ih =>
    rw [List.filter_cons, List.count_cons]
    by_cases e : a = n
    ·subst e; simp; lia
    ·simp [e]; lia
  have := hc n
  rw [Nat.succ_mul]; lia
theorem erase_at : ∀ (l : List Nat) (i d : Nat), l.Nodup -> l[i]? = some d -> l.eraseIdx i = l.erase d
 | [], i, d, _, h => by simp at h
 | a :: l, 0, d, _, h => by
  obtain rfl : a = d := by simpa using h
  simp
 | a :: l, i + 1, d, hn, h => by
  have hn' := List.nodup_cons.mp hn
  have h' : l[i]? = some d := by simpa using h
  have : a ≠ d := fun e => hn'.1 (e ▸ List.mem_of_getElem? h')
  rw [List.eraseIdx_cons_succ, List.erase_cons_tail (by simpa using this), erase_at l i d hn'.2 h']
section
variable {w : World} {A : Around} {s0 s s' : Shared} {env : Env} {fs Y : List Addr} {G : SG} {aH aL : Addr} {E : Value -> Shared -> Prop}
set_option maxHeartbeats 1000000 in
theorem turn_all {rk : Nat -> Nat} {deeds : List (List Nat × List Nat)} {side : Nat} {PI : List Nat -> List Nat -> (Nat -> Option Nat) -> Prop} {NB : Nat} {bg sg nd k : Option PV} {P : Int} {m : Nat} (R : RunOK deeds side PI) (hn : env.scope.names = (fd_run pw).scope.names) (eg : env.globals = mainGlobals) (eb : env.builtins = builtinsNs) (hint : interactive env = false) (hh : A.handled = none) (hd : A.depth + 200 < recursionLimit) (hu : A.units + 520 < cLine) (GB0 : GB fs s0.heap) (hex : ∀ b ∈ fs, ∃ o, s0.heap.get? b = some o)
  (hside : side = 0 \/ side = 1) (hn5 : deeds.length <= 10) (hlen : ∀ d ∈ deeds, (sd side d).length <= 50) (hnl : ∀ k, (needN deeds side k).length <= 10) (hrk : ∀ k < deeds.length, ∀ p ∈ needN deeds side k, p < deeds.length /\ rk p < rk k) (hord : ∀ k, k ∈ G.order ↔ k < deeds.length) (hNB : NB <= 100)
  (I : RInv w s0 env fs Y G aH aL deeds side PI NB bg sg P nd k m s) (hm : 0 < m) {Q : Flow -> Shared -> Prop}
  (next : ∀ s', RInv w s0 env fs Y G aH aL deeds side PI NB bg sg P nd k (m - 1) s' -> Q .next s') :
  wpAny (model pw w) A (execs turnB env) Q E s := by
 obtain ⟨ds, ws, N, f, left, text, V, gp, de, rfl, L, S, p, hN, hds, x⟩ := I
 obtain ⟨hzm, hznd, hzl⟩ := S.turn R L p
 obtain ⟨ht1, ht2, ht3⟩ := R.bnd _ _ _ p
 have hav := R.av _ _ _ p
 generalize hz : left.filter (av deeds side text) = z at *
 have hzs : z.Pairwise (· < ·) := hz ▸ L.s.filter _
 have hzn : z.Nodup := hzs.imp fun h => Nat.ne_of_lt h
 have hzle : z.length <= left.length := hz ▸ List.length_filter_le _ _
 have hz0 : 0 < z.length := by
  obtain ⟨k, hk, hkn⟩ := L.some_ready hrk (List.ne_nil_of_length_pos hm)
  have : k ∈ z := hz ▸ List.mem_filter.mpr ⟨hk, (hav k ((L.m k).mp hk).1 ((L.m k).mp hk).2).mpr hkn⟩
  exact List.length_pos_of_mem this
 have S1 := S.out (ws' := z) hzn (fun k => by rw [hzm, List.mem_append]) hzl
 refine turn_group hn eg eb hh (by lia) GB0 hex x (by lia) (fun j hj => (hord j).mpr ((S.rd j).mp hj).1) (by rw [S.fin, S.pas]; lia) fun s₁ x₁ => ?_
 refine turn_wait (z := z) hn eg eb hh GB0 hex (by lia) (sorted_one hzs hznd hzm) x₁ fun s₂ aW hWs hW0 hWY x₂ il₂ => ?_
 have hWo : aW ∉ own env := fun q => hWY (x.F.ox _ q)
 have hWG : aW ∉ G.fp := fun q => hWY (x.sub _ q).1
 have hWH : aW ≠ aH := fun q => hWY (q ▸ x.hH.1)
 have hWL : aW ≠ aL := fun q => hWY (q ▸ x.hL.1)
 refine turn_check hn hh (by lia) GB0 hside (by lia) (by lia) (fun j hj => ((L.m j).mp hj).1) hlen ht3 hz x₂ il₂ fun s₃ g₃ => ?_
 refine turn_pick (nD := deeds.length) hn eg eb GB0 hex (by rw [List.length_map]) (by lia) (by lia) hz0 (by lia) ⟨List.mem_cons_self, hWo, hW0, hWG, hWH, hWL⟩ (x₂.gw g₃) (il₂.at_ fun o => g₃.hk _ o) fun s₄ i d hid x₄ il₄ => ?_
 have hdz : d ∈ z := List.mem_of_getElem? hid
 have hdl : d ∈ left := (List.mem_filter.mp (hz ▸ hdz)).1
 have hdn := (L.m d).mp hdl
 have hdne := (S1.wok d hdz).2.2
 refine turn_remove hn hint hex (by lia) hdl hWL x₄ il₄ fun s₅ x₅ il₅ => ?_
 obtain ⟨T, md, pre, post, sgx, W, rfl, hs5, hc, hTs, hmd, hpre, p'⟩ := R.step _ _ _ p d hdn.1 hdn.2 hdne
 obtain ⟨hu1, hu2, hu3⟩ := R.bnd _ _ _ p'
 obtain ⟨hsg, hWlt, hsg4, hW4, hsg1, hW1⟩ := hc.lt
 refine turn_put hn eg eb hh (by lia) (by lia) GB0 hex hdn.1 (by lia) hs5 hc hTs hmd (by lia) ht3 ht2 (fun c hc => hu3 c (List.mem_append_left _ (List.mem_append_right _ hc))) hpre hWH x₅ il₅ hWo fun s₆ x₆ il₆ => ?_
 have hsc : ∀ j ∈ V.succ d, j < deeds.length := fun j hj => by
  have := S.suc d hdn.1 j
  by_cases q : j < deeds.length
  ·exact q
  ·rw [if_neg q] at this; exact absurd (List.count_pos_iff.mpr hj) (by lia)
 have hsl : (V.succ d).length <= deeds.length * 10 := len_le_counts _ _ hsc fun j => by
  rw [S.suc d hdn.1 j]
  split
  ·exact Nat.le_trans List.count_le_length (hnl j)
  ·lia
 refine turn_done hn hh (by lia) GB0 (by lia) hu1 ((hord d).mpr hdn.1) (S1.npw d hdz) (fun j hj => (hord j).mpr (hsc j hj)) (by show ([] : List Nat).length + (V.succ d).length <= 1000; simp; lia) x₆ il₆ hWG fun s₇ x₇ il₇ => ?_
 have x₈ := x₇.letgo (i := 10) rfl hWY x.F.ox hW0 il₇ x.hH.1 x.hL.1 fun b hb => (x.sub b hb).1
 have S2 := S1.done hdz fun k hk p hp => (hrk k hk p hp).1
 have he : z.eraseIdx i = z.erase d := erase_at z i d hzn hid
 refine next s₇ ⟨_, _, _, _, _, _, _, _, _, List.length_erase_of_mem hdl, L.erase d, S2, p', ?_, ?_, he ▸ x₈⟩
 ·rw [List.length_append, List.length_singleton]; lia
 ·rw [List.length_append, List.length_singleton]; lia
end
section
variable {prog : Program} {w : World} {A : Around} {E : Value -> Shared -> Prop} {s : Shared} {X : List Addr} {env : Env} {h : Heap}
theorem Tst.vIL {e : Expr} {a : Addr} {xs : List Nat} (il : IL h a xs) (x : Ev prog w A env X h e (.obj (.ref a))) (hf : xs.length <= 1000) (he : ∀ whole, isTrue e env whole = (do let v <- whole; standAt e.pos; holding [v] (truthy v)) := by intro _; rfl) : Tst prog w A env h e (!xs.isEmpty) :=
 Tst.val x (fun s Q E v k r hq => by
  unfold Rep at r
  subst r
  obtain ⟨vs, n, ho, hi⟩ := il
  have h1 : vs.size = xs.length := by have := hi.length; simpa using this
  refine wpAny_truthy_list (items := vs) ⟨_, k _ _ ho, rfl, n, rfl⟩ (by lia) ?_
  have e1 : (!vs.isEmpty) = !xs.isEmpty := by
   unfold Array.isEmpty
   rw [h1]; cases xs <;> rfl
  rw [e1]; exact hq _ (Gw.toks s _)) he
theorem ne_T0 (hu : A.units + 64 < cLine) {u v : Value} {Y : List Addr} {Q : Value -> Shared -> Prop} (ra : Rep X s.heap (.tuple []) u) (rb : Rep Y s.heap (.tuple []) v) (hq : Q (.bool false) s) : wpAny (model prog w) A (compareOp .NotEq u v) Q E s := by
 unfold Rep at ra rb
 obtain ⟨a1, n1, v1, rfl, _, o1, l1⟩ := ra
 obtain ⟨a2, n2, v2, rfl, _, o2, l2⟩ := rb
 unfold RepL at l1 l2
 have r1 : PySem.Reads s.heap (.ref a1) (.tuple []) [] := PySem.Reads.tuple o1 rfl rfl (by rw [l1]; exact .nil)
 have r2 : PySem.Reads s.heap (.ref a2) (.tuple []) [] := PySem.Reads.tuple o2 rfl rfl (by rw [l2]; exact .nil)
 refine ne_dataH_same r1 r2 (by decide +kernel) (by decide +kernel) hu (by decide +kernel) ?_
 rw [show (!PySem.Spec.same (.tuple []) (.tuple [])) = false by decide +kernel]
 exact hq
end
section
variable {w : World} {A : Around} {s0 s s' : Shared} {env : Env} {fs Y : List Addr} {G : SG} {V : SV} {aH : Addr} {N : Nat} {f : Nat -> Option Nat} {E : Value -> Shared -> Prop}
set_option maxHeartbeats 1000000 in
theorem run_left (hn : env.scope.names = (fd_run pw).scope.names) (eg : env.globals = mainGlobals) (eb : env.builtins = builtinsNs) (hh : A.handled = none) (GB0 : GB fs s0.heap) (hex : ∀ b ∈ fs, ∃ o, s0.heap.get? b = some o) {deedsP : List PV} {n : Nat} {sd bg sg pk nd so k tx : Option PV} (hD : deedsP.length = n) (hn5 : n <= 50)
  (ex : ∃ h' tk, s = { s0 with heap := h', toks := tk }) (F : Fm env Y fs s0.heap s.heap (vR (some (.list deedsP)) sd bg sg pk nd so k tx (some (.obj (.ref aH))) none none none none)) (T : TS w s.heap G V) (rdy : G.rdy = true) (sub : ∀ b ∈ G.fp, b ∈ Y /\ b ∉ own env /\ (b ∈ fs \/ s0.heap.get? b = none)) (nfs : ∀ b ∈ G.fp, b ∉ fs) (D : HD w s.heap aH N f) (hH : aH ∈ Y /\ aH ∉ own env /\ s0.heap.get? aH = none /\ aH ∉ G.fp)
  (hfY : ∀ b ∈ fs, b ∈ Y) (sl : ∀ b ∈ fs, ∀ o, s0.heap.get? b = some o -> ∃ sl, s.heap.get? b = some { o with slots := sl }) {Q : Flow -> Shared -> Prop}
  (next : ∀ s' aL, aL ∉ Y -> RL w s0 env fs (aL :: Y) G V aH aL N f (List.range n) (vR (some (.list deedsP)) sd bg sg pk nd so k tx (some (.obj (.ref aH))) (some (pvN [])) (some (.obj (.ref aL))) none none) s' -> wpAny (model pw w) A (execs (runB.drop 9) env) Q E s') :
  wpAny (model pw w) A (execs (runB.drop 7) env) Q E s := by
 refine x_assign F 10 (nm hn rfl) (.inl rfl) (p := pvN []) (Ev.lst F.xb EvL.nil) fun s₁ m₁ F₁ => ?_
 replace F₁ : Fm env Y fs s0.heap s₁.heap (vR (some (.list deedsP)) sd bg sg pk nd so k tx (some (.obj (.ref aH))) (some (pvN [])) none none none) := F₁
 have Gr : Grd pw s₁.heap := (GB0.kp F₁.keep).grd
 refine wpAny_execs_cons (wpAny_Assign_Name (call_nm (Ev.glob F₁.toRd 18 (nm hn rfl) Gr.g_list eg eb) (EvL.cons (Ev.call (Ev.glob F₁.toRd 16 (nm hn rfl) Gr.g_range eg eb) (EvL.cons (Ev.call (Ev.glob F₁.toRd 17 (nm hn rfl) Gr.g_len eg eb) (EvL.cons (Ev.name F₁.toRd 0 (nm hn rfl) rfl) EvL.nil) trivial (c_len (by lia))) EvL.nil) trivial ((c_range1 F₁.xb).cast (by rw [hD]) rfl)) EvL.nil) trivial fun vs s₂ g₂ r₂ => ?_) (by rfl))
 obtain ⟨u, rfl, r⟩ := r₂.one
 refine w_listrng hh (n := n) (by lia) r fun b s₃ g₃ hb il => ?_
 have F₂ := F₁.hk g₂.hk
 have hbY : b ∉ Y := fun z => by obtain ⟨o, e⟩ := F₂.xb b z; rw [hb] at e; cases e
 have F₃ := F₂.hold g₃.hk hb (let ⟨_, _, e, _⟩ := il; ⟨_, e⟩)
 have hb0 : s0.heap.get? b = none := by
  cases q : s0.heap.get? b with
  | none => rfl
  | some o =>
   by_cases z : b ∈ fs
   ·exact absurd (hfY b z) hbY
   ·rw [F₂.keep b o z q] at hb; cases hb
 have hbo : b ∉ own env := fun z => hbY (F.ox b z)
 refine store F₃ 11 (nm hn rfl) (.inl rfl) (p := .obj (.ref b)) (by unfold Rep; rfl) fun s₄ m₄ F₄ => ?_
 have k14 : Kp (own env) s.heap s₄.heap := (m₁.kp.trans ((g₂.hk.trans g₃.hk).kp _)).trans m₄.kp
 refine next s₄ b hbY {
  ex := ex_tr ex (ex_tr m₁.ex (ex_tr g₂.ex (ex_tr g₃.ex m₄.ex)))
  F := F₄
  ts := T.kp k14 fun b hb => (sub b hb).2.1
  rdy := rdy
  sub := fun c hc => ⟨List.mem_cons_of_mem _ (sub c hc).1, (sub c hc).2⟩
  nfs := nfs
  hd := D.kp k14 hH.2.1
  il := il.at_ fun o => m₄.kp _ o hbo
  hH := ⟨List.mem_cons_of_mem _ hH.1, hH.2⟩
  hL := ⟨List.mem_cons_self, hbo, hb0, fun z => hbY (sub b z).1⟩
  ne := fun e => hbY (e ▸ hH.1)
  sl := fun c hc o e => let ⟨sl, e'⟩ := sl c hc o e; ⟨sl, k14 _ _ (fun z => by obtain ⟨o', e0⟩ := hex c hc; rw [F.fresh c z] at e0; cases e0) e'⟩ }
end
section
variable {w : World} {A : Around} {s0 s s' : Shared} {env : Env} {fs Y : List Addr} {G : SG} {V : SV} {aH aL : Addr} {N : Nat} {f : Nat -> Option Nat} {E : Value -> Shared -> Prop}
set_option maxHeartbeats 1000000 in
theorem run_fin (hn : env.scope.names = (fd_run pw).scope.names) (eg : env.globals = mainGlobals) (eb : env.builtins = builtinsNs) (hh : A.handled = none) (hd : A.depth + 100 < recursionLimit) (hu : A.units + 520 < cLine) (GB0 : GB fs s0.heap) {text endS : List Nat} {bg sg nd k gp de : Option PV} {dd' sd' pk' : PV}
  (x : RL w s0 env fs Y G V aH aL N f [] (vR (some dd') (some sd') bg sg (some pk') nd (some (.obj (.ref G.a))) k (some (pvN text)) (some (.obj (.ref aH))) (some (pvN [])) (some (.obj (.ref aL))) gp de) s) (hrd : V.ready = []) (hfin : V.fin = V.pas) (htf : text.map f = endS.map some) (hlen : text.length <= 100) {Q : Flow -> Shared -> Prop}
  (next : ∀ v s', (∃ h' tk, s' = { s0 with heap := h', toks := tk }) -> Kp fs s0.heap s'.heap -> (∀ b ∈ fs, ∀ o, s0.heap.get? b = some o -> ∃ sl, s'.heap.get? b = some { o with slots := sl }) -> Rep Y s'.heap (.tuple [.str (txt endS), pvN text]) v -> Q (.ret v) s') :
  wpAny (model pw w) A (execs (runB.drop 10) env) Q E s := by
 refine x_cons (wpAny_If (isTrue_or (Tst.hcast (c := false) (Tst.vlist (xs := []) (Ev.name x.F.toRd 10 (nm hn rfl) rfl) (Nat.zero_le _)) rfl s _ _ (HK.refl _) fun s₁ g₁ => ?_)))
 rw [if_neg (by decide)]
 have x₁ := x.gw g₁
 have Gr₁ := (x₁.gb GB0).grd
 refine isTrue_or (Tst.hcast (c := false) (Tst.isNotB (X := Y) (Ev.active x₁.ts Gr₁ (by lia) x₁.rdy (by rw [hrd]; exact Nat.zero_le _) (Ev.name x₁.F.toRd 6 (nm hn rfl) rfl)) Ev.cbool) (by rw [hfin, hrd, decide_eq_false (Int.lt_irrefl _)]; rfl) s₁ _ _ (HK.refl _) fun s₂ g₂ => ?_)
 rw [if_neg (by decide)]
 have x₂ := x₁.gw g₂
 have GB₂ := x₂.gb GB0
 obtain ⟨P, K⟩ := GB₂.grd.frag
 refine isTrue_or (wpAny_isTrue_Compare1 (call_s (X := Y) K x₂.ts f_m4 f_ft.2.2.2.1 GB₂.grd.get_ready.1 (by simp) (Ev.name x₂.F.toRd 6 (nm hn rfl) rfl) EvL.nil fun us s₃ g₃ r₃ => ?_) (by rfl))
 unfold RepL at r₃; subst r₃
 have x₃ := x₂.gw g₃
 refine w_get_ready (X := Y) x₃.ts ((x₃.gb GB0).less fun a ha => .inl (List.mem_append_right _ ha)) (by lia) hh x.rdy (by rw [hrd]; exact Nat.zero_le _) (by rw [hrd]; simp) x₃.F.xb (fun b hb => (x₃.sub b hb).1) fun v s₄ m₄ T₄ r₄ => ?_
 have x₄ := x₃.sorter m₄ T₄
 rw [hrd] at r₄
 refine (Ev.tup (X := Y) x₄.F.xb EvL.nil) s₄ _ _ (HK.refl _) fun u s₅ g₅ r₅ => ?_
 have x₅ := x₄.gw g₅
 refine ne_T0 (by lia) (r₄.hk g₅.hk) r₅ (wpAny_truthy_bool ?_)
 rw [if_neg (by decide)]
 refine isTrue_or_nil ?_
 rw [if_neg (by decide)]
 refine x_nil ?_
 have D₅ := x₅.hd
 refine x_return (X := Y) (Ev.tup x₅.F.xb (EvL.cons (Ev.join1 (cs := endS) (Ev.cast (Ev.comp x₅.F.toRd hh (its := text.map fun (n : Nat) => PV.int n) 1 [(2, 9)] (fun q => match q with | .int k => .str ⟨#[(f k.toNat).getD 0]⟩ | _ => .none) (fun _ => true) (CompOk.of (has := [true, true, bg.isSome, sg.isSome, true, nd.isSome, true, k.isSome, true, true, true, true, gp.isSome, de.isSome, false, false, false, false, false, false, false, false, false]) ?_ rfl) rfl (Ev.name x₅.F.toRd 8 (nm hn rfl) rfl) (Items.list _) ?_ ?_ ?_ ?_ ?_) ?_) ?_) (EvL.cons (Ev.name x₅.F.toRd 8 (nm hn rfl) rfl) EvL.nil)) sz2) ?_
 ·rw [hn]
  generalize bg.isSome = b1
  generalize sg.isSome = b2
  generalize nd.isSome = b4
  generalize k.isSome = b6
  generalize gp.isSome = b7
  generalize de.isSome = b8
  revert b1 b2 b4 b6 b7 b8
  decide +kernel
 ·intro q hq; obtain ⟨i, _, rfl⟩ := List.mem_map.mp hq; exact trivial
 ·rw [List.length_map]; unfold sizeLine; lia
 ·intro q hq _; obtain ⟨i, _, rfl⟩ := List.mem_map.mp hq; exact trivial
 ·intros; exact TstAll.nil
 ·intro q hq _ en h' hcn eg' eb' kk rd
  obtain ⟨c, hc', rfl⟩ := List.mem_map.mp hq
  replace rd : Rd en Y h' [none, some (.int c), some (.obj (.ref aH))] := rd
  have hfc : f c = some ((f c).getD 0) := by
   have : f c ∈ text.map f := List.mem_map_of_mem hc'
   rw [htf] at this
   obtain ⟨z, _, e⟩ := List.mem_map.mp this
   rw [<- e]; rfl
  exact Ev.itemD (D₅.hk kk) (Ev.name rd 2 (nm hcn rfl) rfl) (Ev.name rd 1 (nm hcn rfl) rfl) hfc
 ·rw [filter_true, List.map_map]
  show PV.list _ = PV.list ((ones endS).map PV.str)
  have : endS = text.map fun c => (f c).getD 0 := by
   have := congrArg (List.map fun o => Option.getD o 0) htf
   rw [List.map_map, List.map_map] at this
   exact ((this.trans (show List.map (fun x => x) endS = endS from List.map_id' endS))).symm
  rw [this, List.map_map, List.map_map]; rfl
 ·have : endS.length = text.length := by have := congrArg List.length htf; simpa using this.symm
  lia
 ·intro v' s₆ g₆ r₆
  have x₆ := x₅.gw g₆
  exact next v' s₆ x₆.ex x₆.F.keep x₆.sl r₆
end
theorem nil_of_full {n : Nat} {ds left : List Nat} (L : LOK n ds left) (hl : left.length = 0) : ∀ k < n, k ∈ ds := fun k hk => by
 by_cases h : k ∈ ds
 ·exact h
 ·have := (L.m k).mpr ⟨hk, h⟩
  rw [List.length_eq_zero_iff.mp hl] at this; cases this
theorem SI.full {n : Nat} {need : Nat -> List Nat} {ds ws : List Nat} {V : SV} (S : SI n need ds ws V) (hf : ∀ k < n, k ∈ ds) : ws = [] /\ V.ready = [] /\ V.fin = V.pas := by
 have h1 : ws = [] := List.eq_nil_iff_forall_not_mem.mpr fun k hk => (S.wok k hk).2.1 (hf k (S.wok k hk).1)
 have h2 : V.ready = [] := List.eq_nil_iff_forall_not_mem.mpr fun k hk => ((S.rd k).mp hk).2.1 (hf k ((S.rd k).mp hk).1)
 refine ⟨h1, h2, ?_⟩
 rw [S.fin, S.pas, h1]; simp
section
variable {w : World} {A : Around} {s0 s s' : Shared} {env : Env} {fs Y : List Addr} {G : SG} {aH aL : Addr} {E : Value -> Shared -> Prop}
theorem RInv.gw {deeds : List (List Nat × List Nat)} {side : Nat} {PI : List Nat -> List Nat -> (Nat -> Option Nat) -> Prop} {NB : Nat} {bg sg nd k : Option PV} {P : Int} {m : Nat} (I : RInv w s0 env fs Y G aH aL deeds side PI NB bg sg P nd k m s) (g : Gw s s') : RInv w s0 env fs Y G aH aL deeds side PI NB bg sg P nd k m s' := by
 obtain ⟨ds, ws, N, f, left, text, V, gp, de, h1, h2, h3, h4, h5, h6, x⟩ := I
 exact ⟨ds, ws, N, f, left, text, V, gp, de, h1, h2, h3, h4, h5, h6, x.gw g⟩
theorem RInv.left {deeds : List (List Nat × List Nat)} {side : Nat} {PI : List Nat -> List Nat -> (Nat -> Option Nat) -> Prop} {NB : Nat} {bg sg nd k : Option PV} {P : Int} {m : Nat} (I : RInv w s0 env fs Y G aH aL deeds side PI NB bg sg P nd k m s) (hn : env.scope.names = (fd_run pw).scope.names) (hn5 : deeds.length <= 10) {pos : Pos}
  (he : ∀ whole, isTrue (.Name "left" pos) env whole = (do let v <- whole; standAt (Expr.Name "left" pos).pos; holding [v] (truthy v)) := by intro _; rfl) : Tst pw w A env s.heap (.Name "left" pos) (decide (0 < m)) := by
 obtain ⟨ds, ws, N, f, left, text, V, gp, de, h1, h2, h3, h4, h5, h6, x⟩ := I
 refine Tst.hcast (Tst.vIL (X := Y) x.il (Ev.name x.F.toRd 11 (nm hn rfl) rfl) (by lia) he) ?_
 rw [<- h1]
 cases left with
 | nil => rfl
 | cons a l => simp
set_option maxHeartbeats 1000000 in
theorem run_loop {rk : Nat -> Nat} {deeds : List (List Nat × List Nat)} {side : Nat} {PI : List Nat -> List Nat -> (Nat -> Option Nat) -> Prop} {NB : Nat} {bg sg nd k : Option PV} {P : Int} {m : Nat} {endT endS : List Nat} (R : RunOK deeds side PI) (hn : env.scope.names = (fd_run pw).scope.names) (eg : env.globals = mainGlobals) (eb : env.builtins = builtinsNs) (hint : interactive env = false) (hh : A.handled = none) (hd : A.depth + 200 < recursionLimit) (hu : A.units + 520 < cLine) (GB0 : GB fs s0.heap) (hex : ∀ b ∈ fs, ∃ o, s0.heap.get? b = some o)
  (hside : side = 0 \/ side = 1) (hn5 : deeds.length <= 10) (hlen : ∀ d ∈ deeds, (sd side d).length <= 50) (hnl : ∀ k, (needN deeds side k).length <= 10) (hrk : ∀ k < deeds.length, ∀ p ∈ needN deeds side k, p < deeds.length /\ rk p < rk k) (hord : ∀ k, k ∈ G.order ↔ k < deeds.length) (hNB : NB <= 100)
  (hend : ∀ ds text f, PI ds text f -> (∀ k < deeds.length, k ∈ ds) -> text = endT /\ endT.map f = endS.map some)
  (I : RInv w s0 env fs Y G aH aL deeds side PI NB bg sg P nd k m s) {Q : Flow -> Shared -> Prop}
  (next : ∀ v s', (∃ h' tk, s' = { s0 with heap := h', toks := tk }) -> Kp fs s0.heap s'.heap -> (∀ b ∈ fs, ∀ o, s0.heap.get? b = some o -> ∃ sl, s'.heap.get? b = some { o with slots := sl }) -> Rep Y s'.heap (.tuple [.str (txt endS), pvN endT]) v -> Q (.ret v) s') :
  wpAny (model pw w) A (execs (runB.drop 9) env) Q E s := by
 refine x_while (fun m s => RInv w s0 env fs Y G aH aL deeds side PI NB bg sg P nd k m s) m I fun m s₁ E' I₁ => ?_
 refine Tst.hcast (I₁.left hn hn5) rfl s₁ _ _ (HK.refl _) fun s₂ g₂ => ?_
 have I₂ := I₁.gw g₂
 by_cases hm : 0 < m
 ·rw [decide_eq_true hm, if_pos rfl]
  exact turn_all R hn eg eb hint hh hd hu GB0 hex hside hn5 hlen hnl hrk hord hNB I₂ hm fun s' I' => ⟨m - 1, by lia, I'⟩
 ·rw [decide_eq_false hm, if_neg (by decide)]
  refine x_nil ?_
  obtain ⟨ds, ws, N, f, left, text, V, gp, de, h1, L, S, p, h5, h6, x⟩ := I₂
  have hl : left = [] := List.length_eq_zero_iff.mp (by lia)
  have hfull := nil_of_full L (by rw [hl]; rfl)
  obtain ⟨rfl, hrd, hfin⟩ := S.full hfull
  obtain ⟨rfl, htf⟩ := hend _ _ _ p hfull
  subst hl
  have hb := R.bnd _ _ _ p
  exact run_fin hn eg eb hh (by lia) hu GB0 x hrd hfin htf hb.2.1 next
end
section
variable {w : World} {A : Around} {s : Shared} {X : List Addr}
set_option maxHeartbeats 2000000 in
theorem w_run {outer : List Env} {rk : Nat -> Nat} {deeds : List (List Nat × List Nat)} {side : Nat} {PI : List Nat -> List Nat -> (Nat -> Option Nat) -> Prop} {begun sgs endT endS : List Nat} {P : Int} {vs : List Value} (R : RunOK deeds side PI) (GB0 : GB (framesOf outer) s.heap) (hd : A.depth + 210 < recursionLimit) (hu : A.units + 540 < cLine) (hh : A.handled = none) (hfr : A.frames = some outer) (FF0 : FF s.heap outer) (xb : XB s.heap X) (hfX : ∀ b ∈ framesOf outer, b ∈ X)
  (hside : side = 0 \/ side = 1) (hn5 : deeds.length <= 10) (hl0 : ∀ d ∈ deeds, (sd side d).length <= 50) (hl1 : ∀ d ∈ deeds, (sd (1 - side) d).length <= 50) (hlt : ∀ d ∈ deeds, ∀ c ∈ sd (1 - side) d, c < 2 ^ 20) (hnl : ∀ k, (needN deeds side k).length <= 10) (hrk : ∀ k < deeds.length, ∀ p ∈ needN deeds side k, p < deeds.length /\ rk p < rk k)
  (hbl : begun.length = sgs.length) (hb50 : begun.length <= 100) (p0 : PI [] begun (updF (fun _ => none) begun sgs begun.length))
  (hend : ∀ ds text f, PI ds text f -> (∀ k < deeds.length, k ∈ ds) -> text = endT /\ endT.map f = endS.map some)
  (rl : RepL X s.heap [.list (deeds.map pvD), .int side, pvN begun, .str (txt sgs), .int P] vs) {Q : Value -> Shared -> Prop} {E : Value -> Shared -> Prop}
  (hq : ∀ v s', (∃ h' tk, s' = { s with heap := h', toks := tk }) -> Kp (framesOf outer) s.heap s'.heap -> (∀ b ∈ framesOf outer, ∀ o, s.heap.get? b = some o -> ∃ sl, s'.heap.get? b = some { o with slots := sl }) -> Rep X s'.heap (.tuple [.str (txt endS), pvN endT]) v -> Q v s') :
  wpAny (model pw w) A (PySem.call (.ref 282) vs []) Q E s := by
 have Gr := GB0.grd
 unfold RepL at rl
 obtain ⟨v1, r1, rfl, p1, rl⟩ := rl
 unfold RepL at rl
 obtain ⟨v2, r2, rfl, p2, rl⟩ := rl
 unfold RepL at rl
 obtain ⟨v3, r3, rfl, p3, rl⟩ := rl
 unfold RepL at rl
 obtain ⟨v4, r4, rfl, p4, rl⟩ := rl
 unfold RepL at rl
 obtain ⟨v5, r5, rfl, p5, rl⟩ := rl
 obtain rfl : r5 = [] := rl
 refine wpAny_call (enter (fd := fd_run pw) (body := runB) (binds := [("deeds", v1), ("side", v2), ("begun", v3), ("signs", v4), ("picks", v5)]) (ps := [.list (deeds.map pvD), .int side, pvN begun, .str (txt sgs), .int P]) (X := X) (by lia) Gr.run.1 Gr.lim Gr.run.2 rfl rfl rfl rfl kd_run nd_run xb (RepL.cons p1 (RepL.cons p2 (RepL.cons p3 (RepL.cons p4 (RepL.cons p5 RepL.nil))))) ?_)
 intro s₁ env henv g F
 have hn : env.scope.names = (fd_run pw).scope.names := by rw [henv]; rfl
 have eg : env.globals = mainGlobals := by rw [henv]; rfl
 have eb : env.builtins = builtinsNs := by rw [henv]; rfl
 have hint : interactive env = false := by rw [henv]; rfl
 have hA : (A.deeper env).handled = none := hh
 have hdA : (A.deeper env).depth = A.depth + 1 := rfl
 have huA : (A.deeper env).units + 520 < cLine := by rw [Around.deeper_units]; lia
 have hf : env.frame = some env.locals := by rw [henv]; rfl
 have hfrA : (A.deeper env).frames = some (env :: outer) := by show A.frames.map (env :: ·) = _; rw [hfr]; rfl
 have F : Fm env (own env ++ X) (framesOf outer) s.heap s₁.heap (vR (some (.list (deeds.map pvD))) (some (.int side)) (some (pvN begun)) (some (.str (txt sgs))) (some (.int P)) none none none none none none none none none) := { F with keep := F.keep.mono (by simp) }
 have G₁ : Grd pw s₁.heap := Gr.hk g.hk
 have hex : ∀ b ∈ framesOf outer, ∃ o, s.heap.get? b = some o := fun b hb => FF0.mem_some hb
 have hnot : ∀ b ∈ framesOf outer, b ∉ own env := fun b hb z => by obtain ⟨o, e⟩ := hex b hb; rw [F.fresh b z] at e; cases e
 have hfX' : ∀ b ∈ framesOf outer, b ∈ own env ++ X := fun b hb => List.mem_append_right _ (hfX b hb)
 have needD : ∀ d ∈ deeds, ∃ k, k < deeds.length /\ needOf deeds side d = needN deeds side k := fun d hd => by
  obtain ⟨k, hk⟩ := List.mem_iff_getElem?.mp hd
  have hlt := (List.getElem?_eq_some_iff.mp hk).1
  exact ⟨k, hlt, by unfold needN; rw [List.getD_eq_getElem?_getD, hk]; rfl⟩
 refine x_assign F 5 (nm hn rfl) (.inl rfl) (p := .list ((deeds.map (needOf deeds side)).map pvN)) (Ev.call (Ev.glob F.toRd 14 (nm hn rfl) G₁.g_law_needs eg eb) (EvL.cons (Ev.name F.toRd 0 (nm hn rfl) rfl) (EvL.cons (Ev.name F.toRd 1 (nm hn rfl) rfl) EvL.nil)) ⟨_, _, G₁.needs.1, rfl⟩ (c_needs G₁ (by lia) (by lia) hA F.xb deeds hside (by lia) hl0 hlt hl1)) fun s₂ m₂ F₂ => ?_
 replace F₂ : Fm env (own env ++ X) (framesOf outer) s.heap s₂.heap (vR (some (.list (deeds.map pvD))) (some (.int side)) (some (pvN begun)) (some (.str (txt sgs))) (some (.int P)) (some (.list ((deeds.map (needOf deeds side)).map pvN))) none none none none none none none none) := F₂
 have ex2 := ex_tr g.ex m₂.ex
 have k2 : ∀ b ∈ framesOf outer, ∀ o, s.heap.get? b = some o -> s₂.heap.get? b = some o := fun b hb o e => m₂.kp b o (hnot b hb) (g.hk b o e)
 refine run_sorter (s0 := s) (rk := rk) hn eg eb hint hA (by lia) hfrA hf GB0 FF0 ex2 k2 hfX' (by rw [List.length_map]) hn5 (fun d hd => by obtain ⟨k, _, e⟩ := needD d hd; rw [e]; exact hnl k) (fun d hd p hp => by obtain ⟨k, hk, e⟩ := needD d hd; rw [e] at hp; exact (hrk k hk p hp).1) (fun k hk p hp => (hrk k hk p hp).2) F₂ fun s₃ G Y ex3 F₃ hY T₃ rdy hord sub nfs sl3 => ?_
 have fsY : ∀ b ∈ framesOf outer, b ∈ Y := fun b hb => hY b (hfX' b hb)
 refine run_have hn eg eb hA fsY GB0 hbl hb50 F₃ fun s₄ aH m₄ has3 ha0 haY F₄ D₄ => ?_
 have T₄ := T₃.kp m₄.kp fun b hb => (sub b hb).2.1
 have haG : aH ∉ G.fp := fun z => haY (sub aH z).1
 have sub4 : ∀ b ∈ G.fp, b ∈ aH :: Y /\ b ∉ own env /\ (b ∈ framesOf outer \/ s.heap.get? b = none) := fun b hb => ⟨List.mem_cons_of_mem _ (sub b hb).1, (sub b hb).2⟩
 have sl4 : ∀ b ∈ framesOf outer, ∀ o, s.heap.get? b = some o -> ∃ sl, s₄.heap.get? b = some { o with slots := sl } := fun b hb o e => by
  obtain ⟨sl, e'⟩ := sl3 b hb o (k2 b hb o e)
  exact ⟨sl, m₄.kp b _ (hnot b hb) e'⟩
 refine run_left (n := deeds.length) hn eg eb hA GB0 hex (by rw [List.length_map]) (by lia) (ex_tr ex3 m₄.ex) F₄ T₄ rdy sub4 nfs D₄ ⟨List.mem_cons_self, fun z => haY (F₃.ox aH z), ha0, haG⟩ (fun b hb => List.mem_cons_of_mem _ (fsY b hb)) sl4 fun s₅ aL haL x₅ => ?_
 have SI0 := SI.start (need := needN deeds side) T₄.nd hord
 refine run_loop (rk := rk) (m := deeds.length) (NB := begun.length) R hn eg eb hint hA (by lia) huA GB0 hex hside hn5 hl0 hnl hrk hord hb50 hend ⟨[], [], _, _, _, begun, _, none, none, List.length_range, LOK.start _, SI0, p0, Nat.le_refl _, by simp, x₅⟩ fun v s' ex' kp' sl' r' => ?_
 exact hq v s' ex' kp' sl' (r'.less fun b hb => List.mem_cons_of_mem _ (List.mem_cons_of_mem _ (hY b (List.mem_append_right _ hb))))
end
section
variable {prog : Program} {w : World} {A : Around} {E : Value -> Shared -> Prop} {s : Shared} {X M : List Addr} {env : Env} {h₀ h : Heap} {vals : List (Option PV)}
theorem RepL.three {p q z : PV} {vs : List Value} (r : RepL X h [p, q, z] vs) : ∃ a b c, vs = [a, b, c] /\ Rep X h p a /\ Rep X h q b /\ Rep X h z c := by
 unfold RepL at r
 obtain ⟨a, r1, rfl, ra, r⟩ := r
 obtain ⟨b, c, rfl, rb, rc⟩ := r.two
 exact ⟨a, b, c, rfl, ra, rb, rc⟩
theorem hk_ext {s : Shared} {h' : Heap} (he : Heap.ExtBut s.heap.objs.size s.heap h') : HK s.heap h' := fun b o e => he b o (Nat.ne_of_lt (Heap.lt_size e)) e
theorem a_tup3 (hh : A.handled = none) (F : Fm env X M h₀ s.heap vals) {x1 x2 x3 : Str} {k1 k2 k3 : NameKind} {q1 q2 q3 tp : Pos} {kt : Nat} (i1 i2 i3 : Nat)
  (hx1 : env.scope.names[i1]? = some (x1, k1)) (hk1 : k1 = .local \/ k1 = .cell) (hx2 : env.scope.names[i2]? = some (x2, k2)) (hk2 : k2 = .local \/ k2 = .cell) (hx3 : env.scope.names[i3]? = some (x3, k3)) (hk3 : k3 = .local \/ k3 = .cell)
  {p1 p2 p3 : PV} {v : Value} (r : Rep X s.heap (.tuple [p1, p2, p3]) v) {Q : Unit -> Shared -> Prop}
  (hq : ∀ s', Mv (own env) s s' -> Fm env X M h₀ s'.heap (((vals.set i1 (some p1)).set i2 (some p2)).set i3 (some p3)) -> Q () s') :
  wpAny (model prog w) A (assign (.Tuple [.Name x1 q1, .Name x2 q2, .Name x3 q3] kt tp) env v) Q E s := by
 unfold Rep at r
 obtain ⟨a, n, vs, rfl, ha, ho, rl⟩ := r
 obtain ⟨v1, v2, v3, e, r1, r2, r3⟩ := rl.three
 have hsz : vs.size = 3 := by have := congrArg List.length e; simpa using this
 refine wpAny_assign_Tuple hh ⟨_, ho, rfl, n, rfl⟩ (by rw [hsz]; rfl) (by rfl) fun h' he => ?_
 have k := hk_ext he
 have g : Gw s { s with heap := h' } := Gw.heap' k
 rw [e]
 refine assignInOrder_cons (a_name (s := { s with heap := h' }) (F.hk k) i1 hx1 hk1 (r1.hk k) fun s₁ m₁ F₁ => ?_)
 have x1 : Kp X h' s₁.heap := m₁.kp.mono F.ox
 refine assignInOrder_cons (a_name F₁ i2 hx2 hk2 (Rep.kp x1 (r2.hk k)) fun s₂ m₂ F₂ => ?_)
 have x2 : Kp X s₁.heap s₂.heap := m₂.kp.mono F.ox
 refine assignInOrder_cons (a_name F₂ i3 hx3 hk3 (Rep.kp x2 (Rep.kp x1 (r3.hk k))) fun s₃ m₃ F₃ => ?_)
 exact assignInOrder_nil (hq s₃ (((g.mv _).trans m₁).trans (m₂.trans m₃)) F₃)
theorem a_tup2 (hh : A.handled = none) (F : Fm env X M h₀ s.heap vals) {x1 x2 : Str} {k1 k2 : NameKind} {q1 q2 tp : Pos} {kt : Nat} (i1 i2 : Nat)
  (hx1 : env.scope.names[i1]? = some (x1, k1)) (hk1 : k1 = .local \/ k1 = .cell) (hx2 : env.scope.names[i2]? = some (x2, k2)) (hk2 : k2 = .local \/ k2 = .cell)
  {p1 p2 : PV} {v : Value} (r : Rep X s.heap (.tuple [p1, p2]) v) {Q : Unit -> Shared -> Prop}
  (hq : ∀ s', Mv (own env) s s' -> Fm env X M h₀ s'.heap ((vals.set i1 (some p1)).set i2 (some p2)) -> Q () s') :
  wpAny (model prog w) A (assign (.Tuple [.Name x1 q1, .Name x2 q2] kt tp) env v) Q E s := by
 unfold Rep at r
 obtain ⟨a, n, vs, rfl, ha, ho, rl⟩ := r
 obtain ⟨v1, v2, e, r1, r2⟩ := rl.two
 have hsz : vs.size = 2 := by have := congrArg List.length e; simpa using this
 refine wpAny_assign_Tuple hh ⟨_, ho, rfl, n, rfl⟩ (by rw [hsz]; rfl) (by rfl) fun h' he => ?_
 have k := hk_ext he
 have g : Gw s { s with heap := h' } := Gw.heap' k
 rw [e]
 refine assignInOrder_cons (a_name (s := { s with heap := h' }) (F.hk k) i1 hx1 hk1 (r1.hk k) fun s₁ m₁ F₁ => ?_)
 have x1 : Kp X h' s₁.heap := m₁.kp.mono F.ox
 refine assignInOrder_cons (a_name F₁ i2 hx2 hk2 (Rep.kp x1 (r2.hk k)) fun s₂ m₂ F₂ => ?_)
 exact assignInOrder_nil (hq s₂ ((g.mv _).trans (m₁.trans m₂)) F₂)
theorem Ev.andB {x y : Expr} {a b : Bool} {pos : Pos} (ex : Ev prog w A env X h x (.bool a)) (ey : Ev prog w A env X h y (.bool b)) : Ev prog w A env X h (.BoolOp .And [x, y] pos) (.bool (a && b)) := by
 intro s Q E k hq
 rw [arm_eval_BoolOp]
 show wpAny _ _ (boolOp pos .And [eval x env, eval y env]) _ _ _
 unfold boolOp
 refine wpAny_bind (ex s _ _ k fun v s₁ g r => ?_)
 unfold Rep at r; subst r
 refine wpAny_bind (wpAny_standAt (wpAny_bind (wpAny_holding (wpAny_truthy_bool ?_))))
 cases a with
 | false => exact wpAny_pure (hq _ _ g (by unfold Rep; rfl))
 | true =>
  show wpAny _ _ (boolOp pos .And [eval y env]) _ _ _
  unfold boolOp
  exact ey s₁ _ _ (k.trans g.hk) fun v s₂ g₂ r₂ => hq _ _ (g.trans g₂) r₂
theorem Ev.eqStr {l r : Expr} {pos : Pos} {a b : Str} (x : Ev prog w A env X h l (.str a)) (y : Ev prog w A env X h r (.str b)) (hm : behindInMarks .Eq r = false := by rfl) :
  Ev prog w A env X h (.Compare l [.Eq] [r] pos) (.bool (a.cps.toList == b.cps.toList)) :=
 Ev.cmp x y (fun s Q E u v _ ra rb hq => by
  unfold Rep at ra rb
  obtain ⟨t, rfl⟩ := ra
  obtain ⟨t', rfl⟩ := rb
  exact eq_str' (hq s (Gw.refl s))) hm
theorem Tst.neStr {l r : Expr} {pos : Pos} {a b : Str} (x : Ev prog w A env X h l (.str a)) (y : Ev prog w A env X h r (.str b)) (hm : behindInMarks .NotEq r = false := by rfl) :
  Tst prog w A env h (.Compare l [.NotEq] [r] pos) (a.cps.toList != b.cps.toList) :=
 Tst.cmp x y (fun s Q E u v _ ra rb hq => by
  unfold Rep at ra rb
  obtain ⟨t, rfl⟩ := ra
  obtain ⟨t', rfl⟩ := rb
  exact PySem.P.ne_str (hq s (Gw.refl s))) hm
theorem Ev.eqN {l r : Expr} {pos : Pos} {a b : List Nat} (hu : A.units + 64 < cLine) (x : Ev prog w A env X h l (pvN a)) (y : Ev prog w A env X h r (pvN b)) (hm : behindInMarks .Eq r = false := by rfl) :
  Ev prog w A env X h (.Compare l [.Eq] [r] pos) (.bool (decide (a = b))) :=
 Ev.cmp x y (fun s Q E u v _ ra rb hq => by
  obtain ⟨a1, n1, v1, rfl, _, _, i1, l1⟩ := rep_zs ra
  obtain ⟨a2, n2, v2, rfl, _, _, i2, l2⟩ := rep_zs rb
  refine PySem.W.eq_intsK l1 i1 l2 i2 hu ?_
  have e : decide (zs a = zs b) = decide (a = b) := by
   by_cases h : a = b
   ·subst h; simp
   ·rw [decide_eq_false h, decide_eq_false]
    intro z; apply h
    exact zs_inj z
  rw [e]; exact hq s (Gw.refl s)) hm
theorem Fm.ran {outer : List Env} {h' : Heap} (F : Fm env X (framesOf outer) h₀ h vals) (hf : env.frame = some env.locals) (hfX : ∀ b ∈ framesOf outer, b ∈ X) (kp : Kp (framesOf (env :: outer)) h h') (sl : ∀ b ∈ framesOf (env :: outer), ∀ o, h.get? b = some o -> ∃ sl, h'.get? b = some { o with slots := sl }) : Fm env X (framesOf outer) h₀ h' vals := by
 have rv : ∀ b, b ∈ framesOf (env :: outer) -> b = env.locals \/ b ∈ framesOf outer := fun b hb => by
  unfold framesOf at hb
  rw [List.filterMap_cons, hf] at hb
  exact List.mem_cons.mp hb
 have inX : ∀ b, b ∈ framesOf (env :: outer) -> b ∈ X := fun b hb => (rv b hb).elim (fun e => e ▸ F.ox _ List.mem_cons_self) (hfX b)
 have any : ∀ b o, h.get? b = some o -> ∃ sl, h'.get? b = some { o with slots := sl } := fun b o e => by
  by_cases z : b ∈ framesOf (env :: outer)
  ·exact sl b z o e
  ·exact ⟨o.slots, kp b o z e⟩
 refine F.shift (fun b o hb _ e => kp b o (fun z => hb (inX b z)) e) (fun b hb o e => any b o e) (fun b o hb e => kp b o (fun z => ?_) (F.keep b o hb e)) (fun b hb => ?_)
 ·rcases rv b z with q | q
  ·rw [q, F.fresh _ List.mem_cons_self] at e; cases e
  ·exact hb q
 ·obtain ⟨o, e⟩ := F.xb b hb
  obtain ⟨sl, e'⟩ := any b o e
  exact ⟨_, e'⟩
theorem Fm.ff {outer : List Env} (F : Fm env X M h₀ h vals) (hf : env.frame = some env.locals) (FF0 : FF h outer) : FF h (env :: outer) := by
 obtain ⟨mm, o, es, ep, ho, hdt, _⟩ := F.ns
 exact ⟨by rw [F.kind]; decide, ⟨env.locals, o, hf, rfl, ho, fun vs z => by rw [hdt] at z; cases z⟩, FF0⟩
theorem Fm.gbf {outer : List Env} (F : Fm env X (framesOf outer) h₀ h vals) (hf : env.frame = some env.locals) (GB0 : GB (framesOf outer) h₀) : GB (framesOf (env :: outer)) h := by
 have h1 : GB (env.locals :: framesOf outer) h₀ := GB0.less fun a ha => (List.mem_cons.mp ha).elim (fun e => .inr (e ▸ F.fresh _ List.mem_cons_self)) .inl
 refine (h1.kp (F.keep.mono fun b hb => List.mem_cons_of_mem _ hb)).less fun a ha => .inl ?_
 unfold framesOf at ha
 rw [List.filterMap_cons, hf] at ha
 exact ha
end
noncomputable def Ch (lo hi : Nat -> Nat) : Nat -> List Nat -> Nat -> Prop
 | a, [], b => a = b
 | a, c :: l, b => lo c = a /\ Ch lo hi (hi c) l b
theorem Ch.app {lo hi : Nat -> Nat} {m : List Nat} {b : Nat} : ∀ {l : List Nat} {a : Nat}, Ch lo hi a (l ++ m) b ↔ ∃ x, Ch lo hi a l x /\ Ch lo hi x m b
 | [], a => by
  constructor
  ·intro h; exact ⟨a, rfl, h⟩
  ·rintro ⟨x, h, h2⟩; obtain rfl : a = x := h; exact h2
 | c :: l, a => by
  constructor
  ·rintro ⟨h, h'⟩
   obtain ⟨x, h1, h2⟩ := Ch.app.mp h'
   exact ⟨x, ⟨h, h1⟩, h2⟩
  ·rintro ⟨x, ⟨h, h1⟩, h2⟩
   exact ⟨h, Ch.app.mpr ⟨x, h1, h2⟩⟩
theorem Ch.congr {lo hi lo' hi' : Nat -> Nat} {b : Nat} : ∀ {l : List Nat} {a : Nat}, (∀ c ∈ l, lo' c = lo c /\ hi' c = hi c) -> Ch lo hi a l b -> Ch lo' hi' a l b
 | [], _, _, h => h
 | c :: l, a, k, ⟨h, h'⟩ => by
  obtain ⟨k1, k2⟩ := k c List.mem_cons_self
  exact ⟨k1.trans h, k2 ▸ Ch.congr (fun d hd => k d (List.mem_cons_of_mem _ hd)) h'⟩
theorem Ch.ends {lo hi : Nat -> Nat} {l : List Nat} {a b : Nat} : Ch lo hi a l b -> ∀ {a' b' : Nat}, l ≠ [] -> Ch lo hi a' l b' -> a = a' /\ b = b' := by
 induction l generalizing a with
 | nil => intro _ _ _ h; exact absurd rfl h
 | cons c l ih =>
  rintro ⟨h1, h2⟩ a' b' _ ⟨h3, h4⟩
  refine ⟨h1.symm.trans h3, ?_⟩
  cases l with
  | nil => exact (show hi c = b from h2).symm.trans h4
  | cons d l => exact (ih h2 (by simp) h4).2
section
variable {lo hi : Nat -> Nat}
theorem Ch.le (hlt : ∀ c, lo c < hi c) {b : Nat} : ∀ {l : List Nat} {a : Nat}, Ch lo hi a l b -> a <= b /\ ∀ c ∈ l, a <= lo c /\ hi c <= b
 | [], a, h => ⟨Nat.le_of_eq h, by simp⟩
 | c :: l, a, ⟨h, h'⟩ => by
  obtain ⟨i1, i2⟩ := Ch.le hlt h'
  have := hlt c
  refine ⟨by lia, fun d hd => ?_⟩
  rcases List.mem_cons.mp hd with rfl | hd
  ·lia
  ·have := i2 d hd; lia
theorem Ch.sorted (hlt : ∀ c, lo c < hi c) {b : Nat} : ∀ {l : List Nat} {a : Nat}, Ch lo hi a l b -> l.Pairwise fun x y => lo x < lo y
 | [], _, _ => .nil
 | c :: l, a, ⟨h, h'⟩ => by
  refine .cons (fun d hd => ?_) (Ch.sorted hlt h')
  have := ((Ch.le hlt h').2 d hd).1
  have := hlt c
  lia
theorem Ch.nodup (hlt : ∀ c, lo c < hi c) {l : List Nat} {a b : Nat} (h : Ch lo hi a l b) : l.Nodup := (h.sorted hlt).imp fun h e => by rw [e] at h; exact Nat.lt_irrefl _ h
theorem Ch.unique (hlt : ∀ c, lo c < hi c) {l m : List Nat} {a b a' b' : Nat} (h1 : Ch lo hi a l b) (h2 : Ch lo hi a' m b') (hm : ∀ c, c ∈ l ↔ c ∈ m) : l = m :=
 ((List.perm_ext_iff_of_nodup (h1.nodup hlt) (h2.nodup hlt)).mpr hm).eq_of_pairwise (le := fun x y => lo x < lo y) (fun x y _ _ h1 h2 => absurd (Nat.lt_trans h1 h2) (Nat.lt_irrefl _)) (h1.sorted hlt) (h2.sorted hlt)
theorem Ch.prefix (hlt : ∀ c, lo c < hi c) {b y : Nat} : ∀ {T r : List Nat} {a : Nat}, Ch lo hi a r b -> Ch lo hi a T y -> (∀ t ∈ T, t ∈ r) -> ∃ post, r = T ++ post
 | [], r, a, _, _, _ => ⟨r, rfl⟩
 | t :: T, [], a, _, _, hs => absurd (hs t List.mem_cons_self) (by simp)
 | t :: T, c :: r, a, ⟨h1, h1'⟩, ⟨h2, h2'⟩, hs => by
  have hc := hlt c
  have et : t = c := by
   rcases List.mem_cons.mp (hs t List.mem_cons_self) with e | hm
   ·exact e
   ·have := ((Ch.le hlt h1').2 t hm).1; lia
  subst et
  obtain ⟨post, e⟩ := Ch.prefix hlt h1' h2' fun u hu => by
   rcases List.mem_cons.mp (hs u (List.mem_cons_of_mem _ hu)) with e | hm
   ·have := ((Ch.le hlt h2').2 u hu).1; rw [e] at this; lia
   ·exact hm
  exact ⟨post, by rw [e]; rfl⟩
theorem Ch.find (hlt : ∀ c, lo c < hi c) {text T : List Nat} {a b x y : Nat} (h : Ch lo hi a text b) (hT : Ch lo hi x T y) (hne : T ≠ []) (hs : ∀ t ∈ T, t ∈ text) : ∃ pre post, text = pre ++ T ++ post := by
 cases T with
 | nil => exact absurd rfl hne
 | cons t T =>
  obtain ⟨pre, r, e⟩ := List.append_of_mem (hs t List.mem_cons_self)
  subst e
  obtain ⟨z, h1, h2⟩ := Ch.app.mp h
  have hs' := List.pairwise_append.mp (h.sorted hlt)
  have hz : lo t = z := h2.1
  have hx : lo t = x := hT.1
  obtain ⟨post, e⟩ := Ch.prefix hlt h2 (hz ▸ hx ▸ hT) fun u hu => by
   rcases List.mem_append.mp (hs u hu) with hu' | hu'
   ·have a1 := hs'.2.2 u hu' t List.mem_cons_self
    have a2 := ((Ch.le hlt hT).2 u hu).1
    lia
   ·exact hu'
  exact ⟨pre, post, by rw [e, List.append_assoc]⟩
end
theorem len_of_nodup {n : Nat} {l : List Nat} (h : l.Nodup) (hl : ∀ c ∈ l, c < n) : l.length <= n := by
 have := h.length_le_of_subset (l₂ := List.range n) fun c hc => List.mem_range.mpr (hl c hc)
 simpa using this
noncomputable abbrev dA (deeds : List (List Nat × List Nat)) (side k : Nat) : List Nat := sd side (deeds.getD k ([], []))
theorem mem_need {deeds : List (List Nat × List Nat)} {side k p : Nat} : p ∈ needN deeds side k ↔ p < deeds.length /\ ∃ c ∈ dA deeds side k, c ∈ dA deeds (1 - side) p := by
 unfold needN needOf
 rw [List.mem_flatMap]
 constructor
 ·rintro ⟨c, hc, hp⟩
  obtain ⟨h1, h2⟩ := List.mem_filter.mp hp
  exact ⟨List.mem_range.mp h1, c, hc, of_decide_eq_true h2⟩
 ·rintro ⟨h1, c, hc, h2⟩
  exact ⟨c, hc, List.mem_filter.mpr ⟨List.mem_range.mpr h1, decide_eq_true h2⟩⟩
theorem av_iff {deeds : List (List Nat × List Nat)} {side k : Nat} {text : List Nat} : av deeds side text k = true ↔ ∀ c ∈ dA deeds side k, c ∈ text := by
 unfold av
 rw [List.isEmpty_iff, List.filter_eq_nil_iff]
 constructor
 ·intro h c hc
  have := h c hc
  by_cases q : c ∈ text
  ·exact q
  ·exact absurd (by simp [q]) this
 ·intro h c hc
  simp [h c hc]
theorem updF_sig (sig : Nat -> Nat) (f : Nat -> Option Nat) (md : List Nat) : ∀ i, i <= md.length -> ∀ c, updF f md (md.map sig) i c = if c ∈ md.take i then some (sig c) else f c
 | 0, _, c => by simp [updF]
 | i + 1, hi, c => by
  have e1 : md.getD i 0 = md[i] := by rw [List.getD_eq_getElem?_getD, List.getElem?_eq_getElem (by lia)]; rfl
  have e2 : (md.map sig).getD i 0 = sig md[i] := by rw [List.getD_eq_getElem?_getD, List.getElem?_map, List.getElem?_eq_getElem (by lia)]; rfl
  show setF (updF f md (md.map sig) i) (md.getD i 0) ((md.map sig).getD i 0) c = _
  unfold setF
  have e3 : md.take (i + 1) = md.take i ++ [md[i]] := by rw [List.take_add_one, List.getElem?_eq_getElem (by lia)]; rfl
  rw [e1, e2, updF_sig sig f md i (by lia) c, e3]
  by_cases h : c = md[i]
  ·rw [if_pos h, if_pos (List.mem_append_right _ (by rw [h]; exact List.mem_singleton_self _)), h]
  ·rw [if_neg h]
   have : (c ∈ md.take i ++ [md[i]]) ↔ c ∈ md.take i := by rw [List.mem_append, List.mem_singleton]; exact ⟨fun z => z.resolve_right h, .inl⟩
   by_cases q : c ∈ md.take i
   ·rw [if_pos q, if_pos (this.mpr q)]
   ·rw [if_neg q, if_neg (fun z => q (this.mp z))]
theorem updF_all (sig : Nat -> Nat) (f : Nat -> Option Nat) (md : List Nat) (c : Nat) : updF f md (md.map sig) md.length c = if c ∈ md then some (sig c) else f c := by
 rw [updF_sig sig f md _ (Nat.le_refl _), List.take_length]
structure Net (deeds : List (List Nat × List Nat)) (side : Nat) (lo hi sig : Nat -> Nat) (fin : Nat) (begun endT : List Nat) (rk : Nat -> Nat) : Prop where
 s01 : side = 0 \/ side = 1
 lt : ∀ c, lo c < hi c
 ch : ∀ k < deeds.length, ∃ a b, Ch lo hi a (dA deeds side k) b /\ Ch lo hi a (dA deeds (1 - side) k) b
 ne : ∀ k < deeds.length, dA deeds side k ≠ []
 dj : ∀ k < deeds.length, ∀ p < deeds.length, ∀ c, c ∈ dA deeds side k -> c ∈ dA deeds side p -> k = p
 djB : ∀ k < deeds.length, ∀ p < deeds.length, ∀ c, c ∈ dA deeds (1 - side) k -> c ∈ dA deeds (1 - side) p -> k = p
 src : ∀ k < deeds.length, ∀ c ∈ dA deeds side k, c ∈ begun \/ ∃ p, p < deeds.length /\ c ∈ dA deeds (1 - side) p
 fresh : ∀ {c p : Nat}, c ∈ begun -> p < deeds.length -> c ∉ dA deeds (1 - side) p
 wc : ∀ k < deeds.length, WCase side ((dA deeds side k).map sig) ((dA deeds (1 - side) k).map sig)
 rkd : ∀ k < deeds.length, ∀ p < deeds.length, ∀ c, c ∈ dA deeds side k -> c ∈ dA deeds (1 - side) p -> rk p < rk k
 fpos : 0 < fin
 chB : Ch lo hi 0 begun fin
 chE : Ch lo hi 0 endT fin
 end_ : ∀ c, c ∈ endT ↔ (c ∈ begun \/ ∃ p, p < deeds.length /\ c ∈ dA deeds (1 - side) p) /\ ∀ p < deeds.length, c ∉ dA deeds side p
 bd : (∀ c ∈ begun, c < 100) /\ ∀ p < deeds.length, ∀ c ∈ dA deeds (1 - side) p, c < 100
def PIn (deeds : List (List Nat × List Nat)) (side : Nat) (lo hi sig : Nat -> Nat) (fin : Nat) (begun : List Nat) (ds text : List Nat) (f : Nat -> Option Nat) : Prop :=
 Ch lo hi 0 text fin /\ (∀ c, c ∈ text ↔ (c ∈ begun \/ ∃ p ∈ ds, c ∈ dA deeds (1 - side) p) /\ ∀ p ∈ ds, c ∉ dA deeds side p) /\ (∀ c ∈ text, f c = some (sig c)) /\ ∀ q ∈ ds, q < deeds.length /\ ∀ p ∈ needN deeds side q, p ∈ ds
section
variable {deeds : List (List Nat × List Nat)} {side : Nat} {lo hi sig rk : Nat -> Nat} {fin : Nat} {begun endT : List Nat}
theorem Net.takes (N : Net deeds side lo hi sig fin begun endT rk) {ds text : List Nat} {f : Nat -> Option Nat} (P : PIn deeds side lo hi sig fin begun ds text f) {d : Nat} (hd : d < deeds.length) (hds : d ∉ ds) (hne : ∀ p ∈ needN deeds side d, p ∈ ds) : ∀ c ∈ dA deeds side d, c ∈ text := fun c hc => by
 obtain ⟨h1, h2, h3, h4⟩ := P
 refine (h2 c).mpr ⟨?_, fun p hp hcp => ?_⟩
 ·rcases N.src d hd c hc with h | ⟨p, hp, hcp⟩
  ·exact .inl h
  ·exact .inr ⟨p, hne p (mem_need.mpr ⟨hp, c, hc, hcp⟩), hcp⟩
 ·have := N.dj d hd p (h4 p hp).1 c hc hcp
  exact hds (this ▸ hp)
theorem Net.run (N : Net deeds side lo hi sig fin begun endT rk) : RunOK deeds side (PIn deeds side lo hi sig fin begun) where
 bnd := fun ds text f P => by
  obtain ⟨h1, h2, h3, h4⟩ := P
  have hb : ∀ c ∈ text, c < 100 := fun c hc => by
   rcases ((h2 c).mp hc).1 with h | ⟨p, hp, hcp⟩
   ·exact N.bd.1 c h
   ·exact N.bd.2 p (h4 p hp).1 c hcp
  refine ⟨fun e => ?_, len_of_nodup (h1.nodup N.lt) hb, fun c hc => ?_⟩
  ·subst e
   have : (0 : Nat) = fin := h1
   have := N.fpos; lia
  ·have := hb c hc; lia
 av := fun ds text f P k hk hkd => by
  rw [av_iff]
  constructor
  ·intro h p hp
   obtain ⟨hpn, c, hc, hcp⟩ := mem_need.mp hp
   obtain ⟨h1, h2, h3, h4⟩ := P
   obtain ⟨h5, h6⟩ := (h2 c).mp (h c hc)
   by_cases hpd : p ∈ ds
   ·exact hpd
   ·exfalso
    rcases h5 with h5 | ⟨q, hq, hcq⟩
    ·exact N.fresh h5 hpn hcp
    ·exact hpd (N.djB p hpn q (h4 q hq).1 c hcp hcq ▸ hq)
  ·intro h c hc
   exact N.takes P hk hkd h c hc
 step := fun ds text f P d hd hdd hne => by
  have ht := N.takes P hd hdd hne
  obtain ⟨h1, h2, h3, h4⟩ := P
  obtain ⟨a, b, ca, cb⟩ := N.ch d hd
  obtain ⟨pre, post, rfl⟩ := h1.find N.lt ca (N.ne d hd) ht
  have hnd := h1.nodup N.lt
  obtain ⟨n1, n2, n3⟩ := List.nodup_append.mp hnd
  obtain ⟨m1, m2, m3⟩ := List.nodup_append.mp n1
  have hwl : (dA deeds (1 - side) d).length = ((dA deeds (1 - side) d).map sig).length := by rw [List.length_map]
  refine ⟨dA deeds side d, dA deeds (1 - side) d, pre, post, (dA deeds side d).map sig, (dA deeds (1 - side) d).map sig, rfl, ?_, N.wc d hd, ?_, hwl, fun t ht' hp => m3 t hp t ht' rfl, ?_, ?_, ?_, ?_⟩
  ·rcases N.s01 with rfl | rfl
   ·exact .inl ⟨rfl, rfl⟩
   ·exact .inr ⟨rfl, rfl⟩
  ·rw [List.map_map]
   refine List.map_congr_left fun c hc => ?_
   exact h3 c (List.mem_append_left _ (List.mem_append_right _ hc))
  ·obtain ⟨y, c1, c2⟩ := Ch.app.mp h1
   obtain ⟨x, c3, c4⟩ := Ch.app.mp c1
   obtain ⟨e1, e2⟩ := Ch.ends ca (N.ne d hd) c4
   exact Ch.app.mpr ⟨y, Ch.app.mpr ⟨x, c3, e1 ▸ e2 ▸ cb⟩, c2⟩
  ·intro c
   constructor
   ·intro hc
    have old : c ∈ pre \/ c ∈ post -> (c ∈ begun \/ ∃ p ∈ ds ++ [d], c ∈ dA deeds (1 - side) p) /\ ∀ p ∈ ds ++ [d], c ∉ dA deeds side p := fun hc => by
     have hct : c ∈ pre ++ dA deeds side d ++ post := by
      rcases hc with hc | hc
      ·exact List.mem_append_left _ (List.mem_append_left _ hc)
      ·exact List.mem_append_right _ hc
     obtain ⟨q1, q2⟩ := (h2 c).mp hct
     refine ⟨q1.imp id fun ⟨p, hp, hcp⟩ => ⟨p, List.mem_append_left _ hp, hcp⟩, fun p hp => ?_⟩
     rcases List.mem_append.mp hp with hp | hp
     ·exact q2 p hp
     ·rw [List.mem_singleton.mp hp]
      intro hcd
      rcases hc with hc | hc
      ·exact m3 c hc c hcd rfl
      ·exact n3 c (List.mem_append_right _ hcd) c hc rfl
    rcases List.mem_append.mp hc with hc | hc
    ·rcases List.mem_append.mp hc with hc | hc
     ·exact old (.inl hc)
     ·refine ⟨.inr ⟨d, by simp, hc⟩, fun p hp hcp => ?_⟩
      rcases List.mem_append.mp hp with hp | hp
      ·exact hdd ((h4 p hp).2 d (mem_need.mpr ⟨hd, c, hcp, hc⟩))
      ·rw [List.mem_singleton.mp hp] at hcp
       exact Nat.lt_irrefl _ (N.rkd d hd d hd c hcp hc)
    ·exact old (.inr hc)
   ·rintro ⟨q1, q2⟩
    have hcd : c ∉ dA deeds side d := q2 d (by simp)
    by_cases hB : c ∈ dA deeds (1 - side) d
    ·exact List.mem_append_left _ (List.mem_append_right _ hB)
    ·have hct : c ∈ pre ++ dA deeds side d ++ post := by
      refine (h2 c).mpr ⟨?_, fun p hp => q2 p (List.mem_append_left _ hp)⟩
      rcases q1 with h | ⟨p, hp, hcp⟩
      ·exact .inl h
      ·rcases List.mem_append.mp hp with hp | hp
       ·exact .inr ⟨p, hp, hcp⟩
       ·rw [List.mem_singleton.mp hp] at hcp; exact absurd hcp hB
     rcases List.mem_append.mp hct with hc | hc
     ·rcases List.mem_append.mp hc with hc | hc
      ·exact List.mem_append_left _ (List.mem_append_left _ hc)
      ·exact absurd hc hcd
     ·exact List.mem_append_right _ hc
  ·intro c hc
   rw [updF_all]
   by_cases hB : c ∈ dA deeds (1 - side) d
   ·rw [if_pos hB]
   ·rw [if_neg hB]
    refine h3 c ?_
    rcases List.mem_append.mp hc with hc | hc
    ·rcases List.mem_append.mp hc with hc | hc
     ·exact List.mem_append_left _ (List.mem_append_left _ hc)
     ·exact absurd hc hB
    ·exact List.mem_append_right _ hc
  ·intro q hq
   rcases List.mem_append.mp hq with hq | hq
   ·exact ⟨(h4 q hq).1, fun p hp => List.mem_append_left _ ((h4 q hq).2 p hp)⟩
   ·rw [List.mem_singleton.mp hq]
    exact ⟨hd, fun p hp => List.mem_append_left _ (hne p hp)⟩
theorem Net.start (N : Net deeds side lo hi sig fin begun endT rk) : PIn deeds side lo hi sig fin begun [] begun (updF (fun _ => none) begun (begun.map sig) begun.length) :=
 ⟨N.chB, fun c => by simp, fun c hc => by rw [updF_all, if_pos hc], fun q hq => by cases hq⟩
theorem Net.stop (N : Net deeds side lo hi sig fin begun endT rk) : ∀ ds text f, PIn deeds side lo hi sig fin begun ds text f -> (∀ k < deeds.length, k ∈ ds) -> text = endT /\ endT.map f = (endT.map sig).map some := fun ds text f P hf => by
 obtain ⟨h1, h2, h3, h4⟩ := P
 have e : text = endT := h1.unique N.lt N.chE fun c => by
  rw [h2, N.end_]
  constructor
  ·rintro ⟨q1, q2⟩
   exact ⟨q1.imp id fun ⟨p, hp, hc⟩ => ⟨p, (h4 p hp).1, hc⟩, fun p hp => q2 p (hf p hp)⟩
  ·rintro ⟨q1, q2⟩
   exact ⟨q1.imp id fun ⟨p, hp, hc⟩ => ⟨p, hf p hp, hc⟩, fun p hp => q2 p (h4 p hp).1⟩
 subst e
 refine ⟨rfl, ?_⟩
 rw [List.map_map]
 exact List.map_congr_left fun c hc => h3 c hc
theorem Net.ranked (N : Net deeds side lo hi sig fin begun endT rk) : ∀ k < deeds.length, ∀ p ∈ needN deeds side k, p < deeds.length /\ rk p < rk k := fun k hk p hp => by
 obtain ⟨h1, c, h2, h3⟩ := mem_need.mp hp
 exact ⟨h1, N.rkd k hk p h1 c h2 h3⟩
theorem flat_len {α : Type} (l : List Nat) (g : Nat -> List α) (h : ∀ c ∈ l, (g c).length <= 1) : (l.flatMap g).length <= l.length := by
 induction l with
 | nil => simp
 | cons a l ih =>
  rw [List.flatMap_cons, List.length_append, List.length_cons]
  have := h a List.mem_cons_self
  have := ih fun c hc => h c (List.mem_cons_of_mem _ hc)
  lia
theorem len_one {l : List Nat} (hn : l.Nodup) (h : ∀ a ∈ l, ∀ b ∈ l, a = b) : l.length <= 1 := by
 match l, hn, h with
 | [], _, _ => simp
 | [a], _, _ => simp
 | a :: b :: r, hn, h =>
  have := h a (by simp) b (by simp)
  subst this
  simp at hn
theorem Net.needlen (N : Net deeds side lo hi sig fin begun endT rk) (k : Nat) : (needN deeds side k).length <= (dA deeds side k).length := by
 unfold needN needOf
 refine flat_len _ _ fun c hc => ?_
 refine len_one (List.nodup_range.filter _) fun a ha b hb => ?_
 obtain ⟨a1, a2⟩ := List.mem_filter.mp ha
 obtain ⟨b1, b2⟩ := List.mem_filter.mp hb
 exact N.djB a (List.mem_range.mp a1) b (List.mem_range.mp b1) c (of_decide_eq_true a2) (of_decide_eq_true b2)
end
def WC (sg W : List Nat) : Prop := (∃ o, o < 256 /\ sg = [o] /\ W = qText o) \/ (1 <= sg.length /\ sg.length <= 3 /\ (∀ x ∈ sg, x < 256) /\ W = eAll sg)
theorem WC.zero {sg W : List Nat} (h : WC sg W) : WCase 0 sg W := by
 rcases h with ⟨o, ho, rfl, rfl⟩ | ⟨h1, h3, h, rfl⟩
 ·exact .q o ho
 ·exact .b sg h1 h3 h
theorem WC.one {sg W : List Nat} (h : WC sg W) : WCase 1 W sg := by
 rcases h with ⟨o, ho, rfl, rfl⟩ | ⟨h1, h3, h, rfl⟩
 ·exact .rq o ho
 ·exact .rb sg h1 h3 h
noncomputable abbrev sgOf (st : PSt) (c : Nat) : Nat := st.signs.getD c 0
noncomputable abbrev tk (st : PSt) (k : Nat) : List Nat := (st.deeds.getD k ([], [])).1
noncomputable abbrev mdOf (st : PSt) (k : Nat) : List Nat := (st.deeds.getD k ([], [])).2
structure PN (row : List Nat) (i : Nat) (st : PSt) (lo hi : Nat -> Nat) (fin : Nat) : Prop where
 lt : ∀ c, lo c + 4 ^ (5 - i) <= hi c
 chB : Ch lo hi 0 (List.range row.length) fin
 chE : Ch lo hi 0 st.cells fin
 dl : st.deeds.length = i
 rS : row.length <= st.signs.length
 cS : ∀ c ∈ st.cells, c < st.signs.length
 tS : ∀ k < i, ∀ c ∈ tk st k, c < st.signs.length
 mS : ∀ k < i, ∀ c ∈ mdOf st k, row.length <= c /\ c < st.signs.length
 ch : ∀ k < i, ∃ a b, Ch lo hi a (tk st k) b /\ Ch lo hi a (mdOf st k) b
 ne : ∀ k < i, tk st k ≠ [] /\ mdOf st k ≠ []
 ln : ∀ k < i, (tk st k).length <= 3 /\ (mdOf st k).length <= 4
 djT : ∀ k < i, ∀ p < i, ∀ c, c ∈ tk st k -> c ∈ tk st p -> k = p
 djM : ∀ k < i, ∀ p < i, ∀ c, c ∈ mdOf st k -> c ∈ mdOf st p -> k = p
 allM : ∀ c < st.signs.length, c < row.length \/ ∃ p, p < i /\ c ∈ mdOf st p
 allT : ∀ c < st.signs.length, c ∈ st.cells \/ ∃ p, p < i /\ c ∈ tk st p
 apart : ∀ c ∈ st.cells, ∀ p < i, c ∉ tk st p
 ord : ∀ k < i, ∀ p < i, ∀ c, c ∈ tk st k -> c ∈ mdOf st p -> p < k
 wc : ∀ k < i, WC ((tk st k).map (sgOf st)) ((mdOf st k).map (sgOf st))
 row : (List.range row.length).map (sgOf st) = row
theorem range_get (l : List Nat) : (List.range l.length).map (fun c => l.getD c 0) = l := by
 apply List.ext_getElem
 ·simp
 ·intro i h1 h2
  simp [List.getD_eq_getElem?_getD, List.getElem?_eq_getElem h2]
theorem ch_range (u : Nat) : ∀ (k s : Nat), Ch (fun c => c * u) (fun c => (c + 1) * u) (s * u) (List.range' s k) ((s + k) * u)
 | 0, s => rfl
 | k + 1, s => ⟨rfl, by rw [show s + (k + 1) = s + 1 + k by lia]; exact ch_range u k (s + 1)⟩
theorem PN.init {row : List Nat} : PN row 0 ⟨row, List.range row.length, []⟩ (fun c => c * 1024) (fun c => (c + 1) * 1024) (row.length * 1024) where
 lt := fun c => by show c * 1024 + 4 ^ 5 <= (c + 1) * 1024; lia
 chB := by have := ch_range 1024 row.length 0; rw [Nat.zero_add, Nat.zero_mul, <- List.range_eq_range'] at this; exact this
 chE := by have := ch_range 1024 row.length 0; rw [Nat.zero_add, Nat.zero_mul, <- List.range_eq_range'] at this; exact this
 dl := rfl
 rS := Nat.le_refl _
 cS := fun c hc => List.mem_range.mp hc
 tS := fun k hk => absurd hk (Nat.not_lt_zero _)
 mS := fun k hk => absurd hk (Nat.not_lt_zero _)
 ch := fun k hk => absurd hk (Nat.not_lt_zero _)
 ne := fun k hk => absurd hk (Nat.not_lt_zero _)
 ln := fun k hk => absurd hk (Nat.not_lt_zero _)
 djT := fun k hk => absurd hk (Nat.not_lt_zero _)
 djM := fun k hk => absurd hk (Nat.not_lt_zero _)
 allM := fun c hc => .inl hc
 allT := fun c hc => .inl (List.mem_range.mpr hc)
 apart := fun c hc p hp => absurd hp (Nat.not_lt_zero _)
 ord := fun k hk => absurd hk (Nat.not_lt_zero _)
 wc := fun k hk => absurd hk (Nat.not_lt_zero _)
 row := range_get row
theorem snoc_lt {α : Type} {l : List α} {x d : α} {k : Nat} (h : k < l.length) : (l ++ [x]).getD k d = l.getD k d := by
 rw [List.getD_eq_getElem?_getD, List.getD_eq_getElem?_getD, List.getElem?_append_left h]
theorem snoc_eq {α : Type} {l : List α} {x d : α} : (l ++ [x]).getD l.length d = x := by
 rw [List.getD_eq_getElem?_getD, List.getElem?_append_right (Nat.le_refl _)]; simp
theorem app_lt {l m : List Nat} {c : Nat} (h : c < l.length) : (l ++ m).getD c 0 = l.getD c 0 := by
 rw [List.getD_eq_getElem?_getD, List.getD_eq_getElem?_getD, List.getElem?_append_left h]
theorem app_ge {l m : List Nat} {j : Nat} : (l ++ m).getD (l.length + j) 0 = m.getD j 0 := by
 rw [List.getD_eq_getElem?_getD, List.getD_eq_getElem?_getD, List.getElem?_append_right (Nat.le_add_right _ _), Nat.add_sub_cancel_left]
noncomputable def lo' (lo : Nat -> Nat) (S wl a u c : Nat) : Nat := if c < S then lo c else if c < S + wl then a + (c - S) * u else lo c
noncomputable def hi' (hi : Nat -> Nat) (S wl a b u c : Nat) : Nat := if c < S then hi c else if c + 1 < S + wl then a + (c - S + 1) * u else if c < S + wl then b else hi c
theorem ch_made (lo hi : Nat -> Nat) {S wl a b u : Nat} (hw : wl = 3 \/ wl = 4) : Ch (lo' lo S wl a u) (hi' hi S wl a b u) a ((List.range wl).map (S + ·)) b := by
 have l1 : ∀ j, j < wl -> lo' lo S wl a u (S + j) = a + j * u := fun j hj => by
  unfold lo'; rw [if_neg (by lia), if_pos (by lia), Nat.add_sub_cancel_left]
 have h1 : ∀ j, j + 1 < wl -> hi' hi S wl a b u (S + j) = a + (j + 1) * u := fun j hj => by
  unfold hi'; rw [if_neg (by lia), if_pos (by lia), Nat.add_sub_cancel_left]
 have h2 : ∀ j, j + 1 = wl -> hi' hi S wl a b u (S + j) = b := fun j hj => by
  unfold hi'; rw [if_neg (by lia), if_neg (by lia), if_pos (by lia)]
 rcases hw with rfl | rfl
 ·show Ch _ _ a [S + 0, S + 1, S + 2] b
  refine ⟨(l1 0 (by decide)).trans (by lia), (l1 1 (by decide)).trans (h1 0 (by decide)).symm, (l1 2 (by decide)).trans (h1 1 (by decide)).symm, h2 2 rfl⟩
 ·show Ch _ _ a [S + 0, S + 1, S + 2, S + 3] b
  refine ⟨(l1 0 (by decide)).trans (by lia), (l1 1 (by decide)).trans (h1 0 (by decide)).symm, (l1 2 (by decide)).trans (h1 1 (by decide)).symm, (l1 3 (by decide)).trans (h1 2 (by decide)).symm, h2 3 rfl⟩
theorem Ch.wide {lo hi : Nat -> Nat} {L : Nat} (hlt : ∀ c, lo c + L <= hi c) (hL : 0 < L) {l : List Nat} {a b : Nat} (h : Ch lo hi a l b) (hne : l ≠ []) : a + L <= b := by
 cases l with
 | nil => exact absurd rfl hne
 | cons c l =>
  have h1 := hlt c
  have h2 := h.1
  have h3 := (Ch.le (fun c => by have := hlt c; lia) h.2).1
  lia
theorem made_get (st : PSt) (W : List Nat) : ((List.range W.length).map (st.signs.length + ·)).map (fun c => (st.signs ++ W).getD c 0) = W := by
 rw [List.map_map]
 have : (fun c => (st.signs ++ W).getD c 0) ∘ (st.signs.length + ·) = fun c => W.getD c 0 := funext fun j => app_ge
 rw [this]
 exact range_get W
theorem PN.step {row : List Nat} {i : Nat} {st : PSt} {lo hi : Nat -> Nat} {fin : Nat} (heq : ∀ os : List Nat, 1 <= os.length -> os.length <= 3 -> (∀ x ∈ os, x < 256) -> bh os = eAll os) (N : PN row i st lo hi fin) (I : PInv i st) (hi5 : i < 5) (n : Int) : ∃ lo₂ hi₂, PN row (i + 1) (pStep st n) lo₂ hi₂ fin := by
 have hw0 := pWritten_len (n := n) I.c3
 have hw : (pWritten st n).length = 3 \/ (pWritten st n).length = 4 := by rw [hw0]; split; exact .inl rfl; exact .inr rfl
 have hwd := pWide_le n
 have hpl := pPlace_le n I.c3
 have htl := pTaken_len (n := n) I.c3
 have hL : 0 < 4 ^ (5 - i) := Nat.pow_pos (by decide)
 have hL4 : 4 ^ (5 - i) = 4 * 4 ^ (5 - (i + 1)) := by rw [show 5 - i = (5 - (i + 1)) + 1 by lia, Nat.pow_succ, Nat.mul_comm]
 have hlt : ∀ c, lo c < hi c := fun c => by have := N.lt c; lia
 have hdl := N.dl
 have hcut : st.cells = st.cells.take (pPlace n st.cells.length) ++ pTaken st n ++ st.cells.drop (pPlace n st.cells.length + pWide n) := by
  unfold pTaken
  rw [List.append_assoc, <- List.drop_drop, List.take_append_drop, List.take_append_drop]
 have htn : pTaken st n ≠ [] := fun e => by rw [e] at htl; simp at htl; lia
 have hcells : (pStep st n).cells = st.cells.take (pPlace n st.cells.length) ++ pMade st n ++ st.cells.drop (pPlace n st.cells.length + pWide n) := rfl
 have hsigns : (pStep st n).signs = st.signs ++ pWritten st n := rfl
 have hdeeds : (pStep st n).deeds = st.deeds ++ [(pTaken st n, pMade st n)] := rfl
 have hS : (pStep st n).signs.length = st.signs.length + (pWritten st n).length := by rw [hsigns, List.length_append]
 generalize hpre : st.cells.take (pPlace n st.cells.length) = pre at hcut hcells
 generalize hpost : st.cells.drop (pPlace n st.cells.length + pWide n) = post at hcut hcells
 have hE := N.chE
 rw [hcut] at hE
 obtain ⟨b, hE1, hE3⟩ := Ch.app.mp hE
 obtain ⟨a, hE1, hE2⟩ := Ch.app.mp hE1
 have hab := Ch.wide N.lt hL hE2 htn
 have hnd : (pre ++ pTaken st n ++ post).Nodup := hcut ▸ N.chE.nodup hlt
 obtain ⟨n1, n2, n3⟩ := List.nodup_append.mp hnd
 obtain ⟨m1, m2, m3⟩ := List.nodup_append.mp n1
 have mem_cells : ∀ c, c ∈ st.cells ↔ c ∈ pre \/ c ∈ pTaken st n \/ c ∈ post := fun c => by
  conv => lhs; rw [hcut]
  rw [List.mem_append, List.mem_append, or_assoc]
 have mem_made : ∀ c, c ∈ pMade st n ↔ st.signs.length <= c /\ c < st.signs.length + (pWritten st n).length := fun c => by
  unfold pMade
  rw [List.mem_map]
  constructor
  ·rintro ⟨j, hj, rfl⟩; have := List.mem_range.mp hj; lia
  ·rintro ⟨h1, h2⟩; exact ⟨c - st.signs.length, List.mem_range.mpr (by lia), by lia⟩
 have mem_new : ∀ c, c ∈ (pStep st n).cells ↔ c ∈ pre \/ c ∈ pMade st n \/ c ∈ post := fun c => by
  rw [hcells, List.mem_append, List.mem_append, or_assoc]
 have tk_lt : ∀ k, k < i -> tk (pStep st n) k = tk st k := fun k hk => by show (((pStep st n).deeds.getD k ([], [])).1) = _; rw [hdeeds, snoc_lt (by lia)]
 have md_lt : ∀ k, k < i -> mdOf (pStep st n) k = mdOf st k := fun k hk => by show (((pStep st n).deeds.getD k ([], [])).2) = _; rw [hdeeds, snoc_lt (by lia)]
 have tk_eq : tk (pStep st n) i = pTaken st n := by show (((pStep st n).deeds.getD i ([], [])).1) = _; rw [hdeeds, <- hdl, snoc_eq]
 have md_eq : mdOf (pStep st n) i = pMade st n := by show (((pStep st n).deeds.getD i ([], [])).2) = _; rw [hdeeds, <- hdl, snoc_eq]
 have cases_ : ∀ {C : Nat -> Prop}, (∀ k, k < i -> C k) -> C i -> ∀ k, k < i + 1 -> C k := fun h1 h2 k hk => by
  rcases Nat.lt_succ_iff_lt_or_eq.mp hk with h | h
  ·exact h1 k h
  ·exact h ▸ h2
 have sg_lt : ∀ c, c < st.signs.length -> sgOf (pStep st n) c = sgOf st c := fun c hc => by show ((pStep st n).signs.getD c 0) = _; rw [hsigns, app_lt hc]
 have sg_map : ∀ l : List Nat, (∀ c ∈ l, c < st.signs.length) -> l.map (sgOf (pStep st n)) = l.map (sgOf st) := fun l hl => List.map_congr_left fun c hc => sg_lt c (hl c hc)
 have tcell : ∀ c ∈ pTaken st n, c ∈ st.cells := fun c hc => (mem_cells c).mpr (.inr (.inl hc))
 generalize hu : 4 ^ (5 - (i + 1)) = u at *
 have old : ∀ c, c < st.signs.length -> lo' lo st.signs.length (pWritten st n).length a u c = lo c /\ hi' hi st.signs.length (pWritten st n).length a b u c = hi c := fun c hc => ⟨if_pos hc, if_pos hc⟩
 have oldL : ∀ l : List Nat, (∀ c ∈ l, c < st.signs.length) -> ∀ {x y : Nat}, Ch lo hi x l y -> Ch (lo' lo st.signs.length (pWritten st n).length a u) (hi' hi st.signs.length (pWritten st n).length a b u) x l y := fun l hl x y h => h.congr fun c hc => old c (hl c hc)
 have hT : ∀ c ∈ pTaken st n, c < st.signs.length := fun c hc => N.cS c (tcell c hc)
 have hcm : Ch (lo' lo st.signs.length (pWritten st n).length a u) (hi' hi st.signs.length (pWritten st n).length a b u) a (pMade st n) b := ch_made lo hi hw
 refine ⟨lo' lo st.signs.length (pWritten st n).length a u, hi' hi st.signs.length (pWritten st n).length a b u, ?_⟩
 exact {
  lt := fun c => by
   have h0 := N.lt c
   rw [hu]
   unfold lo' hi'
   split
   ·lia
   ·split
    ·split
     ·rw [Nat.succ_mul]; lia
     ·have e : c - st.signs.length + 1 = (pWritten st n).length := by lia
      have h1 : (c - st.signs.length) * u + u = (pWritten st n).length * u := by rw [<- e, Nat.succ_mul]
      have h2 : (pWritten st n).length * u <= 4 * u := Nat.mul_le_mul_right u (by lia)
      lia
    ·split
     ·lia
     ·lia
  chB := oldL _ (fun c hc => by have := List.mem_range.mp hc; have := N.rS; lia) N.chB
  chE := by
   rw [hcells]
   exact Ch.app.mpr ⟨b, Ch.app.mpr ⟨a, oldL _ (fun c hc => N.cS c ((mem_cells c).mpr (.inl hc))) hE1, hcm⟩, oldL _ (fun c hc => N.cS c ((mem_cells c).mpr (.inr (.inr hc)))) hE3⟩
  dl := by rw [hdeeds, List.length_append, hdl]; rfl
  rS := by have := N.rS; lia
  cS := fun c hc => by
   rcases (mem_new c).mp hc with h | h | h
   ·have := N.cS c ((mem_cells c).mpr (.inl h)); lia
   ·have := (mem_made c).mp h; lia
   ·have := N.cS c ((mem_cells c).mpr (.inr (.inr h))); lia
  tS := cases_ (fun k hk c hc => by rw [tk_lt k hk] at hc; have := N.tS k hk c hc; lia) fun c hc => by rw [tk_eq] at hc; have := hT c hc; lia
  mS := cases_ (fun k hk c hc => by rw [md_lt k hk] at hc; have := N.mS k hk c hc; lia) fun c hc => by rw [md_eq] at hc; have := (mem_made c).mp hc; have := N.rS; lia
  ch := cases_ (fun k hk => by
   rw [tk_lt k hk, md_lt k hk]
   obtain ⟨x, y, h1, h2⟩ := N.ch k hk
   exact ⟨x, y, oldL _ (N.tS k hk) h1, oldL _ (fun c hc => (N.mS k hk c hc).2) h2⟩) (by
   rw [tk_eq, md_eq]
   exact ⟨a, b, oldL _ hT hE2, hcm⟩)
  ne := cases_ (fun k hk => by rw [tk_lt k hk, md_lt k hk]; exact N.ne k hk) (by
   rw [tk_eq, md_eq]
   refine ⟨htn, fun e => ?_⟩
   have := (mem_made st.signs.length).mpr ⟨Nat.le_refl _, by lia⟩
   rw [e] at this; cases this)
  ln := cases_ (fun k hk => by rw [tk_lt k hk, md_lt k hk]; exact N.ln k hk) (by
   rw [tk_eq, md_eq, htl, pMade_len]; lia)
  djT := cases_ (fun k hk => cases_ (fun p hp c h1 h2 => by rw [tk_lt k hk] at h1; rw [tk_lt p hp] at h2; exact N.djT k hk p hp c h1 h2) fun c h1 h2 => by
    rw [tk_lt k hk] at h1; rw [tk_eq] at h2
    exact absurd h1 (N.apart c (tcell c h2) k hk)) (cases_ (fun p hp c h1 h2 => by
    rw [tk_lt p hp] at h2; rw [tk_eq] at h1
    exact absurd h2 (N.apart c (tcell c h1) p hp)) fun c _ _ => rfl)
  djM := cases_ (fun k hk => cases_ (fun p hp c h1 h2 => by rw [md_lt k hk] at h1; rw [md_lt p hp] at h2; exact N.djM k hk p hp c h1 h2) fun c h1 h2 => by
    rw [md_lt k hk] at h1; rw [md_eq] at h2
    have := N.mS k hk c h1; have := (mem_made c).mp h2; lia) (cases_ (fun p hp c h1 h2 => by
    rw [md_lt p hp] at h2; rw [md_eq] at h1
    have := N.mS p hp c h2; have := (mem_made c).mp h1; lia) fun c _ _ => rfl)
  allM := fun c hc => by
   by_cases h : c < st.signs.length
   ·rcases N.allM c h with h | ⟨p, hp, h⟩
    ·exact .inl h
    ·exact .inr ⟨p, by lia, by rw [md_lt p hp]; exact h⟩
   ·exact .inr ⟨i, by lia, by rw [md_eq]; exact (mem_made c).mpr ⟨by lia, by lia⟩⟩
  allT := fun c hc => by
   by_cases h : c < st.signs.length
   ·rcases N.allT c h with h | ⟨p, hp, h⟩
    ·rcases (mem_cells c).mp h with h | h | h
     ·exact .inl ((mem_new c).mpr (.inl h))
     ·exact .inr ⟨i, by lia, by rw [tk_eq]; exact h⟩
     ·exact .inl ((mem_new c).mpr (.inr (.inr h)))
    ·exact .inr ⟨p, by lia, by rw [tk_lt p hp]; exact h⟩
   ·exact .inl ((mem_new c).mpr (.inr (.inl ((mem_made c).mpr ⟨by lia, by lia⟩))))
  apart := fun c hc => by
   have hc' := (mem_new c).mp hc
   refine cases_ (fun p hp h => ?_) fun h => ?_
   ·rw [tk_lt p hp] at h
    rcases hc' with q | q | q
    ·exact N.apart c ((mem_cells c).mpr (.inl q)) p hp h
    ·have := (mem_made c).mp q; have := N.tS p hp c h; lia
    ·exact N.apart c ((mem_cells c).mpr (.inr (.inr q))) p hp h
   ·rw [tk_eq] at h
    rcases hc' with q | q | q
    ·exact m3 c q c h rfl
    ·have := (mem_made c).mp q; have := hT c h; lia
    ·exact n3 c (List.mem_append_right _ h) c q rfl
  ord := cases_ (fun k hk => cases_ (fun p hp c h1 h2 => by rw [tk_lt k hk] at h1; rw [md_lt p hp] at h2; exact N.ord k hk p hp c h1 h2) fun c h1 h2 => by
    rw [tk_lt k hk] at h1; rw [md_eq] at h2
    have := N.tS k hk c h1; have := (mem_made c).mp h2; lia) (cases_ (fun p hp c h1 h2 => hp) fun c h1 h2 => by
    rw [tk_eq] at h1; rw [md_eq] at h2
    have := hT c h1; have := (mem_made c).mp h2; lia)
  wc := cases_ (fun k hk => by
   rw [tk_lt k hk, md_lt k hk, sg_map _ (N.tS k hk), sg_map _ fun c hc => (N.mS k hk c hc).2]
   exact N.wc k hk) (by
   rw [tk_eq, md_eq, sg_map _ hT]
   have e1 : (pTaken st n).map (sgOf st) = pOcts st n := rfl
   have e2 : (pMade st n).map (sgOf (pStep st n)) = pWritten st n := made_get st (pWritten st n)
   rw [e1, e2]
   have hol := pOcts_len (n := n) I.c3
   have ho := pOcts_lt (n := n) I.s256
   unfold pWritten
   by_cases h4 : n.fmod 4 = 0
   ·rw [if_pos h4]
    have hw1 : pWide n = 1 := by unfold pWide; rw [h4]; rfl
    rw [hw1] at hol
    match hos : pOcts st n, hol, ho with
    | [o], _, ho => exact .inl ⟨o, ho o (by simp), rfl, rfl⟩
   ·rw [if_neg h4]
    exact .inr ⟨by lia, by lia, ho, heq _ (by lia) (by lia) ho⟩)
  row := by rw [sg_map _ (fun c hc => by have := List.mem_range.mp hc; have := N.rS; lia)]; exact N.row }
theorem alpha_b64 {n : Nat} (h : n < 64) : (alphabet.cps[n]?).getD 0 = b64c n := by
 have : ∀ n : Fin 64, (alphabet.cps[n.1]?).getD 0 = b64c n.1 := by decide +kernel
 exact this ⟨n, h⟩
theorem hSign_nat {os : List Int} {k : Int} {X Y m : Nat} (hX : hNum' os = (X : Int)) (hm : (hMany os - 1 - k).toNat = m) (hY : 64 ^ m = Y) : hSign os k = b64c (X / Y % 64) := by
 unfold hSign
 rw [hX, hm]
 have e1 : ((64 : Int) ^ m) = (Y : Int) := by rw [<- hY]; norm_cast
 have e2 : ((X : Int).fdiv (Y : Int)).fmod 64 = ((X / Y % 64 : Nat) : Int) := by
  rw [<- Int.ofNat_fdiv]
  exact (Int.ofNat_fmod (X / Y) 64).symm
 rw [e1, e2, Int.toNat_natCast]
 exact alpha_b64 (Nat.mod_lt _ (by decide))
theorem hMany_1 {os : List Int} (e : os.length = 1) : hMany os = 2 := by unfold hMany; rw [e]; decide
theorem hMany_2 {os : List Int} (e : os.length = 2) : hMany os = 3 := by unfold hMany; rw [e]; decide
theorem hMany_3 {os : List Int} (e : os.length = 3) : hMany os = 4 := by unfold hMany; rw [e]; decide
theorem byHand_of {os : List Int} {m : Int} (e : hMany os = m) : byHand os = ((List.range m.toNat).map fun (k : Nat) => hSign os k) ++ List.replicate ((-m).fmod 4).toNat 61 := by
 unfold byHand hSigns; rw [e]
theorem hNum'_of {os : List Int} {m : Int} {k : Nat} (e : hMany os = m) (hk : (6 * m - 8 * (os.length : Int)).toNat = k) : hNum' os = hNum os * 2 ^ k := by
 unfold hNum'; rw [e, hk]
theorem digN {N x y : Nat} (e : N = x * 64 + y) (h : y < 64) : N / 1 % 64 = y /\ ∀ k, N / (64 * k) = x / k := by
 subst e
 refine ⟨by rw [Nat.div_one]; exact (dvk h).2, fun k => ?_⟩
 rw [<- Nat.div_div_eq_div_mul, (dvk h).1]
theorem bh_eq (os : List Nat) (h1 : 1 <= os.length) (h3 : os.length <= 3) (h : ∀ x ∈ os, x < 256) : bh os = eAll os := by
 match os, h1, h3, h with
 | [a], _, _, h =>
  obtain ⟨p, q, hp, hq, rfl⟩ := cut4 (h a (by simp))
  rw [eAll_1 p q hp hq]
  have hX : hNum' [((p * 4 + q : Nat) : Int)] = ((p * 64 + q * 16 : Nat) : Int) := by rw [hNum'_of (hMany_1 rfl) (k := 4) (by rfl)]; show (0 * 256 + ((p * 4 + q : Nat) : Int)) * 2 ^ 4 = _; lia
  obtain ⟨d1, k1⟩ := digN (N := p * 64 + q * 16) rfl (by lia)
  show byHand [((p * 4 + q : Nat) : Int)] = _
  rw [byHand_of (hMany_1 rfl)]
  show [hSign [((p * 4 + q : Nat) : Int)] 0, hSign [((p * 4 + q : Nat) : Int)] 1] ++ [61, 61] = _
  rw [hSign_nat (k := 0) (m := 1) (Y := 64) hX (by rw [hMany_1 (by rfl)]; rfl) rfl, hSign_nat (k := 1) (m := 0) (Y := 1) hX (by rw [hMany_1 (by rfl)]; rfl) rfl]
  rw [d1, show (p * 64 + q * 16) / 64 = p / 1 from k1 1, Nat.div_one, Nat.mod_eq_of_lt hp]; rfl
 | [a, b], _, _, h =>
  obtain ⟨p, q, hp, hq, rfl⟩ := cut4 (h a (by simp))
  obtain ⟨r, s, hr, hs, rfl⟩ := cut16 (h b (by simp))
  rw [eAll_2 p q r s hp hq hr hs]
  have hX : hNum' [((p * 4 + q : Nat) : Int), ((r * 16 + s : Nat) : Int)] = (((p * 64 + (q * 16 + r)) * 64 + s * 4 : Nat) : Int) := by rw [hNum'_of (hMany_2 rfl) (k := 2) (by rfl)]; show ((0 * 256 + ((p * 4 + q : Nat) : Int)) * 256 + ((r * 16 + s : Nat) : Int)) * 2 ^ 2 = _; lia
  obtain ⟨d1, k1⟩ := digN (N := (p * 64 + (q * 16 + r)) * 64 + s * 4) rfl (by lia)
  obtain ⟨d2, k2⟩ := digN (N := p * 64 + (q * 16 + r)) rfl (by lia)
  show byHand [((p * 4 + q : Nat) : Int), ((r * 16 + s : Nat) : Int)] = _
  rw [byHand_of (hMany_2 rfl)]
  show [hSign [((p * 4 + q : Nat) : Int), ((r * 16 + s : Nat) : Int)] 0, hSign [((p * 4 + q : Nat) : Int), ((r * 16 + s : Nat) : Int)] 1, hSign [((p * 4 + q : Nat) : Int), ((r * 16 + s : Nat) : Int)] 2] ++ [61] = _
  rw [hSign_nat (k := 0) (m := 2) (Y := 4096) hX (by rw [hMany_2 (by rfl)]; rfl) rfl, hSign_nat (k := 1) (m := 1) (Y := 64) hX (by rw [hMany_2 (by rfl)]; rfl) rfl, hSign_nat (k := 2) (m := 0) (Y := 1) hX (by rw [hMany_2 (by rfl)]; rfl) rfl]
  generalize (p * 64 + (q * 16 + r)) * 64 + s * 4 = N at *
  rw [d1, show N / 64 = (p * 64 + (q * 16 + r)) / 1 from k1 1, d2, show N / 4096 = (p * 64 + (q * 16 + r)) / 64 from k1 64, show (p * 64 + (q * 16 + r)) / 64 = p / 1 from k2 1, Nat.div_one, Nat.mod_eq_of_lt hp]; rfl
 | [a, b, c], _, _, h =>
  obtain ⟨p, q, hp, hq, rfl⟩ := cut4 (h a (by simp))
  obtain ⟨r, s, hr, hs, rfl⟩ := cut16 (h b (by simp))
  obtain ⟨t, v, ht, hv, rfl⟩ := cut64 (h c (by simp))
  rw [eAll_3 p q r s t v hp hq hr hs ht hv]
  have hX : hNum' [((p * 4 + q : Nat) : Int), ((r * 16 + s : Nat) : Int), ((t * 64 + v : Nat) : Int)] = ((((p * 64 + (q * 16 + r)) * 64 + (s * 4 + t)) * 64 + v : Nat) : Int) := by rw [hNum'_of (hMany_3 rfl) (k := 0) (by rfl)]; show (((0 * 256 + ((p * 4 + q : Nat) : Int)) * 256 + ((r * 16 + s : Nat) : Int)) * 256 + ((t * 64 + v : Nat) : Int)) * 2 ^ 0 = _; lia
  obtain ⟨d1, k1⟩ := digN (N := ((p * 64 + (q * 16 + r)) * 64 + (s * 4 + t)) * 64 + v) rfl hv
  obtain ⟨d2, k2⟩ := digN (N := (p * 64 + (q * 16 + r)) * 64 + (s * 4 + t)) rfl (by lia)
  obtain ⟨d3, k3⟩ := digN (N := p * 64 + (q * 16 + r)) rfl (by lia)
  show byHand [((p * 4 + q : Nat) : Int), ((r * 16 + s : Nat) : Int), ((t * 64 + v : Nat) : Int)] = _
  rw [byHand_of (hMany_3 rfl)]
  generalize ha : ((p * 4 + q : Nat) : Int) = A at *
  generalize hb : ((r * 16 + s : Nat) : Int) = B at *
  generalize hc : ((t * 64 + v : Nat) : Int) = C at *
  show [hSign [A, B, C] 0, hSign [A, B, C] 1, hSign [A, B, C] 2, hSign [A, B, C] 3] ++ [] = _
  rw [hSign_nat (k := 0) (m := 3) (Y := 262144) hX (by rw [hMany_3 (by rfl)]; rfl) rfl, hSign_nat (k := 1) (m := 2) (Y := 4096) hX (by rw [hMany_3 (by rfl)]; rfl) rfl, hSign_nat (k := 2) (m := 1) (Y := 64) hX (by rw [hMany_3 (by rfl)]; rfl) rfl, hSign_nat (k := 3) (m := 0) (Y := 1) hX (by rw [hMany_3 (by rfl)]; rfl) rfl]
  generalize ((p * 64 + (q * 16 + r)) * 64 + (s * 4 + t)) * 64 + v = N at *
  generalize (p * 64 + (q * 16 + r)) * 64 + (s * 4 + t) = M at *
  rw [d1, show N / 64 = M / 1 from k1 1, d2, show N / 4096 = M / 64 from k1 64, show M / 64 = (p * 64 + (q * 16 + r)) / 1 from k2 1, d3, show N / 262144 = M / 4096 from k1 4096, show M / 4096 = (p * 64 + (q * 16 + r)) / 64 from k2 64, show (p * 64 + (q * 16 + r)) / 64 = p / 1 from k3 1, Nat.div_one, Nat.mod_eq_of_lt hp]; rfl
theorem PN.plan {row : List Nat} (h3 : 3 <= row.length) (h5 : row.length <= 5) (hr : ∀ x ∈ row, x < 256) (ns : List Int) : ∀ i, i <= ns.length -> i <= 5 -> ∃ lo hi, PN row i (pPlan row (ns.take i)) lo hi (row.length * 1024)
 | 0, _, _ => by rw [List.take_zero]; exact ⟨_, _, PN.init⟩
 | i + 1, hi, h => by
  obtain ⟨lo, hi', N⟩ := PN.plan h3 h5 hr ns i (by lia) (by lia)
  have I := PInv.plan h3 h5 hr ns i (by lia)
  rw [List.take_add_one, List.getElem?_eq_getElem (by lia)]
  unfold pPlan
  rw [List.foldl_append]
  exact N.step bh_eq I (by lia) _
section
variable {row : List Nat} {st : PSt} {lo hi : Nat -> Nat} {fin : Nat}
theorem PN.net0 (N : PN row 5 st lo hi fin) (hS : st.signs.length <= 25) (hf : 0 < fin) : Net st.deeds 0 lo hi (sgOf st) fin (List.range row.length) st.cells id where
 s01 := .inl rfl
 lt := fun c => by have := N.lt c; have : 0 < 4 ^ (5 - 5) := Nat.pow_pos (by decide); lia
 ch := fun k hk => N.ch k (N.dl ▸ hk)
 ne := fun k hk => (N.ne k (N.dl ▸ hk)).1
 dj := fun k hk p hp => N.djT k (N.dl ▸ hk) p (N.dl ▸ hp)
 djB := fun k hk p hp => N.djM k (N.dl ▸ hk) p (N.dl ▸ hp)
 src := fun k hk c hc => by
  rcases N.allM c (N.tS k (N.dl ▸ hk) c hc) with h | ⟨p, hp, h⟩
  ·exact .inl (List.mem_range.mpr h)
  ·exact .inr ⟨p, by rw [N.dl]; exact hp, h⟩
 fresh := fun {c p} hc hp h => by
  have := (N.mS p (N.dl ▸ hp) c h).1
  have := List.mem_range.mp hc; lia
 wc := fun k hk => (N.wc k (N.dl ▸ hk)).zero
 rkd := fun k hk p hp c h1 h2 => N.ord k (N.dl ▸ hk) p (N.dl ▸ hp) c h1 h2
 fpos := hf
 chB := N.chB
 chE := N.chE
 end_ := fun c => by
  rw [N.dl]
  constructor
  ·intro h
   refine ⟨?_, fun p hp hc => N.apart c h p hp hc⟩
   rcases N.allM c (N.cS c h) with h | h
   ·exact .inl (List.mem_range.mpr h)
   ·exact .inr h
  ·rintro ⟨h1, h2⟩
   have hc : c < st.signs.length := by
    rcases h1 with h | ⟨p, hp, h⟩
    ·have := List.mem_range.mp h; have := N.rS; lia
    ·exact (N.mS p hp c h).2
   rcases N.allT c hc with h | ⟨p, hp, h⟩
   ·exact h
   ·exact absurd h (h2 p hp)
 bd := ⟨fun c hc => by have := List.mem_range.mp hc; have := N.rS; lia, fun p hp c hc => by have := (N.mS p (N.dl ▸ hp) c hc).2; lia⟩
theorem PN.net1 (N : PN row 5 st lo hi fin) (hS : st.signs.length <= 25) (hf : 0 < fin) : Net st.deeds 1 lo hi (sgOf st) fin st.cells (List.range row.length) (fun k => 5 - k) where
 s01 := .inr rfl
 lt := fun c => by have := N.lt c; have : 0 < 4 ^ (5 - 5) := Nat.pow_pos (by decide); lia
 ch := fun k hk => let ⟨a, b, h1, h2⟩ := N.ch k (N.dl ▸ hk); ⟨a, b, h2, h1⟩
 ne := fun k hk => (N.ne k (N.dl ▸ hk)).2
 dj := fun k hk p hp => N.djM k (N.dl ▸ hk) p (N.dl ▸ hp)
 djB := fun k hk p hp => N.djT k (N.dl ▸ hk) p (N.dl ▸ hp)
 src := fun k hk c hc => by
  rcases N.allT c (N.mS k (N.dl ▸ hk) c hc).2 with h | ⟨p, hp, h⟩
  ·exact .inl h
  ·exact .inr ⟨p, by rw [N.dl]; exact hp, h⟩
 fresh := fun {c p} hc hp h => N.apart c hc p (N.dl ▸ hp) h
 wc := fun k hk => (N.wc k (N.dl ▸ hk)).one
 rkd := fun k hk p hp c h1 h2 => by
  have hk' : k < 5 := N.dl ▸ hk
  have hp' : p < 5 := N.dl ▸ hp
  have := N.ord p hp' k hk' c h2 h1
  show 5 - p < 5 - k
  lia
 fpos := hf
 chB := N.chE
 chE := N.chB
 end_ := fun c => by
  rw [N.dl]
  constructor
  ·intro h
   have hc := List.mem_range.mp h
   refine ⟨N.allT c (by have := N.rS; lia), fun p hp hm => ?_⟩
   have := (N.mS p hp c hm).1; lia
  ·rintro ⟨h1, h2⟩
   have hc : c < st.signs.length := by
    rcases h1 with h | ⟨p, hp, h⟩
    ·exact N.cS c h
    ·exact N.tS p hp c h
   rcases N.allM c hc with h | ⟨p, hp, h⟩
   ·exact List.mem_range.mpr h
   ·exact absurd h (h2 p hp)
 bd := ⟨fun c hc => by have := N.cS c hc; lia, fun p hp c hc => by have := N.tS p (N.dl ▸ hp) c hc; lia⟩
theorem PN.deed (N : PN row 5 st lo hi fin) {d : List Nat × List Nat} (hd : d ∈ st.deeds) : ∃ k, k < 5 /\ d.1 = tk st k /\ d.2 = mdOf st k := by
 obtain ⟨k, hk⟩ := List.mem_iff_getElem?.mp hd
 have hlt := (List.getElem?_eq_some_iff.mp hk).1
 rw [N.dl] at hlt
 refine ⟨k, hlt, ?_, ?_⟩
 ·show _ = (st.deeds.getD k ([], [])).1; rw [List.getD_eq_getElem?_getD, hk]; rfl
 ·show _ = (st.deeds.getD k ([], [])).2; rw [List.getD_eq_getElem?_getD, hk]; rfl
theorem PN.lens (N : PN row 5 st lo hi fin) (hS : st.signs.length <= 25) {side : Nat} : (∀ d ∈ st.deeds, (sd side d).length <= 4) /\ ∀ d ∈ st.deeds, ∀ c ∈ sd side d, c < 25 := by
 have key : ∀ d ∈ st.deeds, sd side d = d.1 \/ sd side d = d.2 := fun d _ => by unfold sd; split; exact .inl rfl; exact .inr rfl
 refine ⟨fun d hd => ?_, fun d hd c hc => ?_⟩
 ·obtain ⟨k, hk, e1, e2⟩ := N.deed hd
  have := N.ln k hk
  rcases key d hd with e | e
  ·rw [e, e1]; lia
  ·rw [e, e2]; lia
 ·obtain ⟨k, hk, e1, e2⟩ := N.deed hd
  rcases key d hd with e | e
  ·rw [e, e1] at hc; have := N.tS k hk c hc; lia
  ·rw [e, e2] at hc; have := (N.mS k hk c hc).2; lia
end
theorem nd_tab : ((fd_tab pw).scope.names.map (·.1)).Nodup := by decide +kernel
theorem kd_tab : ∀ x ∈ (fd_tab pw).scope.names.take 4, x.2 = .local \/ x.2 = .cell := by decide +kernel
noncomputable abbrev vT (rw pl fo bk sg ce de be fi wr tx ag pc : Option PV) : List (Option PV) := [rw, pl, fo, bk, sg, ce, de, be, fi, wr, tx, ag, pc, none, none, none, none]
noncomputable def tabB : List Stmt := bodyOf (topS pw 43)
noncomputable abbrev pvPlan (st : PSt) : PV := .tuple [pvS st.signs, pvN st.cells, .list (st.deeds.map pvD)]
theorem frames_X {X : List Addr} {env : Env} {outer : List Env} (hf : env.frame = some env.locals) (hfX : ∀ b ∈ framesOf outer, b ∈ X) : ∀ b ∈ framesOf (env :: outer), b ∈ own env ++ X := fun b hb => by
 unfold framesOf at hb
 rw [List.filterMap_cons, hf] at hb
 rcases List.mem_cons.mp hb with e | e
 ·exact List.mem_append_left _ (e ▸ List.mem_cons_self)
 ·exact List.mem_append_right _ (hfX b e)
section
variable {w : World} {A : Around} {s : Shared} {X : List Addr}
set_option maxHeartbeats 4000000 in
theorem w_tab {outer : List Env} {row : List Nat} {st : PSt} {lo hi : Nat -> Nat} {fin : Nat} {fo bk : Int} {vs : List Value} (N : PN row 5 st lo hi fin) (hS : st.signs.length <= 25) (hfin : 0 < fin) (h5 : row.length <= 5) (hr : ∀ x ∈ row, x < 256) (hcl : st.cells.length <= 25)
  (GB0 : GB (framesOf outer) s.heap) (hd : A.depth + 220 < recursionLimit) (hu : A.units + 560 < cLine) (hh : A.handled = none) (hfr : A.frames = some outer) (FF0 : FF s.heap outer) (xb : XB s.heap X) (hfX : ∀ b ∈ framesOf outer, b ∈ X)
  (rl : RepL X s.heap [pvN row, pvPlan st, .int fo, .int bk] vs) {Q : Value -> Shared -> Prop} {E : Value -> Shared -> Prop}
  (hq : ∀ s', (∃ h' tk, s' = { s with heap := h', toks := tk }) -> Kp (framesOf outer) s.heap s'.heap -> (∀ b ∈ framesOf outer, ∀ o, s.heap.get? b = some o -> ∃ sl, s'.heap.get? b = some { o with slots := sl }) -> Q (.bool true) s') :
  wpAny (model pw w) A (PySem.call (.ref 287) vs []) Q E s := by
 have Gr := GB0.grd
 unfold RepL at rl
 obtain ⟨v1, r1, rfl, p1, rl⟩ := rl
 obtain ⟨v2, v3, v4, rfl, p2, p3, p4⟩ := rl.three
 refine wpAny_call (enter (fd := fd_tab pw) (body := tabB) (binds := [("row", v1), ("plan", v2), ("forth", v3), ("back", v4)]) (ps := [pvN row, pvPlan st, .int fo, .int bk]) (X := X) (by lia) Gr.tab.1 Gr.lim Gr.tab.2 rfl rfl rfl rfl kd_tab nd_tab xb (RepL.cons p1 (RepL.cons p2 (RepL.cons p3 (RepL.cons p4 RepL.nil)))) ?_)
 intro s₁ env henv g F
 have hn : env.scope.names = (fd_tab pw).scope.names := by rw [henv]; rfl
 have eg : env.globals = mainGlobals := by rw [henv]; rfl
 have eb : env.builtins = builtinsNs := by rw [henv]; rfl
 have hA : (A.deeper env).handled = none := hh
 have hdA : (A.deeper env).depth = A.depth + 1 := rfl
 have huA : (A.deeper env).units + 540 < cLine := by rw [Around.deeper_units]; lia
 have hf : env.frame = some env.locals := by rw [henv]; rfl
 have hfrA : (A.deeper env).frames = some (env :: outer) := by show A.frames.map (env :: ·) = _; rw [hfr]; rfl
 have hex : ∀ b ∈ framesOf outer, ∃ o, s.heap.get? b = some o := fun b hb => FF0.mem_some hb
 have hnot : ∀ b ∈ framesOf outer, b ∉ own env := fun b hb z => by obtain ⟨o, e⟩ := hex b hb; rw [F.fresh b z] at e; cases e
 have hfX' := frames_X hf hfX
 have hfXX : ∀ b ∈ framesOf outer, b ∈ own env ++ X := fun b hb => List.mem_append_right _ (hfX b hb)
 have F : Fm env (own env ++ X) (framesOf outer) s.heap s₁.heap (vT (some (pvN row)) (some (pvPlan st)) (some (.int fo)) (some (.int bk)) none none none none none none none none none) := { F with keep := F.keep.mono (by simp) }
 have rl4 := N.rS
 refine wpAny_execs_cons (Assign_Tuple ((Ev.name F.toRd 1 (nm hn rfl) rfl) s₁ _ _ (HK.refl _) fun v s₂ g₂ r₂ => ?_))
 refine a_tup3 hA (F.hk g₂.hk) 4 5 6 (nm hn rfl) (.inr rfl) (nm hn rfl) (.inl rfl) (nm hn rfl) (.inl rfl) r₂ fun s₃ m₃ F₃ => ?_
 replace F₃ : Fm env (own env ++ X) (framesOf outer) s.heap s₃.heap (vT (some (pvN row)) (some (pvPlan st)) (some (.int fo)) (some (.int bk)) (some (pvS st.signs)) (some (pvN st.cells)) (some (.list (st.deeds.map pvD))) none none none none none none) := F₃
 have G₃ : Grd pw s₃.heap := (GB0.kp F₃.keep).grd
 refine x_assign F₃ 7 (nm hn rfl) (.inl rfl) (p := .str (txt row)) (Ev.join1 (cs := row) (Ev.cast (Ev.comp F₃.toRd hA (its := row.map fun (n : Nat) => PV.int n) 1 [] (fun q => match q with | .int k => .str ⟨#[k.toNat]⟩ | _ => .none) (fun _ => true) (CompOk.of (has := [true, true, true, true, true, true, true, false, false, false, false, false, false, false, false, false, false]) (by rw [hn]; decide +kernel) rfl) rfl (Ev.name F₃.toRd 0 (nm hn rfl) rfl) (Items.list _) ?_ ?_ ?_ ?_ ?_) ?_) ?_) ?_
 ·intro q hq; obtain ⟨i, _, rfl⟩ := List.mem_map.mp hq; exact trivial
 ·rw [List.length_map]; unfold sizeLine; lia
 ·intro q hq _; obtain ⟨i, _, rfl⟩ := List.mem_map.mp hq; exact trivial
 ·intros; exact TstAll.nil
 ·intro q hq _ en h' hcn eg' eb' kk rd
  obtain ⟨i, hi, rfl⟩ := List.mem_map.mp hq
  have := hr i hi
  exact Ev.call (Ev.glob rd 2 (nm hcn rfl) (G₃.hk kk).g_chr (eg'.trans eg) (eb'.trans eb)) (EvL.cons (Ev.name rd 1 (nm hcn rfl) rfl) EvL.nil) trivial (c_chr (by lia) (by lia))
 ·rw [filter_true, List.map_map]; show PV.list _ = PV.list ((ones row).map PV.str); rw [List.map_map]; rfl
 ·lia
 intro s₄ m₄ F₄
 replace F₄ : Fm env (own env ++ X) (framesOf outer) s.heap s₄.heap (vT (some (pvN row)) (some (pvPlan st)) (some (.int fo)) (some (.int bk)) (some (pvS st.signs)) (some (pvN st.cells)) (some (.list (st.deeds.map pvD))) (some (.str (txt row))) none none none none none) := F₄
 have G₄ : Grd pw s₄.heap := (GB0.kp F₄.keep).grd
 refine x_assign F₄ 8 (nm hn rfl) (.inl rfl) (Ev.call (Ev.glob F₄.toRd 13 (nm hn rfl) G₄.g_list eg eb) (EvL.cons (Ev.call (Ev.glob F₄.toRd 14 (nm hn rfl) G₄.g_range eg eb) (EvL.cons (Ev.call (Ev.glob F₄.toRd 15 (nm hn rfl) G₄.g_len eg eb) (EvL.cons (Ev.name F₄.toRd 7 (nm hn rfl) rfl) EvL.nil) trivial (c_lenT (xs := row) (by lia))) EvL.nil) trivial (c_range1 F₄.xb)) EvL.nil) trivial (c_list_rng0 F₄.xb hA (by lia))) fun s₅ m₅ F₅ => ?_
 replace F₅ : Fm env (own env ++ X) (framesOf outer) s.heap s₅.heap (vT (some (pvN row)) (some (pvPlan st)) (some (.int fo)) (some (.int bk)) (some (pvS st.signs)) (some (pvN st.cells)) (some (.list (st.deeds.map pvD))) (some (.str (txt row))) (some (pvN (List.range row.length))) none none none none) := F₅
 have G₅ : Grd pw s₅.heap := (GB0.kp F₅.keep).grd
 have k5 : Kp (own env) s₁.heap s₅.heap := ((g₂.hk.kp _).trans m₃.kp).trans (m₄.kp.trans m₅.kp)
 have ex5 : ∃ h' tk, s₅ = { s with heap := h', toks := tk } := ex_tr g.ex (ex_tr g₂.ex (ex_tr m₃.ex (ex_tr m₄.ex m₅.ex)))
 have sl5 : ∀ b ∈ framesOf outer, ∀ o, s.heap.get? b = some o -> s₅.heap.get? b = some o := fun b hb o e => k5 b o (hnot b hb) (g.hk b o e)
 have N0 := N.net0 hS hfin
 have N1 := N.net1 hS hfin
 have p0 := N0.start
 rw [N.row] at p0
 refine wpAny_execs_cons (Assign_Tuple (call_nm (Ev.glob F₅.toRd 16 (nm hn rfl) G₅.g_law_run eg eb) (EvL.cons (Ev.name F₅.toRd 6 (nm hn rfl) rfl) (EvL.cons (p := .int ((0 : Nat) : Int)) Ev.int (EvL.cons (Ev.name F₅.toRd 8 (nm hn rfl) rfl) (EvL.cons (Ev.name F₅.toRd 7 (nm hn rfl) rfl) (EvL.cons (Ev.name F₅.toRd 2 (nm hn rfl) rfl) EvL.nil))))) ⟨_, _, G₅.run.1, rfl⟩ fun vs s₆ g₆ r₆ => ?_))
 have F₆ := F₅.hk g₆.hk
 have FF6 : FF s₆.heap outer := FF.turn (fun b hb o e => ⟨o.slots, g₆.hk b o (sl5 b hb o e)⟩) FF0
 refine w_run (rk := id) (PI := PIn st.deeds 0 lo hi (sgOf st) fin (List.range row.length)) (endT := st.cells) (endS := st.cells.map (sgOf st)) N0.run (F₆.gbf hf GB0) (by lia) huA hA hfrA (F₆.ff hf FF6) F₆.xb hfX' (.inl rfl) (by rw [N.dl]; decide) (fun d hd => Nat.le_trans ((N.lens hS).1 d hd) (by decide)) (fun d hd => Nat.le_trans ((N.lens hS).1 d hd) (by decide)) (fun d hd c hc => Nat.lt_trans ((N.lens hS).2 d hd c hc) (by decide)) (fun k => ?_) N0.ranked (by rw [List.length_range]) (by rw [List.length_range]; lia) p0 N0.stop r₆ fun v s₇ ex₇ kp₇ sl₇ r₇ => ?_
 ·refine Nat.le_trans (N0.needlen k) ?_
  by_cases hk : k < 5
  ·have := N.ln k hk; show (tk st k).length <= 10; lia
  ·show ((st.deeds.getD k ([], [])).1).length <= 10
   rw [List.getD_eq_getElem?_getD, List.getElem?_eq_none (by rw [N.dl]; lia)]; simp
 have F₇ := F₆.ran hf hfXX kp₇ sl₇
 refine a_tup2 hA F₇ 9 10 (nm hn rfl) (.inl rfl) (nm hn rfl) (.inl rfl) r₇ fun s₈ m₈ F₈ => ?_
 replace F₈ : Fm env (own env ++ X) (framesOf outer) s.heap s₈.heap (vT (some (pvN row)) (some (pvPlan st)) (some (.int fo)) (some (.int bk)) (some (pvS st.signs)) (some (pvN st.cells)) (some (.list (st.deeds.map pvD))) (some (.str (txt row))) (some (pvN (List.range row.length))) (some (.str (txt (st.cells.map (sgOf st))))) (some (pvN st.cells)) none none) := F₈
 have G₈ : Grd pw s₈.heap := (GB0.kp F₈.keep).grd
 have ex8 : ∃ h' tk, s₈ = { s with heap := h', toks := tk } := ex_tr ex5 (ex_tr g₆.ex (ex_tr ex₇ m₈.ex))
 have sl8 : ∀ b ∈ framesOf outer, ∀ o, s.heap.get? b = some o -> ∃ sl, s₈.heap.get? b = some { o with slots := sl } := fun b hb o e => by
  obtain ⟨sl, e'⟩ := sl₇ b (by unfold framesOf; rw [List.filterMap_cons, hf]; exact List.mem_cons_of_mem _ hb) o (g₆.hk b o (sl5 b hb o e))
  exact ⟨sl, m₈.kp b _ (hnot b hb) e'⟩
 refine x_if (b := false) (Tst.or_false (Tst.hcast (Tst.neN (by lia) (Ev.name F₈.toRd 10 (nm hn rfl) rfl) (Ev.name F₈.toRd 5 (nm hn rfl) rfl)) (by rw [decide_eq_true rfl]; rfl)) (Tst.or_false (Tst.hcast (Tst.neStr (X := own env ++ X) (Ev.name F₈.toRd 9 (nm hn rfl) rfl) (Ev.join1 (cs := st.cells.map (sgOf st)) (Ev.cast (Ev.comp F₈.toRd hA (its := st.cells.map fun (n : Nat) => PV.int n) 1 [(2, 4)] (fun q => match q with | .int k => .str ⟨#[st.signs.getD k.toNat 0]⟩ | _ => .none) (fun _ => true) (CompOk.of (has := [true, true, true, true, true, true, true, true, true, true, true, false, false, false, false, false, false]) (by rw [hn]; decide +kernel) rfl) rfl (Ev.name F₈.toRd 5 (nm hn rfl) rfl) (Items.list _) ?_ ?_ ?_ ?_ ?_) ?_) ?_)) (by simp)) Tst.or_nil)) fun s₉ g₉ => ?_
 ·intro q hq; obtain ⟨i, _, rfl⟩ := List.mem_map.mp hq; exact trivial
 ·rw [List.length_map]; unfold sizeLine; lia
 ·intro q hq _; obtain ⟨i, _, rfl⟩ := List.mem_map.mp hq; exact trivial
 ·intros; exact TstAll.nil
 ·intro q hq _ en h' hcn eg' eb' kk rd
  obtain ⟨c, hc, rfl⟩ := List.mem_map.mp hq
  have hcs := N.cS c hc
  replace rd : Rd en (own env ++ X) h' [none, some (.int c), some (pvS st.signs)] := rd
  have hget : st.signs[c]? = some (st.signs.getD c 0) := by rw [List.getD_eq_getElem?_getD, List.getElem?_eq_getElem hcs]; rfl
  exact Ev.item (Ev.name rd 2 (nm hcn rfl) rfl) (Ev.name rd 1 (nm hcn rfl) rfl) (by lia) (by lia) (ones_get hget)
 ·rw [filter_true, List.map_map]
  show PV.list _ = PV.list ((ones (st.cells.map (sgOf st))).map PV.str)
  rw [List.map_map, List.map_map]; rfl
 ·rw [List.length_map]; lia
 rw [if_neg (by decide)]
 refine x_nil ?_
 have F₉ := F₈.hk g₉.hk
 have G₉ := G₈.hk g₉.hk
 refine wpAny_execs_cons (Assign_Tuple (call_nm (Ev.glob F₉.toRd 16 (nm hn rfl) G₉.g_law_run eg eb) (EvL.cons (Ev.name F₉.toRd 6 (nm hn rfl) rfl) (EvL.cons (p := .int ((1 : Nat) : Int)) Ev.int (EvL.cons (Ev.name F₉.toRd 10 (nm hn rfl) rfl) (EvL.cons (Ev.name F₉.toRd 9 (nm hn rfl) rfl) (EvL.cons (Ev.name F₉.toRd 3 (nm hn rfl) rfl) EvL.nil))))) ⟨_, _, G₉.run.1, rfl⟩ fun vs s10 g10 r10 => ?_))
 have F10 := F₉.hk g10.hk
 have k810 := g₉.hk.trans g10.hk
 have FF10 : FF s10.heap outer := FF.turn (fun b hb o e => let ⟨sl, e'⟩ := sl8 b hb o e; ⟨sl, k810 b _ e'⟩) FF0
 refine w_run (rk := fun k => 5 - k) (PI := PIn st.deeds 1 lo hi (sgOf st) fin st.cells) (endT := List.range row.length) (endS := (List.range row.length).map (sgOf st)) N1.run (F10.gbf hf GB0) (by lia) huA hA hfrA (F10.ff hf FF10) F10.xb hfX' (.inr rfl) (by rw [N.dl]; decide) (fun d hd => Nat.le_trans ((N.lens hS).1 d hd) (by decide)) (fun d hd => Nat.le_trans ((N.lens hS).1 d hd) (by decide)) (fun d hd c hc => Nat.lt_trans ((N.lens hS).2 d hd c hc) (by decide)) (fun k => ?_) N1.ranked (by rw [List.length_map]) (by lia) N1.start N1.stop r10 fun v s11 ex11 kp11 sl11 r11 => ?_
 ·refine Nat.le_trans (N1.needlen k) ?_
  by_cases hk : k < 5
  ·have := N.ln k hk; show (mdOf st k).length <= 10; lia
  ·show ((st.deeds.getD k ([], [])).2).length <= 10
   rw [List.getD_eq_getElem?_getD, List.getElem?_eq_none (by rw [N.dl]; lia)]; simp
 have F11 := F10.ran hf hfXX kp11 sl11
 rw [N.row] at r11
 refine a_tup2 hA F11 11 12 (nm hn rfl) (.inl rfl) (nm hn rfl) (.inl rfl) r11 fun s12 m12 F12 => ?_
 replace F12 : Fm env (own env ++ X) (framesOf outer) s.heap s12.heap (vT (some (pvN row)) (some (pvPlan st)) (some (.int fo)) (some (.int bk)) (some (pvS st.signs)) (some (pvN st.cells)) (some (.list (st.deeds.map pvD))) (some (.str (txt row))) (some (pvN (List.range row.length))) (some (.str (txt (st.cells.map (sgOf st))))) (some (pvN st.cells)) (some (.str (txt row))) (some (pvN (List.range row.length)))) := F12
 have sl12 : ∀ b ∈ framesOf outer, ∀ o, s.heap.get? b = some o -> ∃ sl, s12.heap.get? b = some { o with slots := sl } := fun b hb o e => by
  obtain ⟨sl, e'⟩ := sl8 b hb o e
  obtain ⟨sl', e''⟩ := sl11 b (by unfold framesOf; rw [List.filterMap_cons, hf]; exact List.mem_cons_of_mem _ hb) _ (k810 b _ e')
  exact ⟨sl', m12.kp b _ (hnot b hb) e''⟩
 refine x_return (Ev.andB (Ev.eqStr (Ev.name F12.toRd 11 (nm hn rfl) rfl) (Ev.name F12.toRd 7 (nm hn rfl) rfl)) (Ev.eqN (by lia) (Ev.name F12.toRd 12 (nm hn rfl) rfl) (Ev.name F12.toRd 8 (nm hn rfl) rfl))) fun v s13 g13 r13 => ?_
 unfold Rep at r13
 rw [beq_self_eq_true, decide_eq_true rfl] at r13
 subst r13
 exact hq s13 (ex_tr ex8 (ex_tr g₉.ex (ex_tr g10.ex (ex_tr ex11 (ex_tr m12.ex g13.ex))))) (F12.hk g13.hk).keep fun b hb o e => let ⟨sl, e'⟩ := sl12 b hb o e; ⟨sl, g13.hk b _ e'⟩
end
theorem nd_law : ((fd_law pw).scope.names.map (·.1)).Nodup := by decide +kernel
theorem kd_law : ∀ x ∈ (fd_law pw).scope.names.take 1, x.2 = .local \/ x.2 = .cell := by decide +kernel
noncomputable def lawB : List Stmt := bodyOf (topS pw 44)
theorem rep_script {h : Heap} {X : List Addr} : ∀ {ns : List Int} {ts : List Tok}, ts.length = ns.length -> RepL X h (ns.map .int) (List.zipWith (fun i t => Value.int i t) ns ts)
 | [], [], _ => RepL.nil
 | n :: ns, t :: ts, e => RepL.cons ⟨t, rfl⟩ (rep_script (by simpa using e))
 | [], _ :: _, e => by simp at e
 | _ :: _, [], e => by simp at e
theorem toNat_map {l : List Int} (h : ∀ x ∈ l, 0 <= x) : l.map PV.int = (l.map Int.toNat).map fun (n : Nat) => PV.int n := by
 rw [List.map_map]
 refine List.map_congr_left fun x hx => ?_
 show PV.int x = PV.int (x.toNat : Int)
 rw [Int.toNat_of_nonneg (h x hx)]
section
variable {w : World} {A : Around} {E : Value -> Shared -> Prop} {s : Shared} {env : Env}
theorem ret_and {a b : Expr} {pos : Pos} {Q : Value -> Shared -> Prop} (h : wpAny (model pw w) A (eval a env) (fun v s₁ => v = .bool true /\ wpAny (model pw w) A (eval b env) Q E s₁) E s) : wpAny (model pw w) A (eval (.BoolOp .And [a, b] pos) env) Q E s := by
 rw [arm_eval_BoolOp]
 show wpAny _ _ (boolOp pos .And [eval a env, eval b env]) _ _ _
 unfold boolOp
 refine wpAny_bind (wpAny_mono h (fun v s₁ q => ?_) fun _ _ z => z)
 obtain ⟨rfl, q⟩ := q
 refine wpAny_bind (wpAny_standAt (wpAny_bind (wpAny_holding (wpAny_truthy_bool ?_))))
 show wpAny _ _ (boolOp pos .And [eval b env]) _ _ _
 unfold boolOp
 exact q
set_option maxHeartbeats 2000000 in
theorem w_law (Gr : Grd pw s.heap) (hd : A.depth + 230 < recursionLimit) (hu : A.units + 580 < cLine) (hh : A.handled = none) (hfr : A.frames = some []) {l : Addr} {ns : List Int} {ts : List Tok} (hl : s.heap.get? l = some { cls := .type "list", data := .seq (List.zipWith (fun i t => Value.int i t) ns ts).toArray }) (ht : ts.length = ns.length) (hn63 : ns.length <= 63) {Q : Value -> Shared -> Prop}
  (hq : ∀ s', (∃ h' tk, s' = { s with heap := h', toks := tk }) -> (∀ b o, s.heap.get? b = some o -> s'.heap.get? b = some o) -> Q (.bool true) s') :
  wpAny (model pw w) A (PySem.call (.ref 294) [.ref l]) Q E s := by
 have hrep : Rep [] s.heap (.list (ns.map .int)) (.ref l) := by
  unfold Rep
  exact ⟨l, 0, _, rfl, by simp, hl, by rw [List.toList_toArray]; exact rep_script ht⟩
 refine wpAny_call (enter (fd := fd_law pw) (body := lawB) (binds := [("script", .ref l)]) (ps := [.list (ns.map .int)]) (X := []) (by lia) Gr.law.1 Gr.lim Gr.law.2 rfl rfl rfl rfl kd_law nd_law (by simp [XB]) (RepL.cons hrep RepL.nil) ?_)
 intro s₁ env henv g F
 have hn : env.scope.names = (fd_law pw).scope.names := by rw [henv]; rfl
 have eg : env.globals = mainGlobals := by rw [henv]; rfl
 have eb : env.builtins = builtinsNs := by rw [henv]; rfl
 have hA : (A.deeper env).handled = none := hh
 have hdA : (A.deeper env).depth = A.depth + 1 := rfl
 have huA : (A.deeper env).units + 560 < cLine := by rw [Around.deeper_units]; lia
 have hf : env.frame = some env.locals := by rw [henv]; rfl
 have hfrA : (A.deeper env).frames = some [env] := by show A.frames.map (env :: ·) = _; rw [hfr]; rfl
 have GB0 : GB (framesOf []) s.heap := ⟨s.heap, Gr, HK.refl _, by simp⟩
 replace F : Fm env (own env ++ []) (framesOf []) s.heap s₁.heap [some (.list (ns.map .int)), none, none, none, none, none, none, none] := F
 have hfX : ∀ b ∈ framesOf [], b ∈ own env ++ [] := by simp
 have hfX' : ∀ b ∈ framesOf [env], b ∈ own env ++ [] := frames_X (X := []) (outer := []) hf (by simp)
 have G₁ : Grd pw s₁.heap := Gr.hk g.hk
 refine wpAny_execs_cons (Assign_Tuple ((Ev.call (Ev.glob F.toRd 5 (nm hn rfl) G₁.g_law_drawn eg eb) (EvL.cons (Ev.name F.toRd 0 (nm hn rfl) rfl) EvL.nil) ⟨_, _, G₁.drawn.1, rfl⟩ (c_drawn G₁ (by lia) hA ns hn63 F.xb)) s₁ _ _ (HK.refl _) fun v s₂ g₂ r₂ => ?_))
 have hcl := dCells_len ns ns.length
 generalize hc : dCells ns ns.length = c at r₂ hcl
 have hm0 := Int.fmod_nonneg_of_pos (c.getD 5 0) (show (0 : Int) < 3 by decide)
 have hm3 := Int.fmod_lt_of_pos (c.getD 5 0) (show (0 : Int) < 3 by decide)
 have hrl : (dRow c).length = (dSize c).toNat := by unfold dRow; rw [List.length_map, List.length_range]
 have hsz : 3 <= dSize c /\ dSize c <= 5 := by unfold dSize; lia
 have hr0 : ∀ x ∈ dRow c, 0 <= x /\ x < 256 := fun x hx => by
  unfold dRow at hx
  obtain ⟨k, _, rfl⟩ := List.mem_map.mp hx
  exact ⟨Int.fmod_nonneg_of_pos _ (by decide), Int.fmod_lt_of_pos _ (by decide)⟩
 have erow : (dRow c).map PV.int = ((dRow c).map Int.toNat).map fun (n : Nat) => PV.int n := toNat_map fun x hx => (hr0 x hx).1
 rw [erow] at r₂
 have hrow3 : 3 <= ((dRow c).map Int.toNat).length := by rw [List.length_map, hrl]; lia
 have hrow5 : ((dRow c).map Int.toNat).length <= 5 := by rw [List.length_map, hrl]; lia
 have hrow : ∀ x ∈ (dRow c).map Int.toNat, x < 256 := fun x hx => by
  obtain ⟨y, hy, rfl⟩ := List.mem_map.mp hx
  have := hr0 y hy; lia
 have hnl : (c.take 5).length = 5 := by rw [List.length_take]; lia
 generalize (dRow c).map Int.toNat = row at r₂ hrow3 hrow5 hrow
 generalize c.take 5 = nums at r₂ hnl
 generalize c.getD 6 0 = picks at r₂
 refine a_tup3 hA (F.hk g₂.hk) 1 2 3 (nm hn rfl) (.inl rfl) (nm hn rfl) (.inl rfl) (nm hn rfl) (.inl rfl) r₂ fun s₃ m₃ F₃ => ?_
 replace F₃ : Fm env (own env ++ []) (framesOf []) s.heap s₃.heap [some (.list (ns.map .int)), some (.list (nums.map .int)), some (pvN row), some (.int picks), none, none, none, none] := F₃
 have G₃ : Grd pw s₃.heap := (GB0.kp F₃.keep).grd
 refine x_assign F₃ 4 (nm hn rfl) (.inl rfl) (p := pvPlan (pPlan row nums)) (Ev.call (Ev.glob F₃.toRd 6 (nm hn rfl) G₃.g_law_plan eg eb) (EvL.cons (Ev.name F₃.toRd 2 (nm hn rfl) rfl) (EvL.cons (Ev.name F₃.toRd 1 (nm hn rfl) rfl) EvL.nil)) ⟨_, _, G₃.plan.1, rfl⟩ (c_plan G₃ (by lia) hA row nums hrow3 hrow5 hrow hnl F₃.xb)) fun s₄ m₄ F₄ => ?_
 obtain ⟨lo, hi, N⟩ := PN.plan hrow3 hrow5 hrow nums 5 (by lia) (Nat.le_refl _)
 have I := PInv.plan hrow3 hrow5 hrow nums 5 (by lia)
 have et : nums.take 5 = nums := List.take_of_length_le (by lia)
 rw [et] at N I
 have hS := I.sl
 have hC := I.cl
 generalize pPlan row nums = st at N I F₄ hS hC
 replace F₄ : Fm env (own env ++ []) (framesOf []) s.heap s₄.heap [some (.list (ns.map .int)), some (.list (nums.map .int)), some (pvN row), some (.int picks), some (pvPlan st), none, none, none] := F₄
 have G₄ : Grd pw s₄.heap := (GB0.kp F₄.keep).grd
 have ex4 : ∃ h' tk, s₄ = { s with heap := h', toks := tk } := ex_tr g.ex (ex_tr g₂.ex (ex_tr m₃.ex m₄.ex))
 refine wpAny_execs_cons (wpAny_Return_some (ret_and (call_nm (Ev.glob F₄.toRd 7 (nm hn rfl) G₄.g_law_there_and_back eg eb) (EvL.cons (Ev.name F₄.toRd 2 (nm hn rfl) rfl) (EvL.cons (Ev.name F₄.toRd 4 (nm hn rfl) rfl) (EvL.cons (Ev.neg Ev.int) (EvL.cons Ev.int EvL.nil)))) ⟨_, _, G₄.tab.1, rfl⟩ fun vs s₅ g₅ r₅ => ?_)))
 have F₅ := F₄.hk g₅.hk
 refine w_tab N (by lia) (by lia) hrow5 hrow (by lia) (F₅.gbf hf GB0) (by lia) huA hA hfrA (F₅.ff hf trivial) F₅.xb hfX' r₅ fun s₆ ex₆ kp₆ sl₆ => ⟨rfl, ?_⟩
 have F₆ := F₅.ran hf hfX kp₆ sl₆
 have G₆ : Grd pw s₆.heap := (GB0.kp F₆.keep).grd
 refine call_nm (Ev.glob F₆.toRd 7 (nm hn rfl) G₆.g_law_there_and_back eg eb) (EvL.cons (Ev.name F₆.toRd 2 (nm hn rfl) rfl) (EvL.cons (Ev.name F₆.toRd 4 (nm hn rfl) rfl) (EvL.cons (Ev.name F₆.toRd 3 (nm hn rfl) rfl) (EvL.cons (Ev.name F₆.toRd 3 (nm hn rfl) rfl) EvL.nil)))) ⟨_, _, G₆.tab.1, rfl⟩ fun vs s₇ g₇ r₇ => ?_
 have F₇ := F₆.hk g₇.hk
 refine w_tab N (by lia) (by lia) hrow5 hrow (by lia) (F₇.gbf hf GB0) (by lia) huA hA hfrA (F₇.ff hf trivial) F₇.xb hfX' r₇ fun s₈ ex₈ kp₈ sl₈ => ?_
 have F₈ := F₇.ran hf hfX kp₈ sl₈
 exact hq s₈ (ex_tr ex4 (ex_tr g₅.ex (ex_tr ex₆ (ex_tr g₇.ex ex₈)))) fun b o e => F₈.keep b o (by simp) e
end
section
open PySem.W
noncomputable abbrev PT : Program := PySem.Challenge.pw_op0165_01
theorem pt_eq : PySem.Challenge.pw_op0165_01 = PT := rfl
noncomputable abbrev den : Code -> Sem Fin := PySem.W.Fast.tw11892475500146522536 PySem.W.Fast.tw14364793385576792824
theorem den_eq : denote treeTable = den := by
 show denote treeTable = PySem.W.Fast.tw11892475500146522536 PySem.W.Fast.tw14364793385576792824
 rw [PySem.W.Fast.te11892475500146522536, PySem.W.Fast.te14364793385576792824]
noncomputable def stp (w : World) : SharedT -> Thread -> Option (SharedT × Thread) := PySem.W.Fast.tw10156331382660048174 den PT w
theorem stp_eq (w : World) : stepT (denote treeTable) PT w = stp w := by
 rw [den_eq, PySem.W.Fast.te10156331382660048174]; rfl
noncomputable def goT (w : World) : Nat -> SharedT -> Thread -> Option (SharedT × Thread)
 | 0, s, t => some (s, t)
 | n + 1, s, t => match through t with
  | true => none
  | false => match PySem.W.Fast.tw6613529449190102663 28 (some (.ref 6)) t with
   | false => none
   | true => match stp w s t with
    | some (s', t') => goT w n s' t'
    | none => none
theorem goT_spec (w : World) : ∀ {n : Nat} {s s' : SharedT} {t t' : Thread}, goT w n s t = some (s', t') -> topGo treeTable PT w 28 (some (.ref 6)) n s.abs t = some (s'.abs, t')
 | 0, s, s', t, t', h => by
  have h' : some (s, t) = some (s', t') := h
  cases h'; rfl
 | n + 1, s, s', t, t', h => by
  unfold goT at h
  unfold topGo
  cases ht : through t with
  | true => rw [ht] at h; cases h
  | false =>
   rw [ht] at h
   dsimp only at h ⊢
   rw [PySem.W.Fast.te6613529449190102663]
   cases ho : PySem.W.Fast.tw6613529449190102663 28 (some (.ref 6)) t with
   | false => rw [ho] at h; cases h
   | true =>
    rw [ho] at h
    dsimp only at h ⊢
    cases hs : stp w s t with
    | none => rw [hs] at h; cases h
    | some x =>
     obtain ⟨s₁, t₁⟩ := x
     rw [hs] at h
     have e := stepT_spec (stp_eq w ▸ hs)
     rw [e]
     exact goT_spec w h
noncomputable def opn (w : World) : Option Shared :=
 (PySem.W.Fast.tw10274390034422433532 PySem.W.Fast.tw14364793385576792824 (opening PT) w 20000 (PySem.W.Fast.tw1435165496053646825 (opening PT)).1 (PySem.W.Fast.tw1435165496053646825 (opening PT)).2).bind (PySem.W.Fast.tw14289696077712309145 PT)
theorem opn_eq (w : World) : fencedOpening treeTable PT w 20000 = opn w := by
 unfold fencedOpening opn
 rw [PySem.W.Fast.te10274390034422433532, PySem.W.Fast.te14364793385576792824, PySem.W.Fast.te1435165496053646825, PySem.W.Fast.te14289696077712309145]
noncomputable def wOf (P : Params) : World := ⟨fun _ _ => 0, { P with followText := fun _ => false }⟩
noncomputable def bt : List Obj -> Nat -> BT -> BT
 | [], _, t => t
 | o :: l, i, t => bt l (i + 1) (t.ins i o)
noncomputable def T0 (P : Params) : BT := bt ((opn (wOf P)).getD {}).heap.objs.toList 0 .nil
noncomputable def S0 (P : Params) (os : OsState) : SharedT := ⟨T0 P, 28, {}, #[], {}, 276, os⟩
set_option maxHeartbeats 0 in
theorem open_ok : ∀ w : World, (opn w).map (fun s => (s.heap, s.gens, s.drawn, s.toks)) = some (absHeap (T0 w.params) 28 {}, #[], {}, 276) := by intro w; kernel_rfl
set_option maxHeartbeats 0 in
theorem size_ok : ∀ w : World, ((absHeap (T0 w.params) 28 {}).isNs mainGlobals && (#[] : Array GenState).size == 0, (absHeap (T0 w.params) 28 {}).objs.size, (absHeap (T0 w.params) 28 {}).nsMap mainGlobals "__annotations__") = (true, 28, some (.ref 6)) := by intro w; kernel_rfl
noncomputable def os0 : OsState := {}
noncomputable def th0 : Thread := ⟨.unsupported "", .builtin "" {}, ⟨0, 0, 0, 0⟩, []⟩
noncomputable def B1 (P : Params) : SharedT × Thread := (goT (wOf P) 208 (S0 P os0) (topStub PT)).getD (S0 P os0, th0)
noncomputable def Tb (P : Params) : BT := (B1 P).1.tree
noncomputable def Th (P : Params) : Thread := (B1 P).2
noncomputable def dig (n : Nat) : Nat := if n < 10 then 48 + n else 55 + n
noncomputable def hx (i : Nat) : Str := ⟨#[61, dig (i / 16), dig (i % 16)]⟩
noncomputable def qrow (k : Nat) : List Value := (List.range k).map fun i => .str (hx i) (330 + 4 * i)
noncomputable def Sc (k : Nat) (P : Params) (os : OsState) : SharedT :=
 ⟨(((Tb P).set 45 fun _ => { cls := .type "range_iterator", data := .fields #[.int k 0, .int (256 - k) 0, .int 1 0] }).set 46 fun _ => { cls := .type "list", data := .seq (qrow k).toArray k }).set 47
   (Obj.mapDict fun es => es.modify 0 fun e => { e with val := .int (k - 1) (323 + 4 * k) }), 48, {}, #[], {}, 327 + 4 * k, os⟩
noncomputable abbrev fw (w : World) (a b : Bool) : World := (w.withFollow "special-get-raises" a).withFollow "comprehension-iter-twice" b
set_option maxHeartbeats 0 in
theorem a_ff : ∀ (w : World) (os : OsState), goT (fw w false false) 208 (S0 (fw w false false).params os) (topStub PT) = some (Sc 1 (fw w false false).params os, Th (fw w false false).params) := by intro w os; kernel_rfl
set_option maxHeartbeats 0 in
theorem a_tf : ∀ (w : World) (os : OsState), goT (fw w true false) 208 (S0 (fw w true false).params os) (topStub PT) = some (Sc 1 (fw w true false).params os, Th (fw w true false).params) := by intro w os; kernel_rfl
set_option maxHeartbeats 0 in
theorem a_ft : ∀ (w : World) (os : OsState), goT (fw w false true) 198 (S0 (fw w false true).params os) (topStub PT) = some (Sc 1 (fw w false true).params os, Th (fw w false true).params) := by intro w os; kernel_rfl
set_option maxHeartbeats 0 in
theorem a_tt : ∀ (w : World) (os : OsState), goT (fw w true true) 198 (S0 (fw w true true).params os) (topStub PT) = some (Sc 1 (fw w true true).params os, Th (fw w true true).params) := by intro w os; kernel_rfl
set_option maxHeartbeats 0 in
theorem c_1 : ∀ (w : World) (os : OsState), goT w (37 * 64) (Sc 1 w.params os) (Th w.params) = some (Sc 65 w.params os, Th w.params) := by intro w os; kernel_rfl
set_option maxHeartbeats 0 in
theorem c_2 : ∀ (w : World) (os : OsState), goT w (37 * 64) (Sc 65 w.params os) (Th w.params) = some (Sc 129 w.params os, Th w.params) := by intro w os; kernel_rfl
set_option maxHeartbeats 0 in
theorem c_3 : ∀ (w : World) (os : OsState), goT w (37 * 64) (Sc 129 w.params os) (Th w.params) = some (Sc 193 w.params os, Th w.params) := by intro w os; kernel_rfl
set_option maxHeartbeats 0 in
theorem c_4 : ∀ (w : World) (os : OsState), goT w (37 * 63) (Sc 193 w.params os) (Th w.params) = some (Sc 256 w.params os, Th w.params) := by intro w os; kernel_rfl
noncomputable def B2 (P : Params) : SharedT × Thread := (goT (wOf P) 224 (Sc 256 P os0) (Th P)).getD (S0 P os0, th0)
noncomputable def by1 : List Nat := [45, 33, 42, 43, 47] ++ (List.range 26).map (97 + ·) ++ (List.range 26).map (65 + ·) ++ (List.range 10).map (48 + ·)
noncomputable def by2 : List Nat := (List.range 29).map (32 + ·) ++ (List.range 65).map (62 + ·) ++ [9]
noncomputable def put1 (bs : List Nat) (tok : Nat) : Nat -> Array Value -> Array Value
 | 0, xs => xs
 | k + 1, xs => (put1 bs tok k xs).setIfInBounds (bs.getD k 0) (.str ⟨#[bs.getD k 0]⟩ (tok + 2 + 3 * k))
noncomputable def loopT (T : BT) (bs : List Nat) (lst itr tok k : Nat) : BT :=
 ((T.set 3 (Obj.mapDict fun es => es.modify 19 fun e => { e with val := .int (bs.getD (k - 1) 0) (tok + 3 * (k - 1)) })).set itr (Obj.mapFields fun vs => vs.setIfInBounds 1 (.int k 0))).set lst (Obj.mapSeq (put1 bs tok k))
noncomputable def Sl1 (k : Nat) (P : Params) (os : OsState) : SharedT := ⟨loopT (B2 P).1.tree by1 51 54 1371 k, 55, {}, #[], {}, 1371 + 3 * k, os⟩
set_option maxHeartbeats 0 in
theorem b_2 (w : World) : ∀ os : OsState, goT w 224 (Sc 256 w.params os) (Th w.params) = some (Sl1 1 w.params os, (B2 w.params).2) :=
 byRow2 "special-get-raises" (P := fun w => ∀ os : OsState, goT w 224 (Sc 256 w.params os) (Th w.params) = some (Sl1 1 w.params os, (B2 w.params).2)) (by intro w os; kernel_rfl) (by intro w os; kernel_rfl) w
set_option maxHeartbeats 0 in
theorem d_1 : ∀ (w : World) (os : OsState), goT w (45 * 33) (Sl1 1 w.params os) (B2 w.params).2 = some (Sl1 34 w.params os, (B2 w.params).2) := by intro w os; kernel_rfl
set_option maxHeartbeats 0 in
theorem d_2 : ∀ (w : World) (os : OsState), goT w (45 * 33) (Sl1 34 w.params os) (B2 w.params).2 = some (Sl1 67 w.params os, (B2 w.params).2) := by intro w os; kernel_rfl
noncomputable def B3 (P : Params) : SharedT × Thread := (goT (wOf P) 96 (Sl1 67 P os0) (B2 P).2).getD (S0 P os0, th0)
noncomputable def Sl2 (k : Nat) (P : Params) (os : OsState) : SharedT := ⟨loopT (B3 P).1.tree by2 53 57 1576 k, 58, {}, #[], {}, 1576 + 3 * k, os⟩
set_option maxHeartbeats 0 in
theorem b_3 (w : World) : ∀ os : OsState, goT w 96 (Sl1 67 w.params os) (B2 w.params).2 = some (Sl2 1 w.params os, (B3 w.params).2) :=
 byRow2 "special-get-raises" (P := fun w => ∀ os : OsState, goT w 96 (Sl1 67 w.params os) (B2 w.params).2 = some (Sl2 1 w.params os, (B3 w.params).2)) (by intro w os; kernel_rfl) (by intro w os; kernel_rfl) w
set_option maxHeartbeats 0 in
theorem e_1 : ∀ (w : World) (os : OsState), goT w (45 * 32) (Sl2 1 w.params os) (B3 w.params).2 = some (Sl2 33 w.params os, (B3 w.params).2) := by intro w os; kernel_rfl
set_option maxHeartbeats 0 in
theorem e_2 : ∀ (w : World) (os : OsState), goT w (45 * 31) (Sl2 33 w.params os) (B3 w.params).2 = some (Sl2 64 w.params os, (B3 w.params).2) := by intro w os; kernel_rfl
set_option maxHeartbeats 0 in
theorem e_3 : ∀ (w : World) (os : OsState), goT w (45 * 31) (Sl2 64 w.params os) (B3 w.params).2 = some (Sl2 95 w.params os, (B3 w.params).2) := by intro w os; kernel_rfl
noncomputable def B4 (P : Params) : SharedT × Thread := (goT (wOf P) 1733 (Sl2 95 P os0) (B3 P).2).getD (S0 P os0, th0)
noncomputable def T1 (P : Params) : BT := (B4 P).1.tree
set_option maxHeartbeats 0 in
theorem f_1 (w : World) : ∀ os : OsState, goT w 1733 (Sl2 95 w.params os) (B3 w.params).2 = some (⟨T1 w.params, 295, {}, #[], {}, 2192, os⟩, (B4 w.params).2) :=
 byRow2 "special-get-raises" (P := fun w => ∀ os : OsState, goT w 1733 (Sl2 95 w.params os) (B3 w.params).2 = some (⟨T1 w.params, 295, {}, #[], {}, 2192, os⟩, (B4 w.params).2)) (by intro w os; kernel_rfl) (by intro w os; kernel_rfl) w
@[irreducible] noncomputable def qv : Program := view PT [0, 44]
noncomputable def loose : List Str := (["_wall", "_twin_re_1", "_QUOPRI_MAP", "_QUOPRI_HEADER_MAP", "_QUOPRI_BODY_MAP", "ascii_lowercase", "ascii_uppercase", "ascii_letters", "digits", "unquote", "quote", "_QUOPRI_BODY_ENCODE_MAP", "_unquote_match", "header_decode", "_buffer", "_truth", "_B64", "b2a_base64", "b64encode"] : List Str) ++ (["_NODE_OUT", "_NODE_DONE", "_NodeInfo", "CycleError", "TopologicalSorter", "_law_drawn", "_law_by_hand", "_law_plan", "_law_needs", "_law_encoded", "_law_read", "_law_put", "_law_run", "_law_there_and_back"] : List Str)
@[irreducible] noncomputable def H0 (P : Params) : Heap := absHeap (T0 P) 28 {}
@[irreducible] noncomputable def H1 (P : Params) : Heap := absHeap (T1 P) 295 {}
noncomputable def codeOk (h : Heap) (cd : Addr) (q : Str) : Bool := match h.get? cd with
 | some o => match o.data with
  | .fields vs => match (vs[1]? : Option Value) with
   | some (.str s _) => s == q
   | _ => false
  | _ => false
 | none => false
theorem codeRec_of {h : Heap} {cd : Addr} {q : Str} (x : codeOk h cd q = true) : h.CodeRec (.ref cd) q := by
 unfold codeOk at x
 cases ho : h.get? cd with
 | none => rw [ho] at x; cases x
 | some o =>
  rw [ho] at x
  dsimp only at x
  cases hd : o.data with
  | fields vs =>
   rw [hd] at x
   dsimp only at x
   cases hv : vs[1]? with
   | none => rw [hv] at x; cases x
   | some v =>
    rw [hv] at x
    cases v with
    | str s t => exact ⟨cd, o, vs, t, rfl, ho, hd, by rw [hv, beq_iff_eq.mp x]⟩
    | _ => cases x
  | _ => rw [hd] at x; cases x
noncomputable def fnAs : List Addr := [66, 73, 85, 92, 99, 106, 114, 122, 137, 174, 181, 188, 193, 200, 207, 221, 228, 247, 252, 257, 262, 267, 272, 277, 282, 287, 294]
noncomputable def fnOs (p : Program) : List (Option Obj) := [some (fnObj (fd_unquote p)), some (fnObj (fd_quote p)), some (fnObj (fd_unquote_match p)), some (fnObj (fd_header_decode p)), some (fnObj (fd_buffer p)), some (fnObj (fd_truth p)), some (fnObj (fd_b2a p)), some (fnObj (fd_b64encode p)), some (fnObj (fd_ni_init p)), some (fnObj (fd_ts_init p)), some (fnObj (fd_get_nodeinfo p)), some (fnObj (fd_add p)), some (fnObj (fd_prepare p)), some (fnObj (fd_get_ready p)), some (fnObj (fd_is_active p)), some (fnObj (fd_done p)), some (fnObj (fd_find_cycle p)), some (fnObj (fd_drawn p)), some (fnObj (fd_by_hand p)), some (fnObj (fd_plan p)), some (fnObj (fd_needs p)), some (fnObj (fd_encoded p)), some (fnObj (fd_read p)), some (fnObj (fd_put p)), some (fnObj (fd_run p)), some (fnObj (fd_tab p)), some (fnObj (fd_law p))]
noncomputable def cdL (p : Program) : List (Addr × Str) := [(65, (fd_unquote p).qualname), (72, (fd_quote p).qualname), (84, (fd_unquote_match p).qualname), (91, (fd_header_decode p).qualname), (98, (fd_buffer p).qualname), (105, (fd_truth p).qualname), (113, (fd_b2a p).qualname), (121, (fd_b64encode p).qualname), (136, (fd_ni_init p).qualname), (173, (fd_ts_init p).qualname), (180, (fd_get_nodeinfo p).qualname), (187, (fd_add p).qualname), (192, (fd_prepare p).qualname), (199, (fd_get_ready p).qualname), (206, (fd_is_active p).qualname), (220, (fd_done p).qualname), (227, (fd_find_cycle p).qualname), (246, (fd_drawn p).qualname), (251, (fd_by_hand p).qualname), (256, (fd_plan p).qualname), (261, (fd_needs p).qualname), (266, (fd_encoded p).qualname), (271, (fd_read p).qualname), (276, (fd_put p).qualname), (281, (fd_run p).qualname), (286, (fd_tab p).qualname), (293, (fd_law p).qualname)]
noncomputable def cdOk (h : Heap) (p : Program) : Bool := (cdL p).all fun x => codeOk h x.1 x.2
noncomputable def glNs : List Str := ["_QUOPRI_MAP", "_twin_re_1", "_B64", "_NODE_OUT", "_NODE_DONE", "_NodeInfo", "TopologicalSorter", "unquote", "quote", "_unquote_match", "header_decode", "_buffer", "_truth", "b2a_base64", "b64encode", "_law_drawn", "_law_by_hand", "_law_plan", "_law_needs", "_law_encoded", "_law_read", "_law_put", "_law_run", "_law_there_and_back"]
noncomputable def glVs : List (Option Value) := [some (.ref 46), some (.ref 43), some (.bytes b64Arr 1916), some (.int (-1) 1946), some (.int (-2) 1949), some (.ref 141), some (.ref 238), some (.ref 66), some (.ref 73), some (.ref 85), some (.ref 92), some (.ref 99), some (.ref 106), some (.ref 114), some (.ref 122), some (.ref 247), some (.ref 252), some (.ref 257), some (.ref 262), some (.ref 267), some (.ref 272), some (.ref 277), some (.ref 282), some (.ref 287)]
noncomputable def biNs : List Str := ["len", "range", "list", "max", "chr", "ord", "sorted", "isinstance", "bytes", "tuple", "type", "bool", "int", "bytearray", "set", "iter", "StopIteration"]
noncomputable def biVs : List (Option Value × Option Value) := [(none, some (.builtin "len")), (none, some (.type "range")), (none, some (.type "list")), (none, some (.builtin "max")), (none, some (.builtin "chr")), (none, some (.builtin "ord")), (none, some (.builtin "sorted")), (none, some (.builtin "isinstance")), (none, some (.type "bytes")), (none, some (.type "tuple")), (none, some (.type "type")), (none, some (.type "bool")), (none, some (.type "int")), (none, some (.type "bytearray")), (none, some (.type "set")), (none, some (.builtin "iter")), (none, some (.type "StopIteration"))]
noncomputable def daAs : List Addr := [46, 42, 43, 115, 167, 142, 143, 144]
noncomputable def daOs : List (Option Obj) := [some (listObj qArr 256), some (tupObj (reCode.map fun i => Value.int i 0).toArray 0), some (reObj), some (tupObj #[.none] 0), some (tupObj #[.none] 0), some (slotD "node" 1979 2), some (slotD "npredecessors" 1981 1), some (slotD "successors" 1983 0)]
noncomputable def bare (o : Obj) : Obj := { o with slots := #[] }
noncomputable def bareD (o : Obj) : Obj := { o with data := .plain }
theorem pr1 {α β : Type} {a c : α} {b d : β} (h : (a, b) = (c, d)) : a = c := (Prod.mk.inj h).1
theorem pr2 {α β : Type} {a c : α} {b d : β} (h : (a, b) = (c, d)) : b = d := (Prod.mk.inj h).2
set_option maxHeartbeats 0 in
theorem h1_all : ∀ (w : World) (os : OsState), ((through (B4 w.params).2), ((staticsOk (importedModules PT.main.body) (H0 w.params) (H1 w.params) && namesBound PT (H1 w.params) && gensDone ⟨H1 w.params, #[], {}, 2192, os⟩ && laidKept (H0 w.params) (H1 w.params))), (PySem.W.Fast.tw4187177175401517315 qv loose (importedModules PT.main.body) (fun _ => true) true ⟨H1 w.params, #[], {}, 2192, os⟩), (((H1 w.params).isNs mainGlobals, (H1 w.params).nsMap mainGlobals "law")), (((H1 w.params).isNs mainGlobals && (H1 w.params).isNs builtinsNs && (H1 w.params).noLimitOk && cdOk (H1 w.params) PT)), (fnAs.map (H1 w.params).get?), (daAs.map (H1 w.params).get?), (glNs.map ((H1 w.params).nsMap mainGlobals)), (biNs.map (fun n => ((H1 w.params).nsMap mainGlobals n, (H1 w.params).nsMap builtinsNs n))), ((((H1 w.params).get? 141).map bare, ((H1 w.params).get? 238).map bare, ((H1 w.params).get? 107).map (fun o => (bareD o, match o.data with | .dict _ _ => true | _ => false)))), ([141, 140, 142, 143, 144, 238, 237, 137, 174, 181, 188, 193, 200, 207, 221, 228].map (H1 w.params).get?)) = ((true), (true), (openGood qv loose), ((true, some (.ref 294))), (true), (fnOs PT), (daOs), (glVs), (biVs), ((some { cls := .type "type", data := .cls niCls }, some { cls := .type "type", data := .cls tsCls }, some ({ cls := .type "dict" }, true))), ((Kts w.params PT).map (fun p => some p.2))) := by intro w os; kernel_rfl
theorem thr (w : World) : through (B4 w.params).2 = true := pr1 (h1_all w os0)
theorem look_a (w : World) (os : OsState) : (staticsOk (importedModules PT.main.body) (H0 w.params) (H1 w.params) && namesBound PT (H1 w.params) && gensDone ⟨H1 w.params, #[], {}, 2192, os⟩ && laidKept (H0 w.params) (H1 w.params)) = true := pr1 (pr2 (h1_all w os))
theorem look_b (w : World) (os : OsState) : PySem.W.Fast.tw4187177175401517315 qv loose (importedModules PT.main.body) (fun _ => true) true ⟨H1 w.params, #[], {}, 2192, os⟩ = openGood qv loose := pr1 (pr2 (pr2 (h1_all w os)))
theorem law_at (w : World) : ((H1 w.params).isNs mainGlobals, (H1 w.params).nsMap mainGlobals "law") = (true, some (.ref 294)) := pr1 (pr2 (pr2 (pr2 (h1_all w os0))))
theorem h1_a (w : World) : ((H1 w.params).isNs mainGlobals && (H1 w.params).isNs builtinsNs && (H1 w.params).noLimitOk && cdOk (H1 w.params) PT) = true := pr1 (pr2 (pr2 (pr2 (pr2 (h1_all w os0)))))
theorem h1_b (w : World) : fnAs.map (H1 w.params).get? = fnOs PT := pr1 (pr2 (pr2 (pr2 (pr2 (pr2 (h1_all w os0))))))
theorem h1_c (w : World) : daAs.map (H1 w.params).get? = daOs := pr1 (pr2 (pr2 (pr2 (pr2 (pr2 (pr2 (h1_all w os0)))))))
theorem h1_d (w : World) : glNs.map ((H1 w.params).nsMap mainGlobals) = glVs := pr1 (pr2 (pr2 (pr2 (pr2 (pr2 (pr2 (pr2 (h1_all w os0))))))))
theorem h1_e (w : World) : biNs.map (fun n => ((H1 w.params).nsMap mainGlobals n, (H1 w.params).nsMap builtinsNs n)) = biVs := pr1 (pr2 (pr2 (pr2 (pr2 (pr2 (pr2 (pr2 (pr2 (h1_all w os0)))))))))
theorem h1_f (w : World) : (((H1 w.params).get? 141).map bare, ((H1 w.params).get? 238).map bare, ((H1 w.params).get? 107).map (fun o => (bareD o, match o.data with | .dict _ _ => true | _ => false))) = (some { cls := .type "type", data := .cls niCls }, some { cls := .type "type", data := .cls tsCls }, some ({ cls := .type "dict" }, true)) := pr1 (pr2 (pr2 (pr2 (pr2 (pr2 (pr2 (pr2 (pr2 (pr2 (h1_all w os0))))))))))
theorem h1_g (w : World) : [141, 140, 142, 143, 144, 238, 237, 137, 174, 181, 188, 193, 200, 207, 221, 228].map (H1 w.params).get? = (Kts w.params PT).map (fun p => some p.2) := pr2 (pr2 (pr2 (pr2 (pr2 (pr2 (pr2 (pr2 (pr2 (pr2 (h1_all w os0))))))))))
theorem topRun_mono {tb : String -> Option Builtin} {p : Program} {w : World} {n₀ : Nat} {ann : Option Value} (k : Nat) : ∀ (n : Nat) (s : Shared) (t : Thread) (r : Shared), topRun tb p w n₀ ann n s t = some r -> topRun tb p w n₀ ann (n + k) s t = some r
 | 0, s, t, r, h => by simp [topRun] at h
 | n + 1, s, t, r, h => by
  rw [show n + 1 + k = n + k + 1 by lia]
  unfold topRun at h ⊢
  cases ht : through t with
  | true => rw [ht] at h; exact h
  | false =>
   rw [ht] at h
   dsimp only at h ⊢
   cases ho : stepOk n₀ ann t with
   | false => rw [ho] at h; cases h
   | true =>
    rw [ho] at h
    dsimp only at h ⊢
    cases hs : step (denote tb) p w s t with
    | halt o s' => rw [hs] at h; cases h
    | go s' t' => rw [hs] at h; exact topRun_mono k n s' t' r h
theorem top_stop {tb : String -> Option Builtin} {p : Program} {w : World} {n₀ : Nat} {ann : Option Value} (s : Shared) (t : Thread) (h : through t = true) : topRun tb p w n₀ ann 1 s t = some s := by
 unfold topRun; rw [h]
theorem top_end (w : World) (os : OsState) : topRun treeTable PT w 28 (some (.ref 6)) 1 (SharedT.abs ⟨T1 w.params, 295, {}, #[], {}, 2192, os⟩) (B4 w.params).2 = some (SharedT.abs ⟨T1 w.params, 295, {}, #[], {}, 2192, os⟩) :=
 top_stop _ _ (thr w)
noncomputable def Mt : Nat := 37 * 64 + (37 * 64 + (37 * 64 + (37 * 63 + (224 + (45 * 33 + (45 * 33 + (96 + (45 * 32 + (45 * 31 + (45 * 31 + (1733 + 1)))))))))))
theorem top_tail (w : World) (os : OsState) : topRun treeTable PT w 28 (some (.ref 6)) Mt (Sc 1 w.params os).abs (Th w.params) = some (SharedT.abs ⟨T1 w.params, 295, {}, #[], {}, 2192, os⟩) :=
 go_top (goT_spec w (c_1 w os)) (go_top (goT_spec w (c_2 w os)) (go_top (goT_spec w (c_3 w os)) (go_top (goT_spec w (c_4 w os)) (go_top (goT_spec w (b_2 w os)) (go_top (goT_spec w (d_1 w os)) (go_top (goT_spec w (d_2 w os))
  (go_top (goT_spec w (b_3 w os)) (go_top (goT_spec w (e_1 w os)) (go_top (goT_spec w (e_2 w os)) (go_top (goT_spec w (e_3 w os)) (go_top (goT_spec w (f_1 w os)) (top_end w os))))))))))))
noncomputable def Mtop : Nat := 208 + Mt
theorem Mtop_eq : Mtop = (198 + Mt) + 10 := by unfold Mtop; lia
theorem top_run (w : World) : ∀ os : OsState, topRun treeTable PT w 28 (some (.ref 6)) Mtop (S0 w.params os).abs (topStub PT) = some (SharedT.abs ⟨T1 w.params, 295, {}, #[], {}, 2192, os⟩) :=
 byRow2 "comprehension-iter-twice" (P := fun w => ∀ os : OsState, topRun treeTable PT w 28 (some (.ref 6)) Mtop (S0 w.params os).abs (topStub PT) = some (SharedT.abs ⟨T1 w.params, 295, {}, #[], {}, 2192, os⟩))
  (fun w => byRow2 "special-get-raises" (P := fun w => ∀ os : OsState, topRun treeTable PT (w.withFollow "comprehension-iter-twice" false) 28 (some (.ref 6)) Mtop (S0 (w.withFollow "comprehension-iter-twice" false).params os).abs (topStub PT) = some (SharedT.abs ⟨T1 (w.withFollow "comprehension-iter-twice" false).params, 295, {}, #[], {}, 2192, os⟩))
   (fun w os => go_top (goT_spec _ (a_ff w os)) (top_tail _ os)) (fun w os => go_top (goT_spec _ (a_tf w os)) (top_tail _ os)) w)
  (fun w => byRow2 "special-get-raises" (P := fun w => ∀ os : OsState, topRun treeTable PT (w.withFollow "comprehension-iter-twice" true) 28 (some (.ref 6)) Mtop (S0 (w.withFollow "comprehension-iter-twice" true).params os).abs (topStub PT) = some (SharedT.abs ⟨T1 (w.withFollow "comprehension-iter-twice" true).params, 295, {}, #[], {}, 2192, os⟩))
   (fun w os => Mtop_eq ▸ topRun_mono 10 _ _ _ _ (go_top (goT_spec _ (a_ft w os)) (top_tail _ os))) (fun w os => Mtop_eq ▸ topRun_mono 10 _ _ _ _ (go_top (goT_spec _ (a_tt w os)) (top_tail _ os))) w) w
theorem size_ok' (w : World) : ((H0 w.params).isNs mainGlobals && (#[] : Array GenState).size == 0, (H0 w.params).objs.size, (H0 w.params).nsMap mainGlobals "__annotations__") = (true, 28, some (.ref 6)) := by
 unfold H0; exact size_ok w
theorem open_ok' (w : World) : (fencedOpening treeTable PT w 20000).map (fun s => (s.heap, s.gens, s.drawn, s.toks)) = some (H0 w.params, #[], {}, 276) := by
 rw [opn_eq]; unfold H0; exact open_ok w
theorem top_run' (w : World) (os : OsState) : topRun treeTable PT w 28 (some (.ref 6)) Mtop ⟨H0 w.params, #[], {}, 276, os⟩ (topStub PT) = some ⟨H1 w.params, #[], {}, 2192, os⟩ := by
 have h := top_run w os
 rw [show (S0 w.params os).abs = ⟨H0 w.params, #[], {}, 276, os⟩ from by kernel_rfl, show SharedT.abs ⟨T1 w.params, 295, {}, #[], {}, 2192, os⟩ = ⟨H1 w.params, #[], {}, 2192, os⟩ from by kernel_rfl] at h
 exact h
theorem le_ok : Nat.ble Mtop 20000 = true := Nat.ble_eq_true_of_le (by unfold Mtop Mt; lia)
theorem looks_ok (w : World) : (fun os => ((staticsOk (importedModules PT.main.body) (H0 w.params) (H1 w.params) && namesBound PT (H1 w.params) && gensDone ⟨H1 w.params, #[], {}, 2192, os⟩ && laidKept (H0 w.params) (H1 w.params)),
    openSeen qv loose (importedModules PT.main.body) (fun _ => true) true ⟨H1 w.params, #[], {}, 2192, os⟩, (fun s : Shared => s.heap) ⟨H1 w.params, #[], {}, 2192, os⟩)) = fun _ => (true, openGood qv loose, H1 w.params) := by
 funext os
 have a := look_a w os
 have b : openSeen qv loose (importedModules PT.main.body) (fun _ => true) true ⟨H1 w.params, #[], {}, 2192, os⟩ = openGood qv loose := by
  rw [PySem.W.Fast.te4187177175401517315]; exact look_b w os
 rw [a, b]
theorem left0 : LeftO PT qv loose (fun _ => true) (fun s => s.heap) (fun w => H1 w.params) 20000 :=
 LeftO.of_pieces (H₀ := H0) (H₁ := H1) (gs₀ := #[]) (gs₁ := #[]) (d₀ := {}) (d₁ := {}) (k₀ := 276) (k₁ := 2192) (m₀ := 28) (ann := some (.ref 6)) (M := Mtop) open_ok' size_ok' top_run' le_ok looks_ok
theorem left1 : LeftO PySem.Challenge.pw_op0165_01 (view PySem.Challenge.pw_op0165_01 [0, 44]) loose (fun _ => true) (fun s => s.heap) (fun w => H1 w.params) 20000 := by
 have h := left0
 unfold qv at h
 rw [<- pt_eq] at h
 exact h
def Topped (w : World) (h : Heap) : Prop := ∀ b o, (H1 w.params).get? b = some o -> h.get? b = some o
theorem ns_same {h : Heap} {a : Addr} {m m' : Str -> Option Value} (x : h.Ns a m) (y : h.Ns a m') (n : Str) : m n = m' n := by
 obtain ⟨o1, es1, ep1, ho1, hd1, _, hf1⟩ := x
 obtain ⟨o2, es2, ep2, ho2, hd2, _, hf2⟩ := y
 rw [ho1] at ho2; cases ho2
 rw [hd1] at hd2; cases hd2
 rw [<- hf1, <- hf2]
noncomputable def intOf : WData -> Int
 | .int i => i
 | _ => 0
theorem one_int {x : WData} (h : WShape.has [] x .int = true) : x = .int (intOf x) := by
 cases x with
 | int i => rfl
 | _ => exact absurd (show false = true from h) Bool.false_ne_true
theorem all_ints : ∀ {xs : List WData}, WShape.hasItems [] xs .int = true -> xs = (xs.map intOf).map .int
 | [], _ => rfl
 | x :: xs, h => by
  obtain ⟨h1, h2⟩ := Bool.and_eq_true_iff.mp (show (WShape.has [] x .int && WShape.hasItems [] xs .int) = true from h)
  rw [List.map_cons, List.map_cons, <- one_int h1, <- all_ints h2]
theorem shape_of {args : List WData} (h : WShape.hasAll [] args [.list .int] = true) : ∃ xs : List Int, args = [.list (xs.map .int)] := by
 cases args with
 | nil => exact absurd (show false = true from h) Bool.false_ne_true
 | cons d r =>
  obtain ⟨h1, h2⟩ := Bool.and_eq_true_iff.mp (show (WShape.has [] d (.list .int) && WShape.hasAll [] r []) = true from h)
  cases r with
  | cons _ _ => exact absurd (show false = true from h2) Bool.false_ne_true
  | nil =>
   cases d with
   | list xs =>
    have h3 : (WShape.hasItems [] xs .int || false) = true := h1
    rw [Bool.or_false] at h3
    exact ⟨_, congrArg (fun l => [WData.list l]) (all_ints h3)⟩
   | _ => exact absurd (show false = true from h1) Bool.false_ne_true
theorem well_ints {P : Params} {h : Heap} : ∀ {ns : List Int} {vs : List Value}, WellAll P h vs (ns.map .int) -> ∃ ts : List Tok, vs = List.zipWith (fun i t => Value.int i t) ns ts /\ ts.length = ns.length
 | [], vs, x => by cases x; exact ⟨[], rfl, rfl⟩
 | n :: ns, vs, x => by
  cases x with
  | cons a b =>
   cases a
   obtain ⟨ts, rfl, e⟩ := well_ints b
   rename_i t
   exact ⟨t :: ts, rfl, by simp [e]⟩
theorem map_at {α β : Type} {f : α -> β} {xs : List α} {ys : List β} (h : xs.map f = ys) (i : Nat) {a : α} {b : β} (ha : xs[i]? = some a) (hb : ys[i]? = some b) : f a = b := by
 have : (xs.map f)[i]? = some b := by rw [h]; exact hb
 rw [List.getElem?_map, ha] at this
 exact Option.some.inj this
theorem slots_of {h : Heap} {a : Addr} {c : Value} {d : Data} (e : (h.get? a).map bare = some { cls := c, data := d }) : ∃ sl, h.get? a = some { cls := c, data := d, slots := sl } := by
 cases q : h.get? a with
 | none => rw [q] at e; cases e
 | some o =>
  rw [q] at e
  obtain ⟨c', d', dt, sl⟩ := o
  have e' := Option.some.inj e
  unfold bare at e'
  injection e' with e1 e2 e3 e4
  subst e1 e2 e3
  exact ⟨sl, rfl⟩
theorem grd {w : World} {h : Heap} (T : Topped w h) : Grd PySem.Challenge.pw_op0165_01 h := by
 rw [pt_eq]
 have f1 := h1_a w
 have f2 := h1_b w
 have f3 := h1_c w
 have f4 := h1_d w
 have f5 := h1_e w
 have f6 : ((H1 w.params).get? 141).map bare = some { cls := .type "type", data := .cls niCls } := congrArg (·.1) (h1_f w)
 have f7 : ((H1 w.params).get? 238).map bare = some { cls := .type "type", data := .cls tsCls } := congrArg (·.2.1) (h1_f w)
 have f8 : ((H1 w.params).get? 107).map (fun o => (bareD o, match o.data with | .dict _ _ => true | _ => false)) = some ({ cls := .type "dict" }, true) := congrArg (·.2.2) (h1_f w)
 simp only [Bool.and_eq_true] at f1
 have ng := Heap.Ns.of_isNs f1.1.1.1
 have nb := Heap.Ns.of_isNs f1.1.1.2
 have gt : ∀ x v, (H1 w.params).nsMap mainGlobals x = some v -> GlobIs h x v := fun x v e => .inl ⟨_, ng.keeps T, e⟩
 have gb : ∀ x v, ((H1 w.params).nsMap mainGlobals x, (H1 w.params).nsMap builtinsNs x) = (none, some v) -> GlobIs h x v := fun x v e => .inr ⟨_, _, ng.keeps T, congrArg (·.1) e, nb.keeps T, congrArg (·.2) e⟩
 obtain ⟨⟨⟨_, _⟩, hlim⟩, hcd⟩ := f1
 have fn : ∀ (i : Nat) {a cd : Addr} {fd : FuncData} {q : Str}, fnAs[i]? = some a -> (fnOs PT)[i]? = some (some (fnObj fd)) -> (cdL PT)[i]? = some (cd, q) -> fd.code = .ref cd -> fd.qualname = q -> FnAt h a fd := fun i a cd fd q e1 e2 e3 e4 e5 => ⟨T _ _ (map_at f2 i e1 e2), by rw [e4, e5]; exact (codeRec_of (List.all_eq_true.mp hcd _ (List.mem_of_getElem? e3))).keeps T⟩
 exact {
  lim := (Heap.NoLimit.of_ok hlim).keeps T
  unquote := fn 0 rfl rfl rfl rfl rfl
  quote := fn 1 rfl rfl rfl rfl rfl
  unquote_match := fn 2 rfl rfl rfl rfl rfl
  header_decode := fn 3 rfl rfl rfl rfl rfl
  buffer := fn 4 rfl rfl rfl rfl rfl
  truth := fn 5 rfl rfl rfl rfl rfl
  b2a := fn 6 rfl rfl rfl rfl rfl
  b64encode := fn 7 rfl rfl rfl rfl rfl
  ni_init := fn 8 rfl rfl rfl rfl rfl
  ts_init := fn 9 rfl rfl rfl rfl rfl
  get_nodeinfo := fn 10 rfl rfl rfl rfl rfl
  add := fn 11 rfl rfl rfl rfl rfl
  prepare := fn 12 rfl rfl rfl rfl rfl
  get_ready := fn 13 rfl rfl rfl rfl rfl
  is_active := fn 14 rfl rfl rfl rfl rfl
  done := fn 15 rfl rfl rfl rfl rfl
  find_cycle := fn 16 rfl rfl rfl rfl rfl
  drawn := fn 17 rfl rfl rfl rfl rfl
  by_hand := fn 18 rfl rfl rfl rfl rfl
  plan := fn 19 rfl rfl rfl rfl rfl
  needs := fn 20 rfl rfl rfl rfl rfl
  encoded := fn 21 rfl rfl rfl rfl rfl
  read := fn 22 rfl rfl rfl rfl rfl
  put := fn 23 rfl rfl rfl rfl rfl
  run := fn 24 rfl rfl rfl rfl rfl
  tab := fn 25 rfl rfl rfl rfl rfl
  law := fn 26 rfl rfl rfl rfl rfl
  g_QUOPRI_MAP := gt _ _ (map_at f4 0 rfl rfl)
  g_twin_re_1 := gt _ _ (map_at f4 1 rfl rfl)
  g_B64 := gt _ _ (map_at f4 2 rfl rfl)
  g_NODE_OUT := gt _ _ (map_at f4 3 rfl rfl)
  g_NODE_DONE := gt _ _ (map_at f4 4 rfl rfl)
  g_NodeInfo := gt _ _ (map_at f4 5 rfl rfl)
  g_TopologicalSorter := gt _ _ (map_at f4 6 rfl rfl)
  g_unquote := gt _ _ (map_at f4 7 rfl rfl)
  g_quote := gt _ _ (map_at f4 8 rfl rfl)
  g_unquote_match := gt _ _ (map_at f4 9 rfl rfl)
  g_header_decode := gt _ _ (map_at f4 10 rfl rfl)
  g_buffer := gt _ _ (map_at f4 11 rfl rfl)
  g_truth := gt _ _ (map_at f4 12 rfl rfl)
  g_b2a_base64 := gt _ _ (map_at f4 13 rfl rfl)
  g_b64encode := gt _ _ (map_at f4 14 rfl rfl)
  g_law_drawn := gt _ _ (map_at f4 15 rfl rfl)
  g_law_by_hand := gt _ _ (map_at f4 16 rfl rfl)
  g_law_plan := gt _ _ (map_at f4 17 rfl rfl)
  g_law_needs := gt _ _ (map_at f4 18 rfl rfl)
  g_law_encoded := gt _ _ (map_at f4 19 rfl rfl)
  g_law_read := gt _ _ (map_at f4 20 rfl rfl)
  g_law_put := gt _ _ (map_at f4 21 rfl rfl)
  g_law_run := gt _ _ (map_at f4 22 rfl rfl)
  g_law_there_and_back := gt _ _ (map_at f4 23 rfl rfl)
  g_len := gb _ _ (map_at (f := fun n => ((H1 w.params).nsMap mainGlobals n, (H1 w.params).nsMap builtinsNs n)) f5 0 rfl rfl)
  g_range := gb _ _ (map_at (f := fun n => ((H1 w.params).nsMap mainGlobals n, (H1 w.params).nsMap builtinsNs n)) f5 1 rfl rfl)
  g_list := gb _ _ (map_at (f := fun n => ((H1 w.params).nsMap mainGlobals n, (H1 w.params).nsMap builtinsNs n)) f5 2 rfl rfl)
  g_max := gb _ _ (map_at (f := fun n => ((H1 w.params).nsMap mainGlobals n, (H1 w.params).nsMap builtinsNs n)) f5 3 rfl rfl)
  g_chr := gb _ _ (map_at (f := fun n => ((H1 w.params).nsMap mainGlobals n, (H1 w.params).nsMap builtinsNs n)) f5 4 rfl rfl)
  g_ord := gb _ _ (map_at (f := fun n => ((H1 w.params).nsMap mainGlobals n, (H1 w.params).nsMap builtinsNs n)) f5 5 rfl rfl)
  g_sorted := gb _ _ (map_at (f := fun n => ((H1 w.params).nsMap mainGlobals n, (H1 w.params).nsMap builtinsNs n)) f5 6 rfl rfl)
  g_isinstance := gb _ _ (map_at (f := fun n => ((H1 w.params).nsMap mainGlobals n, (H1 w.params).nsMap builtinsNs n)) f5 7 rfl rfl)
  g_bytes := gb _ _ (map_at (f := fun n => ((H1 w.params).nsMap mainGlobals n, (H1 w.params).nsMap builtinsNs n)) f5 8 rfl rfl)
  g_tuple := gb _ _ (map_at (f := fun n => ((H1 w.params).nsMap mainGlobals n, (H1 w.params).nsMap builtinsNs n)) f5 9 rfl rfl)
  g_type := gb _ _ (map_at (f := fun n => ((H1 w.params).nsMap mainGlobals n, (H1 w.params).nsMap builtinsNs n)) f5 10 rfl rfl)
  g_bool := gb _ _ (map_at (f := fun n => ((H1 w.params).nsMap mainGlobals n, (H1 w.params).nsMap builtinsNs n)) f5 11 rfl rfl)
  g_int := gb _ _ (map_at (f := fun n => ((H1 w.params).nsMap mainGlobals n, (H1 w.params).nsMap builtinsNs n)) f5 12 rfl rfl)
  g_bytearray := gb _ _ (map_at (f := fun n => ((H1 w.params).nsMap mainGlobals n, (H1 w.params).nsMap builtinsNs n)) f5 13 rfl rfl)
  g_set := gb _ _ (map_at (f := fun n => ((H1 w.params).nsMap mainGlobals n, (H1 w.params).nsMap builtinsNs n)) f5 14 rfl rfl)
  g_iter := gb _ _ (map_at (f := fun n => ((H1 w.params).nsMap mainGlobals n, (H1 w.params).nsMap builtinsNs n)) f5 15 rfl rfl)
  g_StopIteration := gb _ _ (map_at (f := fun n => ((H1 w.params).nsMap mainGlobals n, (H1 w.params).nsMap builtinsNs n)) f5 16 rfl rfl)
  qmap := T _ _ (map_at f3 0 rfl rfl)
  recode := T _ _ (map_at f3 1 rfl rfl)
  reobj := T _ _ (map_at f3 2 rfl rfl)
  dfl64 := T _ _ (map_at f3 3 rfl rfl)
  dflts := T _ _ (map_at f3 4 rfl rfl)
  sl_node := T _ _ (map_at f3 5 rfl rfl)
  sl_np := T _ _ (map_at f3 6 rfl rfl)
  sl_succ := T _ _ (map_at f3 7 rfl rfl)
  nicls := let ⟨sl, e⟩ := slots_of f6; ⟨sl, T _ _ e⟩
  tscls := let ⟨sl, e⟩ := slots_of f7; ⟨sl, T _ _ e⟩
  frag := ⟨w.params, (PySem.W.Frag.in_of rfl (h1_g w)).keeps T⟩
  kwd := by
   cases q : (H1 w.params).get? 107 with
   | none => rw [q] at f8; cases f8
   | some o =>
    rw [q] at f8
    obtain ⟨c', d', dt, sl⟩ := o
    have e' := Option.some.inj f8
    have e1 := congrArg (·.1) e'
    have e2 := congrArg (·.2) e'
    unfold bareD at e1
    dsimp only at e1 e2
    injection e1 with a1 a2 a3 a4
    subst a1 a2 a4
    cases dt with
    | dict es ep => exact ⟨es, ep, T _ _ q⟩
    | _ => cases e2 }
theorem pre_len {ns : List Int} (h : PySem.Challenge.rw_op0165_01.row.toRowW.claim.pre [.list (ns.map .int)] = true) : ns.length <= 63 := by
 have h2 := (Bool.and_eq_true_iff.mp h).2
 by_cases q : ns.length <= 63
 ·exact q
 ·exfalso
  have : WTm.holds [] PySem.Challenge.rw_op0165_01.row.toRowW.pre { args := [.list (ns.map .int)] } = true := h2
  unfold WTm.holds at this
  revert this
  show ¬ ((match WTm.value [] (.and (.not (.lt (.lit (.int 63)) (.len (.arg 0)))) (.lit (.bool true))) { args := [.list (ns.map .int)] } with | some (.bool true) => true | _ => false) = true)
  have hl : (63 : Int) < (ns.length : Int) := by lia
  simp [WTm.value, less?, Num.less?, hl]
theorem good_end {cl : Str -> Option Addr} {mean : ExcName -> Option Value} {args : List WData} {s s' : Shared} (e : ∃ h' tk, s' = { s with heap := h', toks := tk }) (hk : ∀ b o, s.heap.get? b = some o -> s'.heap.get? b = some o) (hg : s.gens = #[]) :
  GoodWG PySem.Challenge.rw_op0165_01.row.toRowW.claim cl mean args s (.ok (.ret (.bool true))) s' := by
 obtain ⟨h', tk, rfl⟩ := e
 have hp : (WShape.has [] (WData.bool true) .bool && WTm.holds [] (.eq .res (.lit (.bool true))) { args := args, res := some (.bool true), after := args }) = true := by
  have h1 : WTm.value [] (.eq .res (.lit (.bool true))) { args := args, res := some (.bool true), after := args } = some (.bool true) := by
   simp only [WTm.value]
   rw [show same (WData.bool true) (WData.bool true) = true from by decide +kernel]
  rw [WTm.holds, h1]
  rfl
 exact GoodW.toG ⟨.inl ⟨.bool true, .bool true, [], rfl, fun _ => rfl, .bool true, hp, fun _ => ⟨List.nodup_nil, fun _ q => nomatch q⟩⟩, hk, rfl, hg⟩
set_option maxHeartbeats 0 in
theorem said_q : PySem.W.Fast.tw9446332074065402090 PySem.Challenge.rw_op0165_01 = true := by kernel_rfl
theorem said_ok : OpenLaw.wellSaid PySem.Challenge.rw_op0165_01 = true := by rw [PySem.W.Fast.te9446332074065402090]; exact said_q
set_option maxHeartbeats 4000000 in
theorem head (walk : ∀ (w : World) (s : Shared), Topped w s.heap -> s.gens = #[] -> ∀ (l : Addr) (ns : List Int) (ts : List Tok), s.heap.get? l = some { cls := .type "list", data := .seq (List.zipWith (fun i t => Value.int i t) ns ts).toArray } -> ts.length = ns.length -> ns.length <= 63 ->
   wpAny (model PySem.Challenge.pw_op0165_01 w) callerA (PySem.call (.ref 294) [.ref l]) (fun v s' => v = .bool true /\ (∃ h' tk, s' = { s with heap := h', toks := tk }) /\ ∀ b o, s.heap.get? b = some o -> s'.heap.get? b = some o) (fun _ _ => False) s) :
  PySem.Challenge.rw_op0165_01.Holds := by
 refine holds_law said_ok fun said => ?_
 refine holds_open (q := view PySem.Challenge.pw_op0165_01 [0, 44]) (loose := loose) (Xt := fun _ => true) (XP := fun _ _ => True) (Yf := fun s => s.heap) (Ya := fun w => H1 w.params) (YP := fun w h => Topped w h) (N := 20000)
  left1 (fun w s e => by intro b o hb; exact e ▸ hb) (fun w h h' x k b o e => k b o (x b o e)) (fun _ _ => trivial) (fun _ _ _ _ _ => trivial) (by rfl) (by rfl) (by rfl) (fun s e => recFacts_nil rfl) (by rfl) (by first | assumption | decide +kernel) (by decide +kernel) ⟨rfl, rfl, rfl, rfl, rfl, by decide +kernel⟩ ?hw ?hc
 case hw => w_witness2
 case hc =>
  intro w s₀ s₁ mg mb G Y fa o pm cd doc dV kV ho hd hcd hD hmg hg args vals as hpre hlay hrd hwl hlo
  have e1 := law_at w
  have en : (H1 w.params).isNs mainGlobals = true := congrArg Prod.fst e1
  have em : (H1 w.params).nsMap mainGlobals "law" = some (.ref 294) := congrArg Prod.snd e1
  have n1 : s₁.heap.Ns mainGlobals ((H1 w.params).nsMap mainGlobals) := (Heap.Ns.of_isNs en).keeps Y
  have hmg' : mg "law" = some (.ref fa) := hmg
  have e2 : mg "law" = (H1 w.params).nsMap mainGlobals "law" := ns_same G.T.g n1 "law"
  rw [hmg', em] at e2
  cases e2
  clear hmg hD hcd hd ho
  obtain ⟨ns, rfl⟩ := shape_of (Bool.and_eq_true_iff.mp hpre).1
  have hlen := pre_len hpre
  cases hwl with
  | cons a b =>
   cases b
   cases a with
   | list hobj hall =>
    obtain ⟨ts, rfl, et⟩ := well_ints hall
    refine wpAny_mono (walk w s₁ Y hg _ ns ts hobj et hlen) (fun v s' q => ?_) (fun _ _ q => q.elim)
    obtain ⟨rfl, e, hk⟩ := q
    exact good_end e hk hg
end
theorem the_walk (w : World) (s : Shared) (T : Topped w s.heap) (hg : s.gens = #[]) (l : Addr) (ns : List Int) (ts : List Tok) (hl : s.heap.get? l = some { cls := .type "list", data := .seq (List.zipWith (fun i t => Value.int i t) ns ts).toArray }) (ht : ts.length = ns.length) (hn : ns.length <= 63) :
  wpAny (model PySem.Challenge.pw_op0165_01 w) callerA (PySem.call (.ref 294) [.ref l]) (fun v s' => v = .bool true /\ (∃ h' tk, s' = { s with heap := h', toks := tk }) /\ ∀ b o, s.heap.get? b = some o -> s'.heap.get? b = some o) (fun _ _ => False) s :=
 w_law (grd T) (by decide) (by decide) rfl rfl hl ht hn fun s' ex hk => ⟨rfl, ex, hk⟩
end Mine
theorem PySem.Challenge.cw_op0165_01_holds : PySem.Challenge.rw_op0165_01.Holds :=
  Mine.head Mine.the_walk
