import PyProof.Rows.All
import Wide.All
import OpenK.AllK
import Wide.FinOn
import PySem.Challenge.RW_xi0009_01
open PySem PySem.W PyProof.Rows
set_option Elab.async false
set_option maxRecDepth 100000
set_option linter.all false

namespace Nw
set_option tactic.hygienic false

/-- plain values -/
inductive PV where
  | none
  | bool (b : Bool)
  | int (i : Int)
  | str (s : Str)
  | tup (xs : List PV)
  | list (xs : List PV)
  | rng (lo hi : Int)
  | qn (s : Str)

noncomputable abbrev FM := Addr → Option Obj
noncomputable def FM.le (F G : FM) : Prop := ∀ a o, F a = some o → G a = some o
theorem FM.le.refl (F : FM) : F.le F := fun _ _ e => e
theorem FM.le.trans {F G H : FM} (x : F.le G) (y : G.le H) : F.le H := fun a o e => y a o (x a o e)
noncomputable def Sits (F : FM) (h : Heap) : Prop := ∀ a o, F a = some o → h.get? a = some o
noncomputable def Keep (h h' : Heap) : Prop := ∀ b o, h.get? b = some o → h'.get? b = some o
theorem Keep.refl (h : Heap) : Keep h h := fun _ _ e => e
theorem Keep.trans {h₁ h₂ h₃ : Heap} (x : Keep h₁ h₂) (y : Keep h₂ h₃) : Keep h₁ h₃ := fun b o e => y b o (x b o e)
theorem Keep.push (h : Heap) (o : Obj) : Keep h (h.push o) := fun _ _ e => Heap.get?_push_of_some _ e

inductive AtSeq (F : FM) (T : String) (P : List Value → Prop) (v : Value) : Prop
  | mk (a : Addr) (o : Obj) (vs : Array Value) (n : Nat) (e : v = .ref a) (e1 : F a = some o) (e2 : o.cls = .type T) (e3 : o.data = .seq vs n) (r : P vs.toList)
inductive AtRng (F : FM) (lo hi : Int) (v : Value) : Prop
  | mk (a : Addr) (t u w : Tok) (e : v = .ref a) (e1 : F a = some { cls := .type "range", dict := Option.none, data := .fields #[.int lo t, .int hi u, .int 1 w], slots := #[] })
inductive AtQn (qc : Addr) (F : FM) (x : Str) (v : Value) : Prop
  | mk (a dx : Addr) (t : Tok) (n : Nat) (h : Int) (k : Tok) (e : v = .ref a) (e1 : F a = some (instObj qc dx)) (e2 : F dx = some (dictOf [⟨h, .str (Str.ofString "text") k, .str x t⟩] n))
inductive AtCons (P : Value → Prop) (Q : List Value → Prop) (vs : List Value) : Prop
  | mk (v : Value) (ws : List Value) (e : vs = v :: ws) (r1 : P v) (r2 : Q ws)
section
variable (qc : Addr)
mutual
/-- the frozen part F of the heap bears the plain value at v -/
noncomputable def Rep (F : FM) : PV → Value → Prop
  | .none, v => v = .none
  | .bool b, v => v = .bool b
  | .int i, v => ∃ t, v = .int i t
  | .str s, v => ∃ t, v = .str s t
  | .tup ps, v => AtSeq F "tuple" (fun us => RepL F ps us) v
  | .list ps, v => AtSeq F "list" (fun us => RepL F ps us) v
  | .rng lo hi, v => AtRng F lo hi v
  | .qn x, v => AtQn qc F x v
noncomputable def RepL (F : FM) : List PV → List Value → Prop
  | [], vs => vs = []
  | p :: ps, vs => AtCons (fun v => Rep F p v) (fun ws => RepL F ps ws) vs
end

mutual
theorem Rep.mono {F G : FM} (h : F.le G) : ∀ {p : PV} {v : Value}, Rep qc F p v → Rep qc G p v
  | .none, _, r => r
  | .bool _, _, r => r
  | .int _, _, r => r
  | .str _, _, r => r
  | .tup _, _, r => by
    obtain ⟨a, o, vs, n, e, e1, e2, e3, e4⟩ := r
    exact ⟨a, o, vs, n, e, h _ _ e1, e2, e3, RepL.mono h e4⟩
  | .list _, _, r => by
    obtain ⟨a, o, vs, n, e, e1, e2, e3, e4⟩ := r
    exact ⟨a, o, vs, n, e, h _ _ e1, e2, e3, RepL.mono h e4⟩
  | .rng _ _, _, r => by
    obtain ⟨a, t, u, w, e, e1⟩ := r
    exact ⟨a, t, u, w, e, h _ _ e1⟩
  | .qn _, _, r => by
    obtain ⟨a, dx, t, n, hh, k, e, e1, e2⟩ := r
    exact ⟨a, dx, t, n, hh, k, e, h _ _ e1, h _ _ e2⟩
theorem RepL.mono {F G : FM} (h : F.le G) : ∀ {ps : List PV} {vs : List Value}, RepL qc F ps vs → RepL qc G ps vs
  | [], _, r => r
  | _ :: _, _, r => by
    obtain ⟨v, ws, e, r1, r2⟩ := r
    exact ⟨v, ws, e, Rep.mono h r1, RepL.mono h r2⟩
end
end

section
variable {qc : Addr} {F : FM}
theorem RepL.length : ∀ {ps : List PV} {vs : List Value}, RepL qc F ps vs → vs.length = ps.length
  | [], _, r => by cases r; rfl
  | _ :: ps, _, r => by
    obtain ⟨v, ws, rfl, _, r2⟩ := r
    simp [RepL.length r2]
theorem RepL.get : ∀ {ps : List PV} {vs : List Value} (_ : RepL qc F ps vs) (k : Nat) {p : PV}, ps[k]? = some p → ∃ v, vs[k]? = some v ∧ Rep qc F p v
  | [], _, _, k, p, e => by simp at e
  | q :: ps, _, r, k, p, e => by
    obtain ⟨v, ws, rfl, r1, r2⟩ := r
    cases k with
    | zero => simp at e; subst e; exact ⟨v, rfl, r1⟩
    | succ k => simpa using RepL.get r2 k (by simpa using e)
theorem RepL.getV : ∀ {ps : List PV} {vs : List Value} (_ : RepL qc F ps vs) (k : Nat) {v : Value}, vs[k]? = some v → ∃ p, ps[k]? = some p ∧ Rep qc F p v
  | [], _, r, k, p, e => by cases r; simp at e
  | q :: ps, _, r, k, p, e => by
    obtain ⟨v, ws, rfl, r1, r2⟩ := r
    cases k with
    | zero => simp at e; subst e; exact ⟨q, rfl, r1⟩
    | succ k => simpa using RepL.getV r2 k (by simpa using e)
theorem RepL.append : ∀ {ps qs : List PV} {vs ws : List Value}, RepL qc F ps vs → RepL qc F qs ws → RepL qc F (ps ++ qs) (vs ++ ws)
  | [], _, _, _, r, r' => by cases r; exact r'
  | _ :: _, _, _, _, r, r' => by
    obtain ⟨v, vs, rfl, r1, r2⟩ := r
    exact ⟨v, vs ++ _, rfl, r1, RepL.append r2 r'⟩
theorem RepL.one {p : PV} {v : Value} (r : Rep qc F p v) : RepL qc F [p] [v] := ⟨v, [], rfl, r, rfl⟩
theorem RepL.take : ∀ {ps : List PV} {vs : List Value} (k : Nat), RepL qc F ps vs → RepL qc F (ps.take k) (vs.take k)
  | _, _, 0, _ => by simp [RepL]
  | [], _, _ + 1, r => by cases r; simp [RepL]
  | _ :: _, _, k + 1, r => by
    obtain ⟨v, vs, rfl, r1, r2⟩ := r
    exact ⟨v, vs.take k, by simp, r1, RepL.take k r2⟩
theorem RepL.drop : ∀ {ps : List PV} {vs : List Value} (k : Nat), RepL qc F ps vs → RepL qc F (ps.drop k) (vs.drop k)
  | _, _, 0, r => by simpa using r
  | [], _, _ + 1, r => by cases r; simp [RepL]
  | _ :: _, _, k + 1, r => by
    obtain ⟨v, vs, rfl, r1, r2⟩ := r
    simpa using RepL.drop k r2
end

mutual
noncomputable def toPy : PV → PyData
  | .none => .none
  | .bool b => .bool b
  | .int i => .int i
  | .str s => .str s
  | .tup xs => .tuple (toPys xs)
  | .list xs => .list (toPys xs)
  | .rng _ _ => .none
  | .qn _ => .none
noncomputable def toPys : List PV → List PyData
  | [] => []
  | x :: xs => toPy x :: toPys xs
end
mutual
noncomputable def isData : PV → Bool
  | .tup xs => isDatas xs
  | .list xs => isDatas xs
  | .rng _ _ => false
  | .qn _ => false
  | _ => true
noncomputable def isDatas : List PV → Bool
  | [] => true
  | x :: xs => isData x && isDatas xs
end
mutual
theorem Rep.reads {qc : Addr} {F : FM} {h : Heap} (st : Sits F h) : ∀ {p : PV} {v : Value}, isData p = true → Rep qc F p v → ∃ as, Reads h v (toPy p) as
  | .none, _, _, r => by cases r; exact ⟨[], .none⟩
  | .bool b, _, _, r => by cases r; exact ⟨[], .bool b⟩
  | .int i, _, _, r => by obtain ⟨t, rfl⟩ := r; exact ⟨[], .int i t⟩
  | .str s, _, _, r => by obtain ⟨t, rfl⟩ := r; exact ⟨[], .str s t⟩
  | .tup xs, _, d, r => by
    obtain ⟨a, o, vs, n, rfl, e1, e2, e3, e4⟩ := r
    obtain ⟨as, rs⟩ := RepL.reads st (ps := xs) (by simpa [isData] using d) e4
    exact ⟨as, .tuple (st _ _ e1) e2 e3 rs⟩
  | .list xs, _, d, r => by
    obtain ⟨a, o, vs, n, rfl, e1, e2, e3, e4⟩ := r
    obtain ⟨as, rs⟩ := RepL.reads st (ps := xs) (by simpa [isData] using d) e4
    exact ⟨a :: as, .list (st _ _ e1) e2 e3 rs⟩
  | .rng _ _, _, d, _ => by cases d
  | .qn _, _, d, _ => by cases d
theorem RepL.reads {qc : Addr} {F : FM} {h : Heap} (st : Sits F h) : ∀ {ps : List PV} {vs : List Value}, isDatas ps = true → RepL qc F ps vs → ∃ as, ReadsAll h vs (toPys ps) as
  | [], _, _, r => by cases r; exact ⟨[], .nil⟩
  | p :: ps, _, d, r => by
    obtain ⟨v, ws, rfl, r1, r2⟩ := r
    simp only [isDatas, Bool.and_eq_true] at d
    obtain ⟨as, ra⟩ := Rep.reads st d.1 r1
    obtain ⟨bs, rb⟩ := RepL.reads st d.2 r2
    exact ⟨as ++ bs, .cons ra rb⟩
end

/-- what a pure step leaves -/
structure Grow (F : FM) (s : Shared) (F' : FM) (s' : Shared) : Prop where
  le : F.le F'
  sits : Sits F' s'.heap
  keep : Keep s.heap s'.heap
  fresh : ∀ a o, F' a = some o → F a = some o ∨ s.heap.get? a = none
  os : s'.os = s.os
  gens : AllBare s.gens → AllBare s'.gens

theorem Grow.refl {F : FM} {s : Shared} (st : Sits F s.heap) : Grow F s F s := ⟨.refl _, st, .refl _, fun _ _ e => .inl e, rfl, id⟩
theorem Grow.trans {F F' F'' : FM} {s s' s'' : Shared} (x : Grow F s F' s') (y : Grow F' s' F'' s'') : Grow F s F'' s'' := by
  refine ⟨x.le.trans y.le, y.sits, x.keep.trans y.keep, fun a o e => ?_, y.os.trans x.os, y.gens ∘ x.gens⟩
  rcases y.fresh a o e with e | e
  · exact x.fresh a o e
  · refine .inr ?_
    cases q : s.heap.get? a with
    | none => rfl
    | some o' => rw [x.keep _ _ q] at e; cases e
theorem Grow.heap {F : FM} {s : Shared} {h' : Heap} {tk : Nat} (st : Sits F s.heap) (k : Keep s.heap h') : Grow F s F { s with heap := h', toks := tk } :=
  ⟨.refl _, fun a o e => k _ _ (st a o e), k, fun _ _ e => .inl e, rfl, id⟩
theorem Grow.tok {F : FM} {s : Shared} {tk : Nat} (st : Sits F s.heap) : Grow F s F { s with toks := tk } := Grow.heap (h' := s.heap) st (.refl _)

/-- a new frozen object -/
noncomputable def FM.put (F : FM) (a : Addr) (o : Obj) : FM := fun b => if b = a then some o else F b
theorem Grow.put {F : FM} {s : Shared} {h' : Heap} {tk : Nat} {a : Addr} {o : Obj} (st : Sits F s.heap) (k : Keep s.heap h') (hn : s.heap.get? a = none) (ho : h'.get? a = some o) :
    Grow F s (F.put a o) { s with heap := h', toks := tk } := by
  refine ⟨fun b x e => ?_, fun b x e => ?_, k, fun b x e => ?_, rfl, id⟩
  · unfold FM.put
    rw [if_neg]
    · exact e
    · rintro rfl; rw [st _ _ e] at hn; cases hn
  · unfold FM.put at e
    split at e
    · rename_i q; cases e; rw [q]; exact ho
    · exact k _ _ (st _ _ e)
  · unfold FM.put at e
    split at e
    · rename_i q; rw [q]; exact .inr hn
    · exact .inl e
theorem FM.put_self (F : FM) (a : Addr) (o : Obj) : (F.put a o) a = some o := by simp [FM.put]

theorem push_new (h : Heap) : h.get? h.objs.size = none := by
  cases q : h.get? h.objs.size with
  | none => rfl
  | some o => exact absurd (Heap.lt_size q) (Nat.lt_irrefl _)

/-- room for calls -/
structure Amb (A : Around) (k : Nat) : Prop where
  handled : A.handled = none
  depth : A.depth + 4 * k < recursionLimit
  units : A.units + 200 + 40 * k < cLine
  guards : A.guards = some []
theorem Amb.le {A : Around} {k j : Nat} (x : Amb A k) (h : j ≤ k) : Amb A j := ⟨x.handled, by have := x.depth; lia, by have := x.units; lia, x.guards⟩

section
variable {α β : Type} {M : Model} {A : Around} {s : Shared} {qc : Addr} {F : FM}
noncomputable abbrev NoE : Value → Shared → Prop := fun _ _ => False

/-- a pure tree gives the plain value -/
inductive EvP (qc : Addr) (F : FM) (s : Shared) (p : PV) (v : Value) (s' : Shared) : Prop
  | mk (F' : FM) (g : Grow F s F' s') (r : Rep qc F' p v)
inductive EvLP (qc : Addr) (F : FM) (s : Shared) (ps : List PV) (vs : List Value) (s' : Shared) : Prop
  | mk (F' : FM) (g : Grow F s F' s') (r : RepL qc F' ps vs)
noncomputable def Ev (qc : Addr) (M : Model) (A : Around) (F : FM) (s : Shared) (t : Sem Value) (p : PV) : Prop :=
  wpAny M A t (EvP qc F s p) NoE s
noncomputable def EvL (qc : Addr) (M : Model) (A : Around) (F : FM) (s : Shared) (t : Sem (List Value)) (ps : List PV) : Prop :=
  wpAny M A t (EvLP qc F s ps) NoE s

theorem Ev.use {t : Sem Value} {p : PV} {Q : Value → Shared → Prop} {E : Value → Shared → Prop} (h : Ev qc M A F s t p) (k : ∀ v F' s', Grow F s F' s' → Rep qc F' p v → Q v s') : wpAny M A t Q E s :=
  wpAny_mono h (fun v s' ⟨F', g, r⟩ => k v F' s' g r) fun _ _ f => f.elim
theorem EvL.use {t : Sem (List Value)} {p : List PV} {Q : List Value → Shared → Prop} {E : Value → Shared → Prop} (h : EvL qc M A F s t p) (k : ∀ v F' s', Grow F s F' s' → RepL qc F' p v → Q v s') : wpAny M A t Q E s :=
  wpAny_mono h (fun v s' ⟨F', g, r⟩ => k v F' s' g r) fun _ _ f => f.elim
theorem Ev.grow {t : Sem Value} {p : PV} {F₀ : FM} {s₀ : Shared} (g : Grow F₀ s₀ F s) (h : Ev qc M A F s t p) : wpAny M A t (EvP qc F₀ s₀ p) NoE s :=
  h.use fun v F' _ g' r => ⟨F', g.trans g', r⟩
end

end Nw

namespace Nw

noncomputable def mulOkB (a b : Int) : Bool := !(decide (Builtin.Int.intBits a > shortFactorBits) && decide (Builtin.Int.intBits b > shortFactorBits) && Builtin.Int.intTooBig (Builtin.Int.intBits a + Builtin.Int.intBits b))
theorem mulOkB_spec {a b : Int} (h : mulOkB a b = true) : IntMulOk a b := by
  unfold IntMulOk
  unfold mulOkB at h
  intro q
  rw [q] at h; cases h
noncomputable def strMulOkB (x : Str) (n : Int) : Bool := decide (x.length ≤ 1) && decide (n < 10000)

theorem ite_some {α : Type} {c : Prop} [Decidable c] {x r : α} (h : (if c then some x else none) = some r) : c ∧ x = r := by
  by_cases hc : c
  · rw [if_pos hc] at h; exact ⟨hc, Option.some.inj h⟩
  · rw [if_neg hc] at h; cases h
/-- an operator of two ints -/
noncomputable def intOp (f : Int → Int → Option PV) : PV → PV → Option PV
  | .int a, .int b => f a b
  | _, _ => none
noncomputable def addPV : PV → PV → Option PV
  | .int a, .int b => some (.int (a + b))
  | .str x, .str y => if x.length + y.length ≤ sizeLine then some (.str (x ++ y)) else none
  | .list xs, .list ys => if xs.length + ys.length ≤ sizeLine then some (.list (xs ++ ys)) else none
  | _, _ => none
noncomputable def mulPV : PV → PV → Option PV
  | .int a, .int b => if mulOkB a b then some (.int (a * b)) else none
  | .str x, .int n => if -10000 < n ∧ strMulOkB x n then some (.str (Txt.mul x n)) else none
  | _, _ => none
/-- binary operators on plain values -/
noncomputable def bnop (op : Operator) (p q : PV) : Option PV := match op with
  | .Add => addPV p q
  | .Sub => intOp (fun a b => some (.int (a - b))) p q
  | .Mult => mulPV p q
  | .FloorDiv => intOp (fun a b => if b ≠ 0 ∧ Builtin.divisionGoesByPylong a b = false then some (.int (a.fdiv b)) else none) p q
  | .Mod => intOp (fun a b => if b ≠ 0 then some (.int (a.fmod b)) else none) p q
  | .Pow => intOp (fun a n => if 0 ≤ n ∧ (Builtin.Int.intBits a : Int) * n ≤ 2 ^ 27 then some (.int (a ^ n.toNat)) else none) p q
  | .LShift => intOp (fun a n => if 0 ≤ n ∧ (Builtin.Int.intBits a : Int) + n ≤ 2 ^ 27 then some (.int (a * 2 ^ n.toNat)) else none) p q
  | .RShift => intOp (fun a n => if 0 ≤ n then some (.int (a.fdiv (2 ^ n.toNat))) else none) p q
  | .BitAnd => intOp (fun a b => some (.int (Builtin.bitAnd a b))) p q
  | .BitOr => intOp (fun a b => some (.int (Builtin.bitOr a b))) p q
  | _ => none

/-- the operators of an augmented assignment -/
noncomputable def inop (op : Operator) (p q : PV) : Option PV := match op with
  | .Add => intOp (fun a b => some (.int (a + b))) p q
  | .Sub => intOp (fun a b => some (.int (a - b))) p q
  | .LShift => intOp (fun a n => if 0 ≤ n ∧ (Builtin.Int.intBits a : Int) + n ≤ 2 ^ 27 then some (.int (a * 2 ^ n.toNat)) else none) p q
  | .RShift => intOp (fun a n => if 0 ≤ n then some (.int (a.fdiv (2 ^ n.toNat))) else none) p q
  | _ => none

section
variable {prog : Program} {w : World} {A : Around} {s : Shared} {qc : Addr} {F : FM}

theorem ev_int {t : Sem Value} {i : Int} (st : Sits F s.heap) (h : ∀ Q : Value → Shared → Prop, Q (.int i s.toks) { s with toks := s.toks + 1 } → wpAny (model prog w) A t Q NoE s) : Ev qc (model prog w) A F s t (.int i) :=
  h _ ⟨F, .tok st, _, rfl⟩

theorem isList_rep {a : Addr} {o : Obj} {vs : Array Value} {n : Nat} (st : Sits F s.heap) (e : F a = some o) (hc : o.cls = .type "list") (hd : o.data = .seq vs n) : s.heap.IsList a vs := ⟨o, st _ _ e, hc, n, hd⟩
theorem isTup_rep {a : Addr} {o : Obj} {vs : Array Value} {n : Nat} (st : Sits F s.heap) (e : F a = some o) (hc : o.cls = .type "tuple") (hd : o.data = .seq vs n) : IsTup s.heap a vs := ⟨o, st _ _ e, hc, n, hd⟩

theorem Grow.new {o : Obj} (st : Sits F s.heap) (hf : o.isFreed = false) : Grow F s (F.put s.heap.objs.size o) { s with heap := s.heap.push o } :=
  Grow.put (tk := s.toks) st (Keep.push _ _) (push_new _) (Heap.get?_push_size _ hf)

theorem rep_newList {ps : List PV} {vs : List Value} {n : Nat} (r : RepL qc F ps vs) (st : Sits F s.heap) :
    Rep qc (F.put s.heap.objs.size { cls := .type "list", data := .seq vs.toArray n }) (.list ps) (.ref s.heap.objs.size) :=
  ⟨_, _, vs.toArray, n, rfl, FM.put_self _ _ _, rfl, rfl, by simpa using RepL.mono qc (Grow.new st rfl).le r⟩
theorem rep_newTup {ps : List PV} {vs : List Value} {n : Nat} (r : RepL qc F ps vs) (st : Sits F s.heap) :
    Rep qc (F.put s.heap.objs.size { cls := .type "tuple", data := .seq vs.toArray n }) (.tup ps) (.ref s.heap.objs.size) :=
  ⟨_, _, vs.toArray, n, rfl, FM.put_self _ _ _, rfl, rfl, by simpa using RepL.mono qc (Grow.new st rfl).le r⟩

theorem ev_newList {ps : List PV} {vs : List Value} (r : RepL qc F ps vs) (st : Sits F s.heap) (hsz : ps.length ≤ sizeLine) : Ev qc (model prog w) A F s (newList vs) (.list ps) := by
  refine wpAny_newObj_type ?_ (by rw [← r.length] at hsz; show vs.toArray.size ≤ sizeLine; simpa using hsz)
  exact ⟨_, Grow.new st rfl, rep_newList r st⟩
theorem ev_newTuple {ps : List PV} {vs : List Value} (r : RepL qc F ps vs) (st : Sits F s.heap) (hsz : ps.length ≤ sizeLine) : Ev qc (model prog w) A F s (newTuple vs) (.tup ps) := by
  refine wpAny_newObj_type ?_ (by rw [← r.length] at hsz; show vs.toArray.size ≤ sizeLine; simpa using hsz)
  exact ⟨_, Grow.new st rfl, rep_newTup r st⟩

theorem ev_addLists {xs ys : List PV} {v u : Value} (st : Sits F s.heap) (rp : Rep qc F (.list xs) v) (rq : Rep qc F (.list ys) u) (hsz : xs.length + ys.length ≤ sizeLine) :
    Ev qc (model prog w) A F s (binaryOp .Add v u) (.list (xs ++ ys)) := by
  obtain ⟨l, o, vs, n, rfl, e1, e2, e3, r⟩ := rp
  obtain ⟨b, o2, ws, n2, rfl, f1, f2, f3, r2⟩ := rq
  obtain ⟨cls, dd, data, sl⟩ := o
  obtain ⟨cls2, dd2, data2, sl2⟩ := o2
  simp only at e2 e3 f2 f3
  subst e2 e3 f2 f3
  have h1 := r.length
  have h2 := r2.length
  rw [Array.length_toList] at h1 h2
  refine concat_meets ⟨_, st _ _ e1, rfl⟩ ⟨_, st _ _ f1, rfl⟩ noFill_list_add seq_list_add PySem.F.slot_list_add PySem.F.entry_list_add (PySem.F.args_list_add_2 _ _)
    (list_addW l b vs ws n n2 dd dd2 sl sl2 (by rw [h1, h2]; exact hsz)) ⟨st _ _ e1, st _ _ f1, ?_⟩
  refine ⟨_, Grow.new st rfl, ?_⟩
  have := rep_newList (n := 0) (r.append r2) st
  rwa [show (vs.toList ++ ws.toList).toArray = vs ++ ws by simp] at this

theorem intOp_spec {f : Int → Int → Option PV} {p q r : PV} {v u : Value} (h : intOp f p q = some r) (rp : Rep qc F p v) (rq : Rep qc F q u) {P : Prop} (k : ∀ a b t t', v = .int a t → u = .int b t' → f a b = some r → P) : P := by
  cases p <;> first | (cases h; done) | skip
  cases q <;> first | (cases h; done) | skip
  exact k _ _ _ _ rp.choose_spec rq.choose_spec h
theorem addPV_sound {p q r : PV} {v u : Value} (hb : addPV p q = some r) (st : Sits F s.heap) (rp : Rep qc F p v) (rq : Rep qc F q u) : Ev qc (model prog w) A F s (binaryOp .Add v u) r := by
  cases p <;> first | (cases hb; done) | skip
  · cases q <;> first | (cases hb; done) | skip
    cases hb; obtain ⟨t, rfl⟩ := rp; obtain ⟨t', rfl⟩ := rq; exact ev_int st fun Q h => P.add_int h
  · cases q <;> first | (cases hb; done) | skip
    obtain ⟨hm, rfl⟩ := ite_some hb
    obtain ⟨t, rfl⟩ := rp; obtain ⟨t', rfl⟩ := rq
    exact SBL.add (hsz := hm) fun t' k _ => ⟨F, .tok st, _, rfl⟩
  · cases q <;> first | (cases hb; done) | skip
    obtain ⟨hm, rfl⟩ := ite_some hb
    exact ev_addLists st rp rq hm
theorem mulPV_sound {p q r : PV} {v u : Value} (hb : mulPV p q = some r) (st : Sits F s.heap) (rp : Rep qc F p v) (rq : Rep qc F q u) : Ev qc (model prog w) A F s (binaryOp .Mult v u) r := by
  cases p <;> first | (cases hb; done) | skip
  · cases q <;> first | (cases hb; done) | skip
    obtain ⟨hm, rfl⟩ := ite_some hb
    obtain ⟨t, rfl⟩ := rp; obtain ⟨t', rfl⟩ := rq; exact ev_int st fun Q h => P.mul_int h (mulOkB_spec hm)
  · rename_i x
    cases q <;> first | (cases hb; done) | skip
    rename_i n
    obtain ⟨⟨h0, hm⟩, rfl⟩ := ite_some hb
    obtain ⟨t, rfl⟩ := rp; obtain ⟨t', rfl⟩ := rq
    unfold strMulOkB at hm
    simp only [Bool.and_eq_true, decide_eq_true_eq] at hm
    refine SB.mul ⟨?_, fun h1 _ => ?_, fun h1 _ => ?_⟩ fun t' k => ⟨F, .tok st, _, rfl⟩
    · simp only [Bool.or_eq_false_iff, decide_eq_false_iff_not]
      exact ⟨by lia, by lia⟩
    · intro hc
      have h2 : (1 : Int) ≤ (2 ^ 63 - 1) / n := by
        rw [Int.le_ediv_iff_mul_le (by lia)]
        lia
      lia
    · have : x.length * n.toNat ≤ 1 * 10000 := Nat.mul_le_mul hm.1 (by lia)
      unfold Builtin.Str.tooLong
      simp only [decide_eq_false_iff_not]
      rw [sizeLine_eq]
      lia
theorem bnop_sound {op : Operator} {p q r : PV} {v u : Value} (hb : bnop op p q = some r) (st : Sits F s.heap) (rp : Rep qc F p v) (rq : Rep qc F q u) : Ev qc (model prog w) A F s (binaryOp op v u) r := by
  cases op <;> first | (cases hb; done) | skip
  · exact addPV_sound hb st rp rq
  · refine intOp_spec hb rp rq fun a b t t' e e' h => ?_
    subst e e'; cases h; exact ev_int st fun Q h => P.sub_int h
  · exact mulPV_sound hb st rp rq
  · refine intOp_spec hb rp rq fun a b t t' e e' h => ?_
    obtain ⟨hm, rfl⟩ := ite_some h
    subst e e'; exact ev_int st fun Q h => mod_int' hm h
  · refine intOp_spec hb rp rq fun a b t t' e e' h => ?_
    obtain ⟨hm, rfl⟩ := ite_some h
    subst e e'; exact ev_int st fun Q h => pow_int hm.1 hm.2 h
  · refine intOp_spec hb rp rq fun a b t t' e e' h => ?_
    obtain ⟨hm, rfl⟩ := ite_some h
    subst e e'; exact ev_int st fun Q h => lshift_int hm.1 hm.2 h
  · refine intOp_spec hb rp rq fun a b t t' e e' h => ?_
    obtain ⟨hm, rfl⟩ := ite_some h
    subst e e'; exact ev_int st fun Q h => rshift_int hm h
  · refine intOp_spec hb rp rq fun a b t t' e e' h => ?_
    subst e e'; cases h; exact ev_int st fun Q h => or_int h
  · refine intOp_spec hb rp rq fun a b t t' e e' h => ?_
    subst e e'; cases h; exact ev_int st fun Q h => and_int h
  · refine intOp_spec hb rp rq fun a b t t' e e' h => ?_
    obtain ⟨hm, rfl⟩ := ite_some h
    subst e e'; exact ev_int st fun Q h => floordiv_int hm.1 h (.inl hm.2)

theorem inop_sound {op : Operator} {p q r : PV} {v u : Value} (hb : inop op p q = some r) (st : Sits F s.heap) (rp : Rep qc F p v) (rq : Rep qc F q u) : Ev qc (model prog w) A F s (inplaceOp op v u) r := by
  cases op <;> first | (cases hb; done) | skip
  · refine intOp_spec hb rp rq fun a b t t' e e' h => ?_
    subst e e'; cases h; exact ev_int st fun Q h => P.iadd_int h
  · refine intOp_spec hb rp rq fun a b t t' e e' h => ?_
    subst e e'; cases h; exact ev_int st fun Q h => P.isub_int h
  · refine intOp_spec hb rp rq fun a b t t' e e' h => ?_
    obtain ⟨hm, rfl⟩ := ite_some h
    subst e e'; exact ev_int st fun Q h => ilshift_int hm.1 hm.2 h
  · refine intOp_spec hb rp rq fun a b t t' e e' h => ?_
    obtain ⟨hm, rfl⟩ := ite_some h
    subst e e'; exact ev_int st fun Q h => irshift_int hm h

end
end Nw

namespace Nw

noncomputable def eqvPV (a b : PV) : Bool := PyData.eqv (toPy a) (toPy b)
noncomputable def eqOk (a b : PV) : Bool := isData a && isData b && SeqAt.shaped (toPy a) && SeqAt.shaped (toPy b)
noncomputable def ltStr (x y : Str) : Bool := decide (x.cps.toList < y.cps.toList)

/-- comparisons of plain values -/
noncomputable def eqPV : PV → PV → Option Bool
  | .int a, .int b => some (a == b)
  | .str a, .str b => some (a.cps.toList == b.cps.toList)
  | a, b => if eqOk a b then some (eqvPV a b) else none
noncomputable def nePV : PV → PV → Option Bool
  | .int a, .int b => some (a != b)
  | .str a, .str b => some (a.cps.toList != b.cps.toList)
  | a, b => if eqOk a b then some (!eqvPV a b) else none
noncomputable def ordPV (f : Int → Int → Bool) (g : Str → Str → Bool) : PV → PV → Option Bool
  | .int a, .int b => some (f a b)
  | .str a, .str b => some (g a b)
  | _, _ => none
noncomputable def inPV (f : Bool → Bool) (a : PV) : PV → Option Bool
  | .list bs => if isData a && isDatas bs && SeqAt.shaped (toPy a) && SeqAt.shaped (toPy (.list bs)) then some (f ((toPys bs).any fun y => PyData.eqv y (toPy a))) else none
  | _ => none
noncomputable def isNotPV : PV → PV → Option Bool
  | .bool a, .bool b => some (a != b)
  | _, _ => none
noncomputable def cmpPV (op : CmpOp) (p q : PV) : Option Bool := match op with
  | .Eq => eqPV p q
  | .NotEq => nePV p q
  | .Lt => ordPV (fun a b => decide (a < b)) ltStr p q
  | .LtE => ordPV (fun a b => decide (a ≤ b)) (fun a b => !ltStr b a) p q
  | .Gt => ordPV (fun a b => decide (a > b)) (fun a b => ltStr b a) p q
  | .GtE => ordPV (fun a b => decide (a ≥ b)) (fun a b => !ltStr a b) p q
  | .IsNot => isNotPV p q
  | .In => inPV id p q
  | .NotIn => inPV not p q
  | _ => none

section
variable {prog : Program} {w : World} {A : Around} {s : Shared} {qc : Addr} {F : FM}

theorem ev_val {t : Sem Value} {p : PV} {v : Value} (st : Sits F s.heap) (r : Rep qc F p v) (h : ∀ Q : Value → Shared → Prop, Q v s → wpAny (model prog w) A t Q NoE s) : Ev qc (model prog w) A F s t p :=
  h _ ⟨F, .refl st, r⟩
theorem ev_bool {t : Sem Value} {b : Bool} (st : Sits F s.heap) (h : ∀ Q : Value → Shared → Prop, Q (.bool b) s → wpAny (model prog w) A t Q NoE s) : Ev qc (model prog w) A F s t (.bool b) := ev_val st rfl h

theorem cmp_eq {a b : PV} {v u : Value} {Q : Value → Shared → Prop} (hA : A.units + 64 < cLine) (st : Sits F s.heap) (hok : eqOk a b = true) (rp : Rep qc F a v) (rq : Rep qc F b u) (h : Q (.bool (eqvPV a b)) s) :
    wpAny (model prog w) A (compareOp .Eq v u) Q NoE s := by
  unfold eqOk at hok
  simp only [Bool.and_eq_true] at hok
  obtain ⟨⟨⟨h1, h2⟩, h3⟩, h4⟩ := hok
  obtain ⟨as, ra⟩ := Rep.reads st h1 rp
  obtain ⟨bs, rb⟩ := Rep.reads st h2 rq
  exact SeqAt.compareEq_shaped ra rb h3 h4 hA h
theorem cmp_ne {a b : PV} {v u : Value} {Q : Value → Shared → Prop} (hA : A.units + 64 < cLine) (st : Sits F s.heap) (hok : eqOk a b = true) (rp : Rep qc F a v) (rq : Rep qc F b u) (h : Q (.bool (!eqvPV a b)) s) :
    wpAny (model prog w) A (compareOp .NotEq v u) Q NoE s := by
  unfold eqOk at hok
  simp only [Bool.and_eq_true] at hok
  obtain ⟨⟨⟨h1, h2⟩, h3⟩, h4⟩ := hok
  obtain ⟨as, ra⟩ := Rep.reads st h1 rp
  obtain ⟨bs, rb⟩ := Rep.reads st h2 rq
  exact SeqAt.compareNe_shaped ra rb h3 h4 hA h

theorem in_room {xs : List PyData} {d : PyData} (hd : SeqAt.shaped d = true) (hu : A.units + 200 < cLine) : A.units + 1 + min (PyData.depthAll xs) d.depth < cLine := by
  have h1 := SeqAt.depth_of_shaped hd
  have h2 : min (PyData.depthAll xs) d.depth ≤ d.depth := Nat.min_le_right _ _
  lia

theorem ordPV_spec {f : Int → Int → Bool} {g : Str → Str → Bool} {p q : PV} {r : Bool} {v u : Value} (h : ordPV f g p q = some r) (rp : Rep qc F p v) (rq : Rep qc F q u) {P : Prop}
    (k1 : ∀ a b t t', v = .int a t → u = .int b t' → f a b = r → P) (k2 : ∀ a b t t', v = .str a t → u = .str b t' → g a b = r → P) : P := by
  cases p <;> first | (cases h; done) | skip
  · cases q <;> first | (cases h; done) | skip
    exact k1 _ _ _ _ rp.choose_spec rq.choose_spec (Option.some.inj h)
  · cases q <;> first | (cases h; done) | skip
    exact k2 _ _ _ _ rp.choose_spec rq.choose_spec (Option.some.inj h)
theorem eqPV_spec {p q : PV} {r : Bool} (h : eqPV p q = some r) {P : Prop} (k2 : ∀ a b, p = .str a → q = .str b → (a.cps.toList == b.cps.toList) = r → P) (k3 : eqOk p q = true → eqvPV p q = r → P) : P := by
  have k3' : (if eqOk p q = true then some (eqvPV p q) else none) = some r → P := fun h => k3 (ite_some h).1 (ite_some h).2
  clear k3
  cases p <;> (try exact k3' h)
  · cases q <;> exact k3' h
  · cases q <;> (try exact k3' h)
    exact k2 _ _ rfl rfl (Option.some.inj h)
theorem nePV_spec {p q : PV} {r : Bool} (h : nePV p q = some r) {P : Prop} (k2 : ∀ a b, p = .str a → q = .str b → (a.cps.toList != b.cps.toList) = r → P) (k3 : eqOk p q = true → (!eqvPV p q) = r → P) : P := by
  have k3' : (if eqOk p q = true then some (!eqvPV p q) else none) = some r → P := fun h => k3 (ite_some h).1 (ite_some h).2
  clear k3
  cases p <;> (try exact k3' h)
  · cases q <;> exact k3' h
  · cases q <;> (try exact k3' h)
    exact k2 _ _ rfl rfl (Option.some.inj h)
theorem inPV_spec {f : Bool → Bool} {p q : PV} {r : Bool} {v u : Value} (h : inPV f p q = some r) (st : Sits F s.heap) (rp : Rep qc F p v) (rq : Rep qc F q u) {P : Prop}
    (k : ∀ bs as bs', q = .list bs → SeqAt.shaped (toPy p) = true → SeqAt.shaped (toPy (.list bs)) = true → Reads s.heap v (toPy p) as → Reads s.heap u (toPy (.list bs)) bs' → f ((toPys bs).any fun y => PyData.eqv y (toPy p)) = r → P) : P := by
  cases q <;> first | (cases h; done) | skip
  rename_i bs
  obtain ⟨hok, rfl⟩ := ite_some h
  simp only [Bool.and_eq_true] at hok
  obtain ⟨⟨⟨h1, h2⟩, h3⟩, h4⟩ := hok
  obtain ⟨as, ra⟩ := Rep.reads st h1 rp
  obtain ⟨bs', rb⟩ := Rep.reads (p := .list bs) st h2 rq
  exact k bs as bs' rfl h3 h4 ra rb rfl
theorem cmpPV_sound {op : CmpOp} {p q : PV} {r : Bool} {v u : Value} (hb : cmpPV op p q = some r) (hA : A.units + 200 < cLine) (st : Sits F s.heap) (rp : Rep qc F p v) (rq : Rep qc F q u) :
    Ev qc (model prog w) A F s (compareOp op v u) (.bool r) := by
  refine ev_bool st fun Q hQ => ?_
  cases op <;> first | (cases hb; done) | skip
  · refine eqPV_spec hb (fun a b e e' h => ?_) fun h1 h2 => ?_
    · subst e e' h; obtain ⟨t, rfl⟩ := rp; obtain ⟨t', rfl⟩ := rq; exact P.eq_str hQ
    · subst h2; exact cmp_eq (by lia) st h1 rp rq hQ
  · refine nePV_spec hb (fun a b e e' h => ?_) fun h1 h2 => ?_
    · subst e e' h; obtain ⟨t, rfl⟩ := rp; obtain ⟨t', rfl⟩ := rq; exact P.ne_str hQ
    · subst h2; exact cmp_ne (by lia) st h1 rp rq hQ
  · exact ordPV_spec hb rp rq (fun a b t t' e e' h => by subst e e' h; exact P.lt_int hQ) fun a b t t' e e' h => by subst e e' h; exact P.lt_str hQ
  · exact ordPV_spec hb rp rq (fun a b t t' e e' h => by subst e e' h; exact P.le_int hQ) fun a b t t' e e' h => by subst e e' h; exact P.le_str hQ
  · exact ordPV_spec hb rp rq (fun a b t t' e e' h => by subst e e' h; exact P.gt_int hQ) fun a b t t' e e' h => by subst e e' h; exact P.gt_str hQ
  · exact ordPV_spec hb rp rq (fun a b t t' e e' h => by subst e e' h; exact P.ge_int hQ) fun a b t t' e e' h => by subst e e' h; exact P.ge_str hQ
  · cases p <;> first | (cases hb; done) | skip
    cases q <;> first | (cases hb; done) | skip
    cases hb; cases rp; cases rq; exact isnot_bool hQ
  · refine inPV_spec hb st rp rq fun bs as bs' e h3 h4 ra rb h => ?_
    subst e h
    exact SeqAt.in_list_reads rb ra (SeqAt.canLay_of_shaped h4) (SeqAt.canLay_of_shaped h3) (in_room h3 hA) hQ
  · refine inPV_spec hb st rp rq fun bs as bs' e h3 h4 ra rb h => ?_
    subst e h
    exact SeqAt.notIn_list_reads rb ra (SeqAt.canLay_of_shaped h4) (SeqAt.canLay_of_shaped h3) (in_room h3 hA) hQ

noncomputable def unPV : UnaryOp → PV → Option PV
  | .Not, .bool b => some (.bool (!b))
  | .USub, .int i => some (.int (-i))
  | _, _ => none
theorem unPV_sound {op : UnaryOp} {p r : PV} {v : Value} (hb : unPV op p = some r) (st : Sits F s.heap) (rp : Rep qc F p v) : Ev qc (model prog w) A F s (unaryOp op v) r := by
  cases op <;> first | (cases hb; done) | skip
  · cases p <;> first | (cases hb; done) | skip
    cases hb; cases rp; exact ev_bool st fun Q h => not_value (wpAny_truthy_bool h)
  · cases p <;> first | (cases hb; done) | skip
    cases hb; obtain ⟨t, rfl⟩ := rp; exact ev_int st fun Q h => P.neg_int h

noncomputable def truePV : PV → Option Bool
  | .bool b => some b
  | .int i => some (i != 0)
  | _ => none
theorem truePV_sound {p : PV} {b : Bool} {v : Value} {Q : Bool → Shared → Prop} {E : Value → Shared → Prop} (hb : truePV p = some b) (rp : Rep qc F p v) (h : Q b s) : wpAny (model prog w) A (truthy v) Q E s := by
  cases p <;> first | (cases hb; done) | skip
  · cases hb; cases rp; exact wpAny_truthy_bool h
  · cases hb; obtain ⟨t, rfl⟩ := rp; exact P.truthy_int h
end
end Nw

namespace Nw
set_option tactic.hygienic false

/-- the world of the walk: what stands before the call -/
structure Wd where
  prog : Program
  w : World
  hB : Heap
  mg : Str → Option Value
  mb : Str → Option Value
  qc : Addr
  ac : Addr
structure WdOK (W : Wd) : Prop where
  g : W.hB.Ns mainGlobals W.mg
  b : W.hB.Ns builtinsNs W.mb
  nolimit : W.hB.NoLimit
noncomputable abbrev Wd.M (W : Wd) : Model := model W.prog W.w

/-- what a name of a frame holds: a plain value; a list that the frame is filling; a pile -/
inductive Slot where
  | imm (p : PV)
  | lst (ps : List PV)
  | acc (hd : Int) (items : List PV)
noncomputable abbrev Rho := Str → Option Slot
noncomputable abbrev Names := List (Str × NameKind)
noncomputable def Rho.set (ρ : Rho) (x : Str) (sl : Slot) : Rho := fun y => if y = x then some sl else ρ y
noncomputable def Slot.isMut : Slot → Bool
  | .imm _ => false
  | _ => true

noncomputable abbrev accObj (ac dx : Addr) (vs : Array Value) (n : Nat) : Obj := { cls := .ref ac, dict := some dx, data := .seq vs n }
noncomputable abbrev sizeDict (h : Int) (k t : Tok) (hd : Int) (m : Nat) : Obj := dictOf [⟨h, .str (Str.ofString "_initial_size") k, .int hd t⟩] m

noncomputable def Off (F : FM) (env : Env) (a : Addr) : Prop := F a = none ∧ a ≠ env.locals ∧ ∀ p ∈ env.cells, a ≠ p.2

inductive LstSlot (qc : Addr) (F : FM) (h : Heap) (env : Env) (ps : List PV) (v : Value) : Prop
  | mk (a : Addr) (vs : Array Value) (n : Nat) (e : v = .ref a) (e1 : h.get? a = some (listOf vs n)) (r : RepL qc F ps vs.toList) (off : Off F env a)
inductive AccSlot (W : Wd) (F : FM) (h : Heap) (env : Env) (hd : Int) (ps : List PV) (v : Value) : Prop
  | mk (a dx : Addr) (vs : Array Value) (n : Nat) (hh : Int) (k t : Tok) (m : Nat) (e : v = .ref a) (e1 : h.get? a = some (accObj W.ac dx vs n)) (e2 : F dx = some (sizeDict hh k t hd m)) (r : RepL W.qc F ps vs.toList) (off : Off F env a)
noncomputable def SlotOK (W : Wd) (F : FM) (h : Heap) (env : Env) : Slot → Value → Prop
  | .imm p, v => Rep W.qc F p v
  | .lst ps, v => LstSlot W.qc F h env ps v
  | .acc hd ps, v => AccSlot W F h env hd ps v

noncomputable def Bound (h : Heap) (env : Env) (x : Str) (v : Value) : Prop :=
  (env.kindOf x = some .local ∧ ∃ m, h.Ns env.locals m ∧ m x = some v) ∨
  ((env.kindOf x = some .cell ∨ env.kindOf x = some .free) ∧ ∃ c, env.cells.lookup x = some c ∧ h.IsCell c (some v))

theorem Ns_eq {h : Heap} {a : Addr} {m m' : Str → Option Value} (x : h.Ns a m) (y : h.Ns a m') : m = m' := by
  obtain ⟨o, es, ep, e1, e2, _, e4⟩ := x
  obtain ⟨o', es', ep', f1, f2, _, f4⟩ := y
  rw [e1] at f1; cases f1
  rw [e2] at f2; cases f2
  funext n
  rw [← e4, ← f4]

theorem Bound.unique {h : Heap} {env : Env} {x : Str} {v u : Value} (a : Bound h env x v) (b : Bound h env x u) : v = u := by
  rcases a with ⟨k, m, n, e⟩ | ⟨k, c, l, o, e1, e2⟩ <;> rcases b with ⟨k', m', n', e'⟩ | ⟨k', c', l', o', f1, f2⟩
  · rw [Ns_eq n n', e'] at e; cases e; rfl
  · rw [k] at k'; rcases k' with k' | k' <;> cases k'
  · rw [k'] at k; rcases k with k | k <;> cases k
  · rw [l] at l'; cases l'
    rw [e1] at f1; cases f1
    rw [e2] at f2; cases f2; rfl

/-- the invariant of a frame -/
structure FI (W : Wd) (h0 : Heap) (F : FM) (s : Shared) (env : Env) (N : Names) (ρ : Rho) : Prop where
  sits : Sits F s.heap
  base : Keep W.hB s.heap
  kind : env.scope.kind = .function
  globals : env.globals = mainGlobals
  blt : env.builtins = builtinsNs
  ns : ∃ m, s.heap.Ns env.locals m
  cells : ∀ p ∈ env.cells, ∃ v, s.heap.IsCell p.2 v
  apart : env.cells.Pairwise fun x y => x.2 ≠ y.2
  nl : ∀ p ∈ env.cells, p.2 ≠ env.locals
  privL : F env.locals = none ∧ h0.get? env.locals = none
  privF : ∀ p ∈ env.cells, F p.2 = none
  privC : ∀ x c, N.lookup x = some .cell → env.cells.lookup x = some c → h0.get? c = none
  kindL : ∀ x, N.lookup x = some .local → env.kindOf x = some .local
  kindC : ∀ x, N.lookup x = some .cell → env.kindOf x = some .cell ∧ ∃ c, env.cells.lookup x = some c
  kindF : ∀ x, N.lookup x = some .free → (env.kindOf x = some .cell ∨ env.kindOf x = some .free) ∧ ∃ c, env.cells.lookup x = some c
  kindG : ∀ x, N.lookup x = some .globalImplicit → env.kindOf x = some .globalImplicit
  slots : ∀ x sl, ρ x = some sl → ∃ v, SlotOK W F s.heap env sl v ∧ Bound s.heap env x v
  muts : ∀ x y sl sl' v, ρ x = some sl → ρ y = some sl' → sl.isMut = true → sl'.isMut = true → Bound s.heap env x v → Bound s.heap env y v → x = y

theorem Bound.keep {h h' : Heap} {env : Env} {x : Str} {v : Value} (b : Bound h env x v) (k : Keep h h') : Bound h' env x v := by
  rcases b with ⟨e, m, n, q⟩ | ⟨e, c, l, q⟩
  · exact .inl ⟨e, m, n.keeps k, q⟩
  · exact .inr ⟨e, c, l, q.keeps k⟩

theorem Off.grow {F F' : FM} {s s' : Shared} {env : Env} {a : Addr} {o : Obj} (x : Off F env a) (g : Grow F s F' s') (ha : s.heap.get? a = some o) : Off F' env a := by
  refine ⟨?_, x.2⟩
  cases q : F' a with
  | none => rfl
  | some o' =>
    rcases g.fresh a o' q with e | e
    · rw [x.1] at e; cases e
    · rw [ha] at e; cases e

theorem none_grow {F F' : FM} {s s' : Shared} {a : Addr} {o : Obj} (x : F a = none) (g : Grow F s F' s') (ha : s.heap.get? a = some o) : F' a = none := by
  cases q : F' a with
  | none => rfl
  | some o' =>
    rcases g.fresh a o' q with e | e
    · rw [x] at e; cases e
    · rw [ha] at e; cases e

theorem SlotOK.grow {W : Wd} {F F' : FM} {s s' : Shared} {env : Env} {sl : Slot} {v : Value} (x : SlotOK W F s.heap env sl v) (g : Grow F s F' s') : SlotOK W F' s'.heap env sl v := by
  cases sl with
  | imm p => exact Rep.mono _ g.le x
  | lst ps =>
    obtain ⟨a, vs, n, e, e1, r, o⟩ := x
    exact ⟨a, vs, n, e, g.keep _ _ e1, RepL.mono _ g.le r, o.grow g e1⟩
  | acc hd ps =>
    obtain ⟨a, dx, vs, n, hh, k, t, m, e, e1, e2, r, o⟩ := x
    exact ⟨a, dx, vs, n, hh, k, t, m, e, g.keep _ _ e1, g.le _ _ e2, RepL.mono _ g.le r, o.grow g e1⟩

theorem Bound.back {h h' : Heap} {env : Env} {x : Str} {v u : Value} (b : Bound h env x v) (k : Keep h h') (c : Bound h' env x u) : v = u := (b.keep k).unique c

theorem FI.grow {W : Wd} {h0 : Heap} {F F' : FM} {s s' : Shared} {env : Env} {N : Names} {ρ : Rho} (x : FI W h0 F s env N ρ) (g : Grow F s F' s') : FI W h0 F' s' env N ρ where
  sits := g.sits
  base := x.base.trans g.keep
  kind := x.kind
  globals := x.globals
  blt := x.blt
  ns := let ⟨m, n⟩ := x.ns; ⟨m, n.keeps g.keep⟩
  cells := fun p hp => let ⟨v, c⟩ := x.cells p hp; ⟨v, c.keeps g.keep⟩
  apart := x.apart
  nl := x.nl
  privL := by
    obtain ⟨m, o, es, ep, e, _⟩ := x.ns
    exact ⟨none_grow x.privL.1 g e, x.privL.2⟩
  privF := fun p hp => by
    obtain ⟨v, o, e, _⟩ := x.cells p hp
    exact none_grow (x.privF p hp) g e
  privC := x.privC
  kindL := x.kindL
  kindC := x.kindC
  kindF := x.kindF
  kindG := x.kindG
  slots := fun y sl e => let ⟨v, a, b⟩ := x.slots y sl e; ⟨v, a.grow g, b.keep g.keep⟩
  muts := fun y z sl sl' v e e' m m' b b' => by
    obtain ⟨v1, _, b1⟩ := x.slots y sl e
    obtain ⟨v2, _, b2⟩ := x.slots z sl' e'
    have q1 := b1.back g.keep b
    have q2 := b2.back g.keep b'
    subst q1; subst q2
    exact x.muts y z sl sl' _ e e' m m' b1 b2

noncomputable def okName (x : Str) : Bool := !(x == ("__debug__" : Str)) && !(x == ("__classdict__" : Str))

section
variable {W : Wd} {A : Around} {E : Value → Shared → Prop} {h0 : Heap} {F : FM} {s : Shared} {env : Env} {N : Names} {ρ : Rho}

/-- reading a name -/
theorem load_bound {x : Str} {v : Value} {Q : Value → Shared → Prop} (hk : env.scope.kind = .function) (b : Bound s.heap env x v) (hx : okName x = true) (h : Q v s) : wpAny W.M A (loadName env x) Q E s := by
  simp only [okName, Bool.and_eq_true, Bool.not_eq_true'] at hx
  rcases b with ⟨e, m, n, q⟩ | ⟨e | e, c, l, q⟩
  · exact wpAny_loadName_local hk e n q h
  · exact wpAny_loadName_cell hk e l q h
  · exact wpAny_loadName_free hk e l q h hx.2

theorem name_bound {x : Str} {pos : Pos} {v : Value} {Q : Value → Shared → Prop} (hk : env.scope.kind = .function) (b : Bound s.heap env x v) (hx : okName x = true) (h : Q v s) : wpAny W.M A (eval (.Name x pos) env) Q E s := by
  have hx' := hx
  simp only [okName, Bool.and_eq_true, Bool.not_eq_true'] at hx'
  exact wpAny_Name (load_bound hk b hx h) hx'.1

noncomputable def Wd.glob (W : Wd) (x : Str) (v : Value) : Prop := W.mg x = some v ∨ (W.mg x = none ∧ W.mb x = some v)

theorem name_glob {x : Str} {pos : Pos} {v : Value} {Q : Value → Shared → Prop} (ok : WdOK W) (fi : FI W h0 F s env N ρ) (hn : N.lookup x = some .globalImplicit) (hx : okName x = true) (hv : W.glob x v) (h : Q v s) :
    wpAny W.M A (eval (.Name x pos) env) Q E s := by
  simp only [okName, Bool.and_eq_true, Bool.not_eq_true'] at hx
  refine PySem.Calls.Name_function_global fi.kind (fi.kindG x hn) ?_ hx.1
  rcases hv with hv | ⟨hm, hv⟩
  · exact PySem.Calls.loadGlobal_global (by rw [fi.globals]; exact ok.g.keeps fi.base) hv h
  · exact PySem.Calls.loadGlobal_builtin (by rw [fi.globals]; exact ok.g.keeps fi.base) hm (by rw [fi.blt]; exact ok.b.keeps fi.base) hv h
end

end Nw

namespace Nw
set_option tactic.hygienic false

theorem SlotOK.sameBut {W : Wd} {F : FM} {h h' : Heap} {env : Env} {sl : Slot} {v : Value} {t : Addr} (x : SlotOK W F h env sl v) (ht : t = env.locals ∨ ∃ p ∈ env.cells, p.2 = t) (hs : Heap.SameBut t h h') : SlotOK W F h' env sl v := by
  have key : ∀ a, Off F env a → a ≠ t := by
    intro a o e
    subst e
    rcases ht with e | ⟨p, hp, e⟩
    · exact o.2.1 e
    · exact o.2.2 p hp e.symm
  cases sl with
  | imm p => exact x
  | lst ps =>
    obtain ⟨a, vs, n, e, e1, r, o⟩ := x
    exact ⟨a, vs, n, e, (hs.2 a (key a o)).trans e1, r, o⟩
  | acc hd ps =>
    obtain ⟨a, dx, vs, n, hh, k, t', m, e, e1, e2, r, o⟩ := x
    exact ⟨a, dx, vs, n, hh, k, t', m, e, (hs.2 a (key a o)).trans e1, e2, r, o⟩

theorem sits_sameBut {F : FM} {h h' : Heap} {t : Addr} (x : Sits F h) (ht : F t = none) (hs : Heap.SameBut t h h') : Sits F h' := fun a o e => by
  have : a ≠ t := by rintro rfl; rw [ht] at e; cases e
  exact (hs.2 a this).trans (x a o e)
theorem keep_sameBut {h₁ h h' : Heap} {t : Addr} (x : Keep h₁ h) (ht : h₁.get? t = none) (hs : Heap.SameBut t h h') : Keep h₁ h' := fun a o e => by
  have : a ≠ t := by rintro rfl; rw [ht] at e; cases e
  exact (hs.2 a this).trans (x a o e)

/-- the state of a body: since s0 -/
structure SI (W : Wd) (F0 : FM) (s0 : Shared) (F : FM) (s : Shared) (env : Env) (N : Names) (ρ : Rho) : Prop where
  fi : FI W s0.heap F s env N ρ
  grow : Grow F0 s0 F s
  low : Keep W.hB s0.heap

theorem Grow.sameBut {F0 F : FM} {s0 s : Shared} {h' : Heap} {tk : Nat} {t : Addr} (g : Grow F0 s0 F s) (ht : F t = none) (h0 : s0.heap.get? t = none) (hs : Heap.SameBut t s.heap h') : Grow F0 s0 F { s with heap := h', toks := tk } :=
  ⟨g.le, sits_sameBut g.sits ht hs, keep_sameBut g.keep h0 hs, g.fresh, g.os, g.gens⟩

theorem SI.step {W : Wd} {F0 F F' : FM} {s0 s s' : Shared} {env : Env} {N : Names} {ρ : Rho} (x : SI W F0 s0 F s env N ρ) (g : Grow F s F' s') : SI W F0 s0 F' s' env N ρ :=
  ⟨x.fi.grow g, x.grow.trans g, x.low⟩

section
variable {W : Wd} {A : Around} {E : Value → Shared → Prop} {F0 F : FM} {s0 s : Shared} {env : Env} {N : Names} {ρ : Rho}

theorem si_store_at {x : Str} {sl : Slot} {v : Value} {t : Addr} {h' : Heap} {tk : Nat} (si : SI W F0 s0 F s env N ρ)
    (hsl : SlotOK W F s.heap env sl v)
    (hmu : sl.isMut = true → ∀ y sl', ρ y = some sl' → sl'.isMut = true → Bound s.heap env y v → y = x)
    (ht : t = env.locals ∨ ∃ p ∈ env.cells, p.2 = t) (hFt : F t = none) (h0t : s0.heap.get? t = none) (hs : Heap.SameBut t s.heap h')
    (hns : ∃ m, h'.Ns env.locals m) (hcells : ∀ p ∈ env.cells, ∃ v, h'.IsCell p.2 v)
    (hx : Bound h' env x v) (hy : ∀ y u, y ≠ x → Bound s.heap env y u → Bound h' env y u) : SI W F0 s0 F { s with heap := h', toks := tk } env N (ρ.set x sl) := by
  have fi := si.fi
  have hBt : W.hB.get? t = none := by
    cases q : W.hB.get? t with
    | none => rfl
    | some o => have := si.low _ _ q; rw [h0t] at this; cases this
  refine ⟨{ sits := sits_sameBut fi.sits hFt hs, base := keep_sameBut fi.base hBt hs, kind := fi.kind, globals := fi.globals, blt := fi.blt, ns := hns, cells := hcells, apart := fi.apart, nl := fi.nl, privL := fi.privL, privF := fi.privF, privC := fi.privC, kindL := fi.kindL, kindC := fi.kindC, kindF := fi.kindF, kindG := fi.kindG, slots := ?_, muts := ?_ }, si.grow.sameBut hFt h0t hs, si.low⟩
  · intro y sl' e
    by_cases hyx : y = x
    · subst hyx
      unfold Rho.set at e
      rw [if_pos rfl] at e; cases e
      exact ⟨v, hsl.sameBut ht hs, hx⟩
    · unfold Rho.set at e
      rw [if_neg hyx] at e
      obtain ⟨u, a, b⟩ := fi.slots y sl' e
      exact ⟨u, a.sameBut ht hs, hy y u hyx b⟩
  · intro y z sl1 sl2 u e1 e2 m1 m2 b1 b2
    unfold Rho.set at e1 e2
    by_cases hyx : y = x
    · by_cases hzx : z = x
      · rw [hyx, hzx]
      · rw [if_pos hyx] at e1; cases e1
        rw [if_neg hzx] at e2
        subst hyx
        obtain ⟨u2, _, c2⟩ := fi.slots z sl2 e2
        have q1 := hx.unique b1
        subst q1
        have q2 := (hy z u2 hzx c2).unique b2
        subst q2
        exact (hmu m1 z sl2 e2 m2 c2).symm
    · rw [if_neg hyx] at e1
      obtain ⟨u1, _, c1⟩ := fi.slots y sl1 e1
      have q1 := (hy y u1 hyx c1).unique b1
      subst q1
      by_cases hzx : z = x
      · rw [if_pos hzx] at e2; cases e2
        subst hzx
        have q2 := hx.unique b2
        subst q2
        exact hmu m2 y sl1 e1 m1 c1
      · rw [if_neg hzx] at e2
        obtain ⟨u2, _, c2⟩ := fi.slots z sl2 e2
        have q2 := (hy z u2 hzx c2).unique b2
        subst q2
        exact fi.muts y z sl1 sl2 _ e1 e2 m1 m2 c1 c2

/-- all stands but the frame's own -/
noncomputable def KL (env : Env) (N : Names) (h h' : Heap) : Prop := ∀ b o, b ≠ env.locals → (∀ x c, N.lookup x = some .cell → env.cells.lookup x = some c → c ≠ b) → h.get? b = some o → h'.get? b = some o
theorem KL.refl (env : Env) (N : Names) (h : Heap) : KL env N h h := fun _ _ _ _ e => e
theorem KL.trans {env : Env} {N : Names} {h h' h'' : Heap} (x : KL env N h h') (y : KL env N h' h'') : KL env N h h'' := fun b o h1 h2 e => y b o h1 h2 (x b o h1 h2 e)
theorem KL.of_same {env : Env} {N : Names} {h h' : Heap} {t : Addr} (ht : t = env.locals ∨ ∃ x, N.lookup x = some .cell ∧ env.cells.lookup x = some t) (hs : Heap.SameBut t h h') : KL env N h h' := fun b o h1 h2 e => by
  refine (hs.2 b ?_).trans e
  rintro rfl
  rcases ht with q | ⟨x, hx, q⟩
  · exact h1 q
  · exact h2 x _ hx q rfl

/-- storing a name -/
theorem store_ok3 {x : Str} {sl : Slot} {v : Value} {Q : Unit → Shared → Prop} (si : SI W F0 s0 F s env N ρ)
    (hn : N.lookup x = some .local ∨ N.lookup x = some .cell) (hsl : SlotOK W F s.heap env sl v)
    (hmu : sl.isMut = true → ∀ y sl', ρ y = some sl' → sl'.isMut = true → Bound s.heap env y v → y = x)
    (h : ∀ s', SI W F0 s0 F s' env N (ρ.set x sl) → KL env N s.heap s'.heap → Bound s'.heap env x v → (∀ y u, y ≠ x → Bound s.heap env y u → Bound s'.heap env y u) → Q () s') : wpAny W.M A (storeName env x v) Q E s := by
  have fi := si.fi
  rcases hn with hn | hn
  · obtain ⟨m, nm⟩ := fi.ns
    have kl := fi.kindL x hn
    refine wpAny_storeName_local kl nm (fun h' hn' hs' => ?_) (by rw [fi.kind]; rfl)
    have hx : Bound h' env x v := .inl ⟨kl, _, hn', by simp⟩
    have hy : ∀ y u, y ≠ x → Bound s.heap env y u → Bound h' env y u := fun y u hyx b => by
      rcases b with ⟨k, m', q, e⟩ | ⟨k, c, l, q⟩
      · refine .inl ⟨k, _, hn', ?_⟩
        rw [Ns_eq q nm] at e
        simpa [hyx] using e
      · exact .inr ⟨k, c, l, q.sameBut hs' (fi.nl _ (mem_of_lookup l))⟩
    refine h _ ?_ (KL.of_same (.inl rfl) hs') hx hy
    refine si_store_at si hsl hmu (.inl rfl) fi.privL.1 fi.privL.2 hs' ⟨_, hn'⟩ (fun p hp => ?_) hx hy
    obtain ⟨u, c⟩ := fi.cells p hp
    exact ⟨u, c.sameBut hs' (fi.nl p hp)⟩
  · obtain ⟨kc, c, l⟩ := fi.kindC x hn
    have hp := mem_of_lookup l
    obtain ⟨v0, ic⟩ := fi.cells _ hp
    refine wpAny_storeName_cell fi.kind kc l ic fun h' hv' hs' => ?_
    have nlc := fi.nl _ hp
    obtain ⟨m, nm⟩ := fi.ns
    have hx : Bound h' env x v := .inr ⟨.inl kc, c, l, hv'⟩
    have hy : ∀ y u, y ≠ x → Bound s.heap env y u → Bound h' env y u := fun y u hyx b => by
      rcases b with ⟨k, m', q, e⟩ | ⟨k, c', l', q⟩
      · exact .inl ⟨k, m', q.sameBut hs' (Ne.symm nlc), e⟩
      · refine .inr ⟨k, c', l', q.sameBut hs' fun e => hyx ?_⟩
        subst e
        exact name_of_addr fi.apart (mem_of_lookup l') hp
    refine h _ ?_ (KL.of_same (.inr ⟨x, hn, l⟩) hs') hx hy
    have := si_store_at (tk := s.toks) si hsl hmu (.inr ⟨_, hp, rfl⟩) (fi.privF _ hp) (fi.privC x c hn l) hs' ⟨m, nm.sameBut hs' (Ne.symm nlc)⟩ (fun p hp' => ?_) hx hy
    · exact this
    · by_cases e : p.2 = c
      · exact ⟨_, e ▸ hv'⟩
      · obtain ⟨u, q⟩ := fi.cells p hp'
        exact ⟨u, q.sameBut hs' e⟩

theorem store_ok {x : Str} {sl : Slot} {v : Value} {Q : Unit → Shared → Prop} (si : SI W F0 s0 F s env N ρ)
    (hn : N.lookup x = some .local ∨ N.lookup x = some .cell) (hsl : SlotOK W F s.heap env sl v)
    (hmu : sl.isMut = true → ∀ y sl', ρ y = some sl' → sl'.isMut = true → Bound s.heap env y v → y = x)
    (h : ∀ s', SI W F0 s0 F s' env N (ρ.set x sl) → KL env N s.heap s'.heap → Q () s') : wpAny W.M A (storeName env x v) Q E s :=
  store_ok3 si hn hsl hmu fun s' a b _ _ => h s' a b

theorem assign_name {x : Str} {pos : Pos} {sl : Slot} {v : Value} {Q : Unit → Shared → Prop} (si : SI W F0 s0 F s env N ρ)
    (hn : N.lookup x = some .local ∨ N.lookup x = some .cell) (hsl : SlotOK W F s.heap env sl v)
    (hmu : sl.isMut = true → ∀ y sl', ρ y = some sl' → sl'.isMut = true → Bound s.heap env y v → y = x)
    (h : ∀ s', SI W F0 s0 F s' env N (ρ.set x sl) → KL env N s.heap s'.heap → Q () s') : wpAny W.M A (assign (.Name x pos) env v) Q E s :=
  wpAny_assign_Name (store_ok si hn hsl hmu h)
end
end Nw

namespace Nw

noncomputable def idxPV : PV → Int → Option PV
  | .list ps, k => if ps.length < 2 ^ 60 then (seqIndex? k ps.length).bind (ps[·]?) else none
  | .tup ps, k => if ps.length < 2 ^ 60 then (seqIndex? k ps.length).bind (ps[·]?) else none
  | _, _ => none

noncomputable def slicePV : PV → Option Int → Option Int → Option PV
  | .str x, some l, none => if 0 ≤ l ∧ l ≤ x.length ∧ x.length ≤ sizeLine then some (.str ⟨(x.cps.toList.drop l.toNat).toArray⟩) else none
  | .str x, none, some h => if 0 ≤ h ∧ h ≤ x.length ∧ x.length ≤ sizeLine then some (.str ⟨(x.cps.toList.take h.toNat).toArray⟩) else none
  | .list xs, some l, none => if 0 ≤ l ∧ xs.length ≤ sizeLine then some (.list (xs.drop l.toNat)) else none
  | .list xs, none, some h => if 0 ≤ h ∧ xs.length ≤ sizeLine then some (.list (xs.take h.toNat)) else none
  | _, _, _ => none

theorem subscripted_ops (slice : Expr) (o i : Value) : ∃ ops, subscripted slice false o i = operate ops (getItem o i) := by
  cases slice <;> first | exact ⟨_, rfl⟩ | skip
  rename_i l u st p
  cases st <;> exact ⟨_, rfl⟩

theorem seqIndex_spec {k : Int} {n j : Nat} (h : seqIndex? k n = some j) : (0 ≤ k ∧ k < n ∧ j = k.toNat) ∨ (k < 0 ∧ -(n : Int) ≤ k ∧ j = (k + n).toNat) := by
  unfold seqIndex? at h
  by_cases hk : k < 0
  · simp only [hk, if_true] at h
    split at h
    · rename_i hc
      simp only [Bool.and_eq_true, decide_eq_true_eq] at hc
      cases h
      exact .inr ⟨hk, by lia, rfl⟩
    · cases h
  · simp only [hk, if_false] at h
    split at h
    · rename_i hc
      simp only [Bool.and_eq_true, decide_eq_true_eq] at hc
      cases h
      exact .inl ⟨hc.1, hc.2, rfl⟩
    · cases h

section
variable {prog : Program} {w : World} {A : Around} {s : Shared} {qc : Addr} {F : FM}

theorem sub_any {value slice : Expr} {o i : Value} {T id : String} {Q : Value → Shared → Prop} {E : Value → Shared → Prop} (hT : s.TypeIs o T)
    (hl : typeLookup (.type T) "__getitem__" = pure (some (.builtin id))) (hg : wpAny (model prog w) A (getItem o i) Q E s) : wpAny (model prog w) A (subscriptTail value slice o i) Q E s := by
  obtain ⟨ops, e⟩ := subscripted_ops slice o i
  exact tail_any hT hl hg e

/-- a list at an index -/
theorem getItem_listAt {l : Addr} {vs : Array Value} {k : Int} {t : Tok} {j : Nat} {x : Value} {Q : Value → Shared → Prop} {E : Value → Shared → Prop} (hl : s.heap.IsList l vs) (hn : vs.size < 2 ^ 60)
    (hj : seqIndex? k vs.size = some j) (hx : vs[j]? = some x) (h : Q x s) : wpAny (model prog w) A (getItem (.ref l) (.int k t)) Q E s := by
  rcases seqIndex_spec hj with ⟨h0, h1, rfl⟩ | ⟨h0, h1, rfl⟩
  · exact wpAny_getItem_list hl h0 (by lia) hx h
  · exact wpAny_getItem_list_neg hl h0 h1 (by lia) hx h

theorem idx_list {value slice : Expr} {l : Addr} {vs : Array Value} {ps : List PV} {k : Int} {t : Tok} {r : PV} (hl : s.heap.IsList l vs) (rl : RepL qc F ps vs.toList) (st : Sits F s.heap) (hb : idxPV (.list ps) k = some r) :
    Ev qc (model prog w) A F s (subscriptTail value slice (.ref l) (.int k t)) r := by
  unfold idxPV at hb
  dsimp only at hb
  split at hb
  · rename_i hsz
    obtain ⟨j, hj, hp⟩ := Option.bind_eq_some_iff.mp hb
    obtain ⟨v, hv, rv⟩ := rl.get j hp
    have e := rl.length
    rw [Array.length_toList] at e
    exact sub_any hl.typeIs slot_list_getitem.lookup (getItem_listAt hl (by rw [e]; exact hsz) (by rw [e]; exact hj) (by simpa using hv) ⟨F, .refl st, rv⟩)
  · cases hb

theorem idxPV_sound {value slice : Expr} {p r : PV} {v : Value} {k : Int} {t : Tok} (hb : idxPV p k = some r) (st : Sits F s.heap) (rp : Rep qc F p v) : Ev qc (model prog w) A F s (subscriptTail value slice v (.int k t)) r := by
  have hb' := hb
  unfold idxPV at hb
  split at hb
  · obtain ⟨a, o, vs, n, rfl, e1, e2, e3, rl⟩ := rp
    exact idx_list (isList_rep st e1 e2 e3) rl st hb'
  · split at hb
    · rename_i hsz
      obtain ⟨j, hj, hp⟩ := Option.bind_eq_some_iff.mp hb
      obtain ⟨a, o, vs, n, rfl, e1, e2, e3, rl⟩ := rp
      obtain ⟨u, hv, rv⟩ := rl.get j hp
      have e := rl.length
      rw [Array.length_toList] at e
      have ht := isTup_rep st e1 e2 e3
      rename_i hn
      have hk : -(2 ^ 63) ≤ k ∧ k < 2 ^ 63 := by
        rcases seqIndex_spec hj with ⟨h0, h1, _⟩ | ⟨h0, h1, _⟩ <;> constructor <;> lia
      exact sub_any ht.typeIs slot_tuple_getitem.lookup (PyProof.Rows.getItem_tuple ht hk.1 hk.2 (by rw [e]; exact hj) (by simpa using hv) ⟨F, .refl st, rv⟩)
    · cases hb
  · cases hb

noncomputable abbrev sliceObj (vl vu : Value) : Obj := { cls := .type "slice", data := .fields #[vl, vu, .none] }
theorem slice_list_at {value slice : Expr} {l : Addr} {vs : Array Value} {ps : List PV} {vl vu : Value} {lo hi : Option Int} {r : List PV} (hl : s.heap.IsList l vs) (rl : RepL qc F ps vs.toList) (st : Sits F s.heap)
    (pl : IsPart vl lo) (pu : IsPart vu hi) (hsz : ps.length ≤ sizeLine) (he : RepL qc F r (slicePick vs lo hi none).toList) :
    wpAny (model prog w) A (subscriptTail value slice (.ref l) (.ref s.heap.objs.size)) (EvP qc F s (.list r)) NoE { s with heap := s.heap.push (sliceObj vl vu) } := by
  have e := rl.length
  rw [Array.length_toList] at e
  have hl' := hl.push (sliceObj vl vu)
  refine sub_any (s := { s with heap := s.heap.push (sliceObj vl vu) }) hl'.typeIs slot_list_getitem.lookup (wpAny_getItem_list_slice hl' (Heap.IsSliceOf.new ..) pl pu .none (by simp) ?_ (by rw [e]; exact hsz))
  have g1 : Grow F s F { s with heap := s.heap.push (sliceObj vl vu) } := Grow.heap (tk := s.toks) st (Keep.push _ _)
  have g2 := Grow.new (s := { s with heap := s.heap.push (sliceObj vl vu) }) (F := F) (o := { cls := .type "list", data := .seq (slicePick vs lo hi none) }) g1.sits rfl
  refine ⟨_, g1.trans g2, ?_⟩
  have := rep_newList (qc := qc) (n := 0) he (s := { s with heap := s.heap.push (sliceObj vl vu) }) g1.sits
  simpa using this

theorem slice_sound {value slice : Expr} {p r : PV} {v vl vu : Value} {lo hi : Option Int} (hb : slicePV p lo hi = some r) (st : Sits F s.heap) (rp : Rep qc F p v) (pl : IsPart vl lo) (pu : IsPart vu hi) :
    wpAny (model prog w) A (subscriptTail value slice v (.ref s.heap.objs.size)) (EvP qc F s r) NoE { s with heap := s.heap.push (sliceObj vl vu) } := by
  have g1 : Grow F s F { s with heap := s.heap.push (sliceObj vl vu) } := Grow.heap (tk := s.toks) st (Keep.push _ _)
  unfold slicePV at hb
  cases p <;> first | (cases hb; done) | skip
  · cases lo <;> cases hi <;> first | (cases hb; done) | skip
    · rename_i h
      obtain ⟨hc, e⟩ := ite_some hb
      cases e; cases pu; rename_i ti; cases pl
      obtain ⟨t, rfl⟩ := rp
      refine sub_any (typeIs_str _ _ _) PySem.F.slot_str_getitem.lookup (wpAny_getItem_str_slice (l := none) (u := some (h, ti)) (st := none) ⟨_, Heap.get?_push_size _ rfl, rfl, rfl⟩ rfl (post_val_or_str ⟨Nat.le_trans (Txt.slice_le _ none (some h)) hc.2.2, fun t' k => ?_⟩))
      have e := beq_iff_eq.mp (slice_closes_to (x := _) (j := h) ⟨hc.1, by rw [Array.length_toList]; exact hc.2.1⟩)
      refine ⟨F, g1.trans (Grow.tok g1.sits), t', ?_⟩
      refine congrArg (fun z => Value.str z t') (Eq.trans e ?_)
      simp
    · rename_i l
      obtain ⟨hc, e⟩ := ite_some hb
      cases e; cases pl; rename_i ti; cases pu
      obtain ⟨t, rfl⟩ := rp
      refine sub_any (typeIs_str _ _ _) PySem.F.slot_str_getitem.lookup (wpAny_getItem_str_slice (l := some (l, ti)) (u := none) (st := none) ⟨_, Heap.get?_push_size _ rfl, rfl, rfl⟩ rfl (post_val_or_str ⟨Nat.le_trans (Txt.slice_le _ (some l) none) hc.2.2, fun t' k => ?_⟩))
      have e := slice_from_eq (b := _) hc.1 hc.2.1 rfl
      refine ⟨F, g1.trans (Grow.tok g1.sits), t', ?_⟩
      refine congrArg (fun z => Value.str z t') (Eq.trans e ?_)
      congr 2
      refine List.take_of_length_le ?_
      rw [List.length_drop, Array.length_toList]
      show _ ≤ ((_ : Int) - l).toNat
      unfold Str.length
      lia
  · obtain ⟨a, o, vs, n, rfl, e1, e2, e3, rl⟩ := rp
    have hl := isList_rep st e1 e2 e3
    cases lo <;> cases hi <;> first | (cases hb; done) | skip
    · rename_i l
      obtain ⟨hc, e⟩ := ite_some hb
      cases e
      refine slice_list_at hl rl st pl pu hc.2 ?_
      have e : l = (l.toNat : Int) := by lia
      rw [e, slicePick_upto']
      simpa [← e] using rl.take l.toNat
    · rename_i l
      obtain ⟨hc, e⟩ := ite_some hb
      cases e
      refine slice_list_at hl rl st pl pu hc.2 ?_
      have e : l = (l.toNat : Int) := by lia
      rw [e, slicePick_from']
      simpa [← e] using rl.drop l.toNat
end
end Nw

namespace Nw
set_option tactic.hygienic false

noncomputable def ownedNames : List String := ["enumerate", "zip", "dict_itemiterator", "dict_reverseitemiterator", "odict_iterator", "itertools.zip_longest", "itertools.pairwise"]
structure It (prog : Program) (w : World) (qc : Addr) (F : FM) (I : Addr) (ps : List PV) (fp : List Addr) (P : Nat → Value → Prop) (St : Nat → Heap → Prop) : Prop where
  walks : ∀ A : Around, A.handled = none → Walks prog w A I fp [I] ps.length P St
  there : ∀ i h, St i h → ∃ o T fs, h.get? I = some o ∧ o.cls = .type T ∧ ownedNames.contains T = false ∧ o.data = .fields fs
  frozen : ∀ b ∈ fp, b ≠ I → ∃ o, F b = some o
  items : ∀ j v, j < ps.length → P j v → ∃ p, ps[j]? = some p ∧ Rep qc F p v

inductive IterAt (prog : Program) (w : World) (qc : Addr) (F : FM) (h : Heap) (I : Addr) (ps : List PV) (i : Nat) : Prop
  | mk (fp : List Addr) (P : Nat → Value → Prop) (St : Nat → Heap → Prop) (it : It prog w qc F I ps fp P St) (st : St i h) (hn : F I = none)

noncomputable def itemsPV : PV → Option (List PV)
  | .tup ps => if ps.length < sizeLine then some ps else none
  | .list ps => if ps.length < sizeLine then some ps else none
  | .str x => some (x.cps.toList.map fun c => .str ⟨#[c]⟩)
  | .rng lo hi => if (-(2 ^ 60) < lo ∧ lo < 2 ^ 60) ∧ (-(2 ^ 60) < hi ∧ hi < 2 ^ 60) then some ((List.range (hi - lo).toNat).map fun (k : Nat) => .int (lo + k)) else none
  | _ => none

section
variable {prog : Program} {w : World} {A : Around} {s : Shared} {qc : Addr} {F F' : FM} {I : Addr} {ps : List PV} {i : Nat}

theorem IterAt.thereT {h : Heap} (x : IterAt prog w qc F h I ps i) : ∃ o T fs, h.get? I = some o ∧ o.cls = .type T ∧ ownedNames.contains T = false ∧ o.data = .fields fs := let ⟨_, _, _, t, st, _⟩ := x; t.there _ _ st
theorem IterAt.there {h : Heap} (x : IterAt prog w qc F h I ps i) : ∃ o, h.get? I = some o := let ⟨o, _, _, e, _⟩ := x.thereT; ⟨o, e⟩

theorem IterAt.frame {h h' : Heap} (x : IterAt prog w qc F h I ps i) (le : F.le F') (st : Sits F h) (st' : Sits F' h') (hI : ∀ o, h.get? I = some o → h'.get? I = some o) (hn : F' I = none) : IterAt prog w qc F' h' I ps i := by
  obtain ⟨fp, P, St, t, s0, _⟩ := x
  refine ⟨fp, P, St, ⟨t.walks, t.there, fun b hb hne => let ⟨o, e⟩ := t.frozen b hb hne; ⟨o, le _ _ e⟩, fun j v hj hp => let ⟨p, e, r⟩ := t.items j v hj hp; ⟨p, e, Rep.mono _ le r⟩⟩, ?_, hn⟩
  refine (t.walks { handled := none, depth := 0, frames := none, guards := none, units := 0 } rfl).frame i h h' s0 fun b hb o e => ?_
  by_cases hbI : b = I
  · subst hbI; exact hI o e
  · obtain ⟨o', e'⟩ := t.frozen b hb hbI
    have := st _ _ e'
    rw [this] at e; cases e
    exact st' _ _ (le _ _ e')

theorem IterAt.next (x : IterAt prog w qc F s.heap I ps i) (hA : A.handled = none) (hi : i < ps.length) {Q : Option Value → Shared → Prop} {E : Value → Shared → Prop}
    (h : ∀ v p h' tk, ps[i]? = some p → Rep qc F p v → IterAt prog w qc F h' I ps (i + 1) → Heap.ExtBut I s.heap h' → Q (some v) { s with heap := h', toks := tk }) : wpAny (model prog w) A (pyNext (.ref I)) Q E s := by
  obtain ⟨fp, P, St, t, s0, hn⟩ := x
  refine (t.walks A hA).item i s Q E hi s0 fun v h' tk hp s1 k => ?_
  obtain ⟨p, e, r⟩ := t.items i v hi hp
  exact h v p h' tk e r ⟨fp, P, St, t, s1, hn⟩ fun b o hb e => k b o (by simpa using hb) e

theorem IterAt.done (x : IterAt prog w qc F s.heap I ps ps.length) (hA : A.handled = none) {Q : Option Value → Shared → Prop} {E : Value → Shared → Prop}
    (h : ∀ h' tk, Heap.ExtBut I s.heap h' → Q none { s with heap := h', toks := tk }) : wpAny (model prog w) A (pyNext (.ref I)) Q E s := by
  obtain ⟨fp, P, St, t, s0, hn⟩ := x
  exact (t.walks A hA).done s Q E s0 fun h' tk k => h h' tk fun b o hb e => k b o (by simpa using hb) e

theorem IterAt.self (x : IterAt prog w qc F s.heap I ps i) (hA : A.handled = none) {Q : Value → Shared → Prop} {E : Value → Shared → Prop} (h : Q (.ref I) s) : wpAny (model prog w) A (pyIter (.ref I)) Q E s := by
  obtain ⟨fp, P, St, t, s0, hn⟩ := x
  exact (t.walks A hA).self i s Q E s0 h

noncomputable def Iters (prog : Program) (w : World) (qc : Addr) (A : Around) (F : FM) (s : Shared) (t : Sem Value) (ps : List PV) : Prop :=
  wpAny (model prog w) A t (fun v s' => ∃ I F', v = .ref I ∧ Grow F s F' s' ∧ s.heap.get? I = none ∧ IterAt prog w qc F' s'.heap I ps 0) NoE s

theorem iter_listAt {l : Addr} {vs : Array Value} (hl : s.heap.IsList l vs) (rl : RepL qc F ps vs.toList) (st : Sits F s.heap) (hF : ∃ o, F l = some o) : Iters prog w qc A F s (pyIter (.ref l)) ps := by
  have en : vs.size = ps.length := by rw [← rl.length, Array.length_toList]
  refine wpAny_pyIter_list hl ⟨_, F, rfl, Grow.heap (tk := s.toks) st (Keep.push _ _), push_new _, ?_⟩
  obtain ⟨ol, hol, _⟩ := id hl
  have hlt := Heap.lt_size hol
  refine ⟨_, _, _, ⟨fun A hA => en ▸ Walks.list hA s.heap.objs.size l (Nat.ne_of_lt hlt) vs, ?_, ?_, ?_⟩, ⟨⟨_, Heap.get?_push_size _ rfl, rfl, rfl⟩, hl.push _⟩, ?_⟩
  · rintro i h ⟨⟨o, e, c, fd⟩, _⟩
    exact ⟨o, _, _, e, c, by decide, fd⟩
  · intro b hb hne
    simp only [List.mem_cons, List.not_mem_nil, or_false] at hb
    rcases hb with rfl | rfl
    · exact absurd rfl hne
    · exact hF
  · intro j v hj e
    obtain ⟨p, hp, r⟩ := rl.getV j (v := v) (by simpa using e)
    exact ⟨p, hp, r⟩
  · cases q : F s.heap.objs.size with
    | none => rfl
    | some o => have := st _ _ q; rw [push_new] at this; cases this

theorem iter_tupAt {l : Addr} {vs : Array Value} (hl : s.heap.IsTuple l vs) (rl : RepL qc F ps vs.toList) (st : Sits F s.heap) (hF : ∃ o, F l = some o) : Iters prog w qc A F s (pyIter (.ref l)) ps := by
  have en : vs.size = ps.length := by rw [← rl.length, Array.length_toList]
  refine wpAny_pyIter_tuple hl ⟨_, F, rfl, Grow.heap (tk := s.toks) st (Keep.push _ _), push_new _, ?_⟩
  obtain ⟨ol, hol, _⟩ := id hl
  have hlt := Heap.lt_size hol
  refine ⟨_, _, _, ⟨fun A hA => en ▸ Walks.tuple hA s.heap.objs.size l (Nat.ne_of_lt hlt) vs, ?_, ?_, ?_⟩, ⟨⟨_, Heap.get?_push_size _ rfl, rfl, rfl⟩, hl.push _⟩, ?_⟩
  · rintro i h ⟨⟨o, e, c, fd⟩, _⟩
    exact ⟨o, _, _, e, c, by decide, fd⟩
  · intro b hb hne
    simp only [List.mem_cons, List.not_mem_nil, or_false] at hb
    rcases hb with rfl | rfl
    · exact absurd rfl hne
    · exact hF
  · intro j v hj e
    obtain ⟨p, hp, r⟩ := rl.getV j (v := v) (by simpa using e)
    exact ⟨p, hp, r⟩
  · cases q : F s.heap.objs.size with
    | none => rfl
    | some o => have := st _ _ q; rw [push_new] at this; cases this

theorem iter_str {x : Str} {t : Tok} (st : Sits F s.heap) : Iters prog w qc A F s (pyIter (.str x t)) (x.cps.toList.map fun c => .str ⟨#[c]⟩) := by
  have hn : F s.heap.objs.size = none := by
    cases q : F s.heap.objs.size with
    | none => rfl
    | some o => have := st _ _ q; rw [push_new] at this; cases this
  have hit : ∀ j v, j < (x.cps.toList.map fun c => PV.str ⟨#[c]⟩).length → SignAt x j v → ∃ p, (x.cps.toList.map fun c => PV.str ⟨#[c]⟩)[j]? = some p ∧ Rep qc F p v := by
    rintro j v hj ⟨c, u, e, rfl⟩
    refine ⟨.str ⟨#[c]⟩, ?_, u, rfl⟩
    rw [List.getElem?_map, Array.getElem?_toList, e]; rfl
  have en : x.cps.size = (x.cps.toList.map fun c => PV.str ⟨#[c]⟩).length := by simp
  cases ha : x.cps.all (· < 128)
  · refine wpAny_pyIter_wide ha ⟨_, F, rfl, Grow.heap (tk := s.toks) st (Keep.push _ _), push_new _, ?_⟩
    refine ⟨_, _, _, ⟨fun A hA => en ▸ Walks.strWide hA s.heap.objs.size x t, ?_, ?_, hit⟩, ⟨_, Heap.get?_push_size _ rfl, rfl, rfl⟩, hn⟩
    · rintro i h ⟨o, e, c, fd⟩; exact ⟨o, _, _, e, c, by decide, fd⟩
    · intro b hb hne; exact absurd (by simpa using hb) hne
  · refine wpAny_pyIter_ascii ha ⟨_, F, rfl, Grow.heap (tk := s.toks) st (Keep.push _ _), push_new _, ?_⟩
    refine ⟨_, _, _, ⟨fun A hA => en ▸ Walks.strAscii hA s.heap.objs.size x t, ?_, ?_, hit⟩, ⟨_, Heap.get?_push_size _ rfl, rfl, rfl⟩, hn⟩
    · rintro i h ⟨o, e, c, fd⟩; exact ⟨o, _, _, e, c, by decide, fd⟩
    · intro b hb hne; exact absurd (by simpa using hb) hne

theorem iter_rng {lo hi : Int} {r : Addr} {t u v : Tok} (st : Sits F s.heap) (hr : IsRange s.heap r lo hi 1 t u v) (h1 : -(2 ^ 60) < lo ∧ lo < 2 ^ 60) (h2 : -(2 ^ 60) < hi ∧ hi < 2 ^ 60) :
    Iters prog w qc A F s (pyIter (.ref r)) ((List.range (hi - lo).toNat).map fun (k : Nat) => .int (lo + k)) := by
  have hn : F s.heap.objs.size = none := by
    cases q : F s.heap.objs.size with
    | none => rfl
    | some o => have := st _ _ q; rw [push_new] at this; cases this
  have hsz : Builtin.Range.rangeSize lo hi 1 = (((hi - lo).toNat : Nat) : Int) := by
    unfold Builtin.Range.rangeSize
    rw [if_pos (by decide)]
    split <;> lia
  refine wpAny_pyIter_range hr (small_one (by lia) (by lia) (by lia) (by lia)) ⟨_, F, rfl, Grow.heap (tk := s.toks) st (Keep.push _ _), push_new _, ?_⟩
  have en : (hi - lo).toNat = ((List.range (hi - lo).toNat).map fun (k : Nat) => PV.int (lo + k)).length := by simp
  refine ⟨_, _, _, ⟨fun A hA => en ▸ Walks.range hA s.heap.objs.size lo 1 (hi - lo).toNat, ?_, ?_, ?_⟩, ?_, hn⟩
  · rintro i h e; exact ⟨_, _, _, e, rfl, by decide, rfl⟩
  · intro b hb hne; exact absurd (by simpa using hb) hne
  · rintro j v hj ⟨t, rfl⟩
    simp only [List.length_map, List.length_range] at hj
    refine ⟨.int (lo + j), ?_, t, by simp⟩
    simp [hj]
  · show Heap.get? _ _ = _
    rw [Heap.get?_push_size _ rfl, hsz]
    simp [rawInt]

theorem iter_sound {p : PV} {v : Value} (hb : itemsPV p = some ps) (st : Sits F s.heap) (rp : Rep qc F p v) : Iters prog w qc A F s (pyIter v) ps := by
  unfold itemsPV at hb
  split at hb
  · split at hb
    · cases hb
      obtain ⟨a, o, vs, n, rfl, e1, e2, e3, rl⟩ := rp
      exact iter_tupAt ⟨o, st _ _ e1, e2, n, e3⟩ rl st ⟨_, e1⟩
    · cases hb
  · split at hb
    · cases hb
      obtain ⟨a, o, vs, n, rfl, e1, e2, e3, rl⟩ := rp
      exact iter_listAt (isList_rep st e1 e2 e3) rl st ⟨_, e1⟩
    · cases hb
  · cases hb
    obtain ⟨t, rfl⟩ := rp
    exact iter_str st
  · split at hb
    · rename_i hc
      cases hb
      obtain ⟨a, t, u, w, rfl, e⟩ := rp
      exact iter_rng st (st _ _ e) hc.1 hc.2
    · cases hb
  · cases hb
end
end Nw

namespace Nw
set_option tactic.hygienic false

section
variable {prog : Program} {w : World} {A : Around} {s : Shared} {qc : Addr} {F F' : FM} {I : Addr} {ps : List PV} {i : Nat}

theorem Grow.iter {s0 : Shared} {F0 : FM} {h' : Heap} {tk : Nat} (g : Grow F0 s0 F s) (hn : F I = none) (h0 : s0.heap.get? I = none) (k : Heap.ExtBut I s.heap h') : Grow F0 s0 F { s with heap := h', toks := tk } := by
  refine ⟨g.le, fun a o e => ?_, fun a o e => ?_, g.fresh, g.os, g.gens⟩
  · exact k a o (by rintro rfl; rw [hn] at e; cases e) (g.sits a o e)
  · exact k a o (by rintro rfl; rw [h0] at e; cases e) (g.keep a o e)

theorem draw_iter {s0 : Shared} {F0 : FM} (hA : A.handled = none) (h0 : s0.heap.get? I = none) : ∀ (n : Nat) (i : Nat) (s : Shared) (Q : List Value → Shared → Prop) (E : Value → Shared → Prop), Grow F0 s0 F s → IterAt prog w qc F s.heap I ps i → i + n ≤ ps.length →
    (∀ vs s', Grow F0 s0 F s' → RepL qc F ((ps.drop i).take n) vs → IterAt prog w qc F s'.heap I ps (i + n) → Q vs s') → wpAny (model prog w) A (draw (.ref I) n) Q E s
  | 0, i, s, Q, E, g, x, _, h => wpAny_pure (h [] s g (by simp [RepL]) x)
  | n + 1, i, s, Q, E, g, x, hi, h => by
    obtain ⟨_, _, _, _, _, hn⟩ := id x
    show wpAny _ _ (pyNext (.ref I) >>= _) _ _ _
    refine wpAny_bind (x.next hA (by lia) fun v p h' tk e r x' k => ?_)
    refine wpAny_bind (wpAny_holding (draw_iter hA h0 n (i + 1) _ _ _ (g.iter hn h0 k) x' (by lia) fun vs s' g' r' x'' => wpAny_pure (h _ _ g' ?_ ?_)))
    · have hd : ps.drop i = p :: ps.drop (i + 1) := by
        obtain ⟨hlt, he⟩ := List.getElem?_eq_some_iff.mp e
        rw [List.drop_eq_getElem_cons hlt, he]
      rw [hd, List.take_succ_cons]
      exact ⟨v, vs, rfl, r, r'⟩
    · rw [show i + (n + 1) = i + 1 + n by lia]; exact x''

theorem iterable_tuple {v : Value} {T id : String} {Q : Bool → Shared → Prop} {E : Value → Shared → Prop} (hT : s.TypeIs v T) (hl : typeLookup (.type T) "__iter__" = pure (some (.builtin id))) (h : Q false s) : wpAny (model prog w) A (notIterableAtAll v) Q E s := by
  unfold notIterableAtAll
  refine wpAny_bind (wpAny_specialOf hT hl ?_)
  exact wpAny_pure h

noncomputable def partsPV : PV → Option (List PV)
  | .tup ps => if ps.length < sizeLine then some ps else none
  | .list ps => if ps.length < sizeLine then some ps else none
  | _ => none

theorem unpackItems_sound {p : PV} {v : Value} {n : Nat} (hA : A.handled = none) (hb : partsPV p = some ps) (hn : n = ps.length) (st : Sits F s.heap) (rp : Rep qc F p v) : EvL qc (model prog w) A F s (unpackItems v n none) ps := by
  subst hn
  have it : Iters prog w qc A F s (pyIter v) ps := iter_sound (p := p) (by
    unfold partsPV at hb
    unfold itemsPV
    split at hb
    · split at hb
      · rename_i h; cases hb; simp [h]
      · cases hb
    · split at hb
      · rename_i h; cases hb; simp [h]
      · cases hb
    · cases hb) st rp
  have ni : ∀ (Q : Bool → Shared → Prop) (E : Value → Shared → Prop), Q false s → wpAny (model prog w) A (notIterableAtAll v) Q E s := by
    unfold partsPV at hb
    split at hb
    · obtain ⟨a, o, vs, n, rfl, e1, e2, e3, rl⟩ := rp
      exact fun Q E h => iterable_tuple (T := "tuple") ⟨o, st _ _ e1, e2⟩ PySem.F.slot_tuple_iter.lookup h
    · obtain ⟨a, o, vs, n, rfl, e1, e2, e3, rl⟩ := rp
      exact fun Q E h => iterable_tuple (T := "list") ⟨o, st _ _ e1, e2⟩ slot_list_iter.lookup h
    · cases hb
  unfold unpackItems
  refine wpAny_bind (ni _ _ ?_)
  simp only [Bool.false_eq_true, if_false]
  refine wpAny_bind (wpAny_holding (wpAny_mono it (fun w' s' h => ?_) fun _ _ f => f))
  obtain ⟨I, F', rfl, g, hI, x⟩ := h
  refine wpAny_bind (wpAny_holding (draw_iter hA hI ps.length 0 s' _ _ g x (by lia) fun vs s'' g' r x' => ?_))
  have hl := r.length
  simp only [List.drop_zero, List.take_length] at hl r
  rw [hl]
  simp only [Nat.lt_irrefl, if_false]
  rw [Nat.zero_add] at x'
  obtain ⟨_, _, _, _, _, hIn⟩ := id x'
  refine wpAny_bind (wpAny_holding (x'.done hA fun h' tk k => ?_))
  simp only [Option.isSome_none, Bool.false_eq_true, if_false]
  exact wpAny_pure ⟨F', g'.iter hIn hI k, r⟩
end
end Nw

namespace Nw
set_option tactic.hygienic false

/-- what the rules ask others -/
structure Cfg where
  const : Str → Option PV
  call : Str → List PV → PV → Prop
  scall : Str → Slot → Option PV
  meth : Str → PV → List PV → Option PV
  smeth : Str → Slot → List PV → Option PV
  cmpq : CmpOp → PV → PV → Option Bool

noncomputable def Cfg.cmp (c : Cfg) (op : CmpOp) (a b : PV) : Option Bool := (cmpPV op a b).or (c.cmpq op a b)

noncomputable def slotOf (ρ : Rho) : Expr → Option Slot
  | .Name x _ => match ρ x with
    | some (.imm _) => none
    | some sl => if okName x then some sl else none
    | none => none
  | _ => none

noncomputable def notSetE : Expr → Bool
  | .Set .. => false
  | _ => true
noncomputable def notSuper : Expr → Bool
  | .Call _ [] [] _ => false
  | _ => true
noncomputable def plainE : Expr → Bool
  | .Starred .. => false
  | .Slice .. => false
  | _ => true

noncomputable def isLC (N : Names) (x : Str) : Bool := N.lookup x == some .local || N.lookup x == some .cell
noncomputable def nameOf : Expr → Option (Str × Pos)
  | .Name x p => some (x, p)
  | _ => none
theorem nameOf_spec {e : Expr} {x : Str × Pos} (h : nameOf e = some x) : e = .Name x.1 x.2 := by
  cases e <;> first | (cases h; done) | (cases h; rfl)
noncomputable def bindNames (fresh : Bool) (N : Names) : List Expr → List PV → Rho → Option Rho
  | [], [], ρ => some ρ
  | e :: es, p :: ps, ρ => (nameOf e).bind fun x => if isLC N x.1 && (!fresh || (ρ x.1).isNone) then bindNames fresh N es ps (ρ.set x.1 (.imm p)) else none
  | _, _, _ => none
noncomputable def bindT (fresh : Bool) (N : Names) : Expr → PV → Rho → Option Rho
  | .Name x pos, p, ρ => bindNames fresh N [.Name x pos] [p] ρ
  | .Tuple es _ _, p, ρ => (partsPV p).bind fun ps => bindNames fresh N es ps ρ
  | _, _, _ => none

theorem ite_none {α : Type} {c : Prop} [Decidable c] {x : Option α} {r : α} (h : (if c then x else none) = some r) : c ∧ x = some r := by
  by_cases hc : c
  · rw [if_pos hc] at h; exact ⟨hc, h⟩
  · rw [if_neg hc] at h; cases h
theorem bindNames_nil {fresh : Bool} {N : Names} {ps : List PV} {ρ ρ1 : Rho} (h : bindNames fresh N [] ps ρ = some ρ1) : ps = [] ∧ ρ1 = ρ := by
  cases ps with
  | nil => cases h; exact ⟨rfl, rfl⟩
  | cons => cases h
theorem bindNames_inv {fresh : Bool} {N : Names} {e : Expr} {es : List Expr} {ps : List PV} {ρ ρ1 : Rho} {P : Prop} (h : bindNames fresh N (e :: es) ps ρ = some ρ1)
    (k : ∀ x pos p qs, e = .Name x pos → ps = p :: qs → isLC N x = true ∧ (!fresh || (ρ x).isNone) = true → bindNames fresh N es qs (ρ.set x (.imm p)) = some ρ1 → P) : P := by
  cases ps with
  | nil => cases h
  | cons p qs =>
    obtain ⟨x, hx, h⟩ := Option.bind_eq_some_iff.mp h
    have h := ite_none h
    exact k x.1 x.2 p qs (nameOf_spec hx) rfl (Bool.and_eq_true_iff.mp h.1) h.2
theorem bindT_inv {fresh : Bool} {N : Names} {t : Expr} {p : PV} {ρ ρ1 : Rho} {P : Prop} (h : bindT fresh N t p ρ = some ρ1) (k1 : ∀ x pos, t = .Name x pos → bindNames fresh N [.Name x pos] [p] ρ = some ρ1 → P)
    (k2 : ∀ es k tp ps, t = .Tuple es k tp → partsPV p = some ps → bindNames fresh N es ps ρ = some ρ1 → P) : P := by
  cases t <;> first | (cases h; done) | skip
  · exact k1 _ _ rfl h
  · obtain ⟨ps, hp, hb⟩ := Option.bind_eq_some_iff.mp h
    exact k2 _ _ _ ps rfl hp hb

noncomputable def nodupB : List Str → Bool
  | [] => true
  | x :: xs => !xs.contains x && nodupB xs
noncomputable def compOk (N : Names) (scope : Scope) : Bool :=
  nodupB (scope.names.map (·.1)) && scope.kind == .function && scope.names.all fun (n, k) => k != .free || N.lookup n == some .cell || N.lookup n == some .free
noncomputable def rhoIn (S : Names) (ρ : Rho) : Rho := fun x => if S.lookup x == some .free then ρ x else none

/-- what the others' answers are worth -/
noncomputable def Callee (W : Wd) (fv : Value) : Prop := ∀ (A : Around) (s : Shared) (Q : Keeper → Shared → Prop) (E : Value → Shared → Prop), Keep W.hB s.heap → (∀ kp, Q kp s) → wpAny W.M A (keeperOf fv) Q E s
noncomputable def CallOK (W : Wd) (k : Nat) (f : Str) (ps : List PV) (r : PV) : Prop := ∃ fv, W.glob f fv ∧ Callee W fv ∧ ∀ (A : Around) (F : FM) (s : Shared) (vs : List Value), Amb A k → Sits F s.heap → Keep W.hB s.heap → RepL W.qc F ps vs → Ev W.qc W.M A F s (PySem.call fv vs) r
noncomputable def SCallOK (W : Wd) (k : Nat) (f : Str) (sl : Slot) (r : PV) : Prop := ∃ fv, W.glob f fv ∧ Callee W fv ∧ ∀ (A : Around) (F : FM) (s : Shared) (env : Env) (v : Value), Amb A k → Sits F s.heap → Keep W.hB s.heap → SlotOK W F s.heap env sl v → Ev W.qc W.M A F s (PySem.call fv [v]) r
noncomputable def SMethOK (W : Wd) (k : Nat) (m : Str) (sl : Slot) (ps : List PV) (r : PV) : Prop := ∃ fv, Callee W fv ∧
    (∀ (A : Around) (F : FM) (s : Shared) (env : Env) (v : Value) (pl : Sem Bool) (Q : Value × List Value → Shared → Prop) (E : Value → Shared → Prop), Sits F s.heap → Keep W.hB s.heap → SlotOK W F s.heap env sl v → Q (fv, [v]) s → wpAny W.M A (getMethod v m pl) Q E s) ∧
    ∀ (A : Around) (F : FM) (s : Shared) (env : Env) (v : Value) (vs : List Value), Amb A k → Sits F s.heap → Keep W.hB s.heap → SlotOK W F s.heap env sl v → RepL W.qc F ps vs → Ev W.qc W.M A F s (PySem.call fv (v :: vs)) r
noncomputable def CmpqOK (W : Wd) (k : Nat) (op : CmpOp) (a b : PV) (r : Bool) : Prop := ∀ (A : Around) (F : FM) (s : Shared) (v u : Value), Amb A k → Sits F s.heap → Keep W.hB s.heap → Rep W.qc F a v → Rep W.qc F b u → Ev W.qc W.M A F s (compareOp op v u) (.bool r)
structure CfgOK (W : Wd) (c : Cfg) (k : Nat) : Prop where
  const : ∀ x p, c.const x = some p → ∃ v, W.glob x v ∧ ∀ F, Rep W.qc F p v
  call : ∀ f ps r, c.call f ps r → CallOK W k f ps r
  scall : ∀ f sl r, c.scall f sl = some r → SCallOK W k f sl r
  meth : ∀ m p ps r, c.meth m p ps = some r → ∃ T id, PlainAttrs T ∧ PySem.Slot T m id ∧ typeOf (.builtin id) = pure (.type "method_descriptor") ∧
    (∀ (F : FM) (s : Shared) (v : Value), Sits F s.heap → Rep W.qc F p v → s.TypeIs v T ∧ ∀ a, v = .ref a → ∃ ob, s.heap.get? a = some ob ∧ ob.dict = none) ∧
    ∀ (A : Around) (F : FM) (s : Shared) (v : Value) (vs : List Value), Amb A k → Sits F s.heap → Keep W.hB s.heap → Rep W.qc F p v → RepL W.qc F ps vs → Ev W.qc W.M A F s (PySem.call (.builtin id) (v :: vs)) r
  smeth : ∀ m sl ps r, c.smeth m sl ps = some r → SMethOK W k m sl ps r
  cmpq : ∀ op a b r, c.cmpq op a b = some r → CmpqOK W k op a b r

/-- a world that answers so -/
structure Ctx (c : Cfg) where
  W : Wd
  A : Around
  k : Nat
  ok : WdOK W
  cok : CfgOK W c k
  hA : Amb A k

noncomputable def Val (W : Wd) (A : Around) (h0 : Heap) (env : Env) (N : Names) (ρ : Rho) (e : Expr) (p : PV) : Prop := ∀ F s, FI W h0 F s env N ρ → Ev W.qc W.M A F s (eval e env) p
noncomputable def Tru (W : Wd) (A : Around) (h0 : Heap) (env : Env) (N : Names) (ρ : Rho) (e : Expr) (b : Bool) : Prop := ∀ F s, FI W h0 F s env N ρ → wpAny W.M A (isTrue e env (eval e env)) (fun c s' => c = b ∧ ∃ F', Grow F s F' s') NoE s

/-- an expression gives a plain value, wherever the config's answers hold -/
structure ev (c : Cfg) (n : Nat) (N : Names) (ρ : Rho) (e : Expr) (p : PV) : Prop where
  plain : plainE e = true
  run : ∀ (X : Ctx c) h0 env, Val X.W X.A h0 env N ρ e p ∧ ∀ b, truePV p = some b → Tru X.W X.A h0 env N ρ e b

section
variable {c : Cfg} {n : Nat} {N : Names} {ρ : Rho}

theorem ev.val {e : Expr} {p : PV} (h : ev c n N ρ e p) (X : Ctx c) {h0 : Heap} {env : Env} : Val X.W X.A h0 env N ρ e p := (h.2 X h0 env).1
theorem ev.tru {e : Expr} {p : PV} {b : Bool} (h : ev c n N ρ e p) (hb : truePV p = some b) (X : Ctx c) {h0 : Heap} {env : Env} : Tru X.W X.A h0 env N ρ e b := (h.2 X h0 env).2 b hb
theorem ev.star {e : Expr} {p : PV} (h : ev c n N ρ e p) (rest : List Expr) (env : Env) : starEach (e :: rest) env = (false, eval e env) :: starEach rest env := by
  have := h.1
  cases e <;> first | rfl | cases this

theorem tru_of {W : Wd} {A : Around} {h0 : Heap} {env : Env} {e : Expr} {p : PV} {b : Bool} (hv : Val W A h0 env N ρ e p) (hb : truePV p = some b) (he : isTrue e env (eval e env) = (do let v ← eval e env; standAt e.pos; holding [v] (truthy v))) : Tru W A h0 env N ρ e b := fun F s fi =>
  wpAny_isTrue_value ((hv F s fi).use fun v F1 s1 g1 r1 => truePV_sound hb r1 ⟨rfl, F1, g1⟩) he

theorem ev.mk' {e : Expr} {p : PV} (h1 : plainE e = true) (h2 : ∀ env, isTrue e env (eval e env) = (do let v ← eval e env; standAt e.pos; holding [v] (truthy v))) (h3 : ∀ (X : Ctx c) h0 env, Val X.W X.A h0 env N ρ e p) : ev c n N ρ e p :=
  ⟨h1, fun X h0 env => ⟨h3 X h0 env, fun _ hb => tru_of (h3 X h0 env) hb (h2 env)⟩⟩

/-! names and constants -/
theorem e_name {x : Str} {pos : Pos} {p : PV} (h : ρ x = some (.imm p)) (hx : okName x = true) : ev c (n + 1) N ρ (.Name x pos) p :=
  .mk' rfl (fun _ => rfl) fun _ _ _ F _ fi => let ⟨_, hv, hb⟩ := fi.slots x _ h; name_bound fi.kind hb hx ⟨F, .refl fi.sits, hv⟩
theorem e_glob {x : Str} {pos : Pos} {p : PV} (_ : ρ x = none) (hx : okName x = true) (hN : (N.lookup x == some .globalImplicit) = true) (hc : c.const x = some p) : ev c (n + 1) N ρ (.Name x pos) p :=
  .mk' rfl (fun _ => rfl) fun X _ _ F _ fi => let ⟨_, hv, hr⟩ := X.cok.const _ _ hc; name_glob X.ok fi (eq_of_beq hN) hx hv ⟨F, .refl fi.sits, hr F⟩
theorem e_int {i : Int} {j : Nat} {pos : Pos} : ev c (n + 1) N ρ (.Constant (.int i) j pos) (.int i) :=
  .mk' rfl (fun _ => rfl) fun _ _ _ F _ fi => wpAny_Constant_int ⟨F, .tok fi.sits, _, rfl⟩
theorem e_str {i : Str} {j : Nat} {pos : Pos} : ev c (n + 1) N ρ (.Constant (.str i) j pos) (.str i) :=
  .mk' rfl (fun _ => rfl) fun _ _ _ F _ fi => wpAny_Constant_str ⟨F, .tok fi.sits, _, rfl⟩
theorem e_boolc {i : Bool} {j : Nat} {pos : Pos} : ev c (n + 1) N ρ (.Constant (.bool i) j pos) (.bool i) :=
  .mk' rfl (fun _ => rfl) fun _ _ _ F _ fi => wpAny_Constant_bool ⟨F, .refl fi.sits, rfl⟩
/-! operators -/
theorem e_bin {l r : Expr} {op : Operator} {pos : Pos} {a b p : PV} (h1 : ev c n N ρ l a) (h2 : ev c n N ρ r b) (h3 : bnop op a b = some p) : ev c (n + 1) N ρ (.BinOp l op r pos) p :=
  .mk' rfl (fun _ => rfl) fun X _ _ F s fi => wpAny_BinOp ((h1.val X F s fi).use fun _ F1 s1 g1 r1 => (h2.val X F1 s1 (fi.grow g1)).use fun _ _ _ g2 r2 => Ev.grow (g1.trans g2) (bnop_sound h3 g2.sits (r1.mono _ g2.le) r2))
theorem e_un {x : Expr} {op : UnaryOp} {pos : Pos} {a p : PV} (h1 : ev c n N ρ x a) (h3 : unPV op a = some p) : ev c (n + 1) N ρ (.UnaryOp op x pos) p := by
  have hv : ∀ (X : Ctx c) h0 env, Val X.W X.A h0 env N ρ (.UnaryOp op x pos) p := fun X _ _ F s fi => wpAny_UnaryOp ((h1.val X F s fi).use fun _ _ _ g1 r1 => Ev.grow g1 (unPV_sound h3 g1.sits r1))
  cases op with
  | Not =>
    refine ⟨rfl, fun X h0 env => ⟨hv X h0 env, fun b hb F s fi => ?_⟩⟩
    have : ∃ b', truePV a = some b' ∧ b = !b' := by
      cases a <;> first | cases h3 | skip
      cases hb
      exact ⟨_, rfl, rfl⟩
    obtain ⟨b', hb', rfl⟩ := this
    exact wpAny_isTrue_Not (wpAny_mono (h1.tru hb' X F s fi) (fun c s1 ⟨e, h⟩ => ⟨e ▸ rfl, h⟩) fun _ _ x => x)
  | _ => exact .mk' rfl (fun _ => rfl) hv

theorem cmp_sound {X : Ctx c} {op : CmpOp} {a b : PV} {r : Bool} (h : c.cmp op a b = some r) {F : FM} {s : Shared} {v u : Value} (st : Sits F s.heap) (base : Keep X.W.hB s.heap) (ra : Rep X.W.qc F a v) (rb : Rep X.W.qc F b u) : Ev X.W.qc X.W.M X.A F s (compareOp op v u) (.bool r) := by
  have h : (cmpPV op a b).or (c.cmpq op a b) = some r := h
  cases hq : cmpPV op a b with
  | some r' =>
    rw [hq] at h
    cases h
    exact cmpPV_sound hq (by have := X.hA.units; lia) st ra rb
  | none =>
    rw [hq] at h
    exact X.cok.cmpq op a b r h X.A F s v u X.hA st base ra rb

theorem marked1 {op : CmpOp} {e : Expr} {env : Env} (h : notSetE e = true) : markedEach [op] [e] (evalEach [e] env) = [eval e env] := by
  show [markedBehindIn op e (eval e env)] = [eval e env]
  rw [markedBehindIn_of_false]
  cases e <;> first | rfl | cases h
theorem e_cmp {l r : Expr} {op : CmpOp} {pos : Pos} {a b : PV} {q : Bool} (h1 : ev c n N ρ l a) (h2 : ev c n N ρ r b) (h3 : c.cmp op a b = some q) (hs : notSetE r = true) : ev c (n + 1) N ρ (.Compare l [op] [r] pos) (.bool q) := by
  refine ⟨rfl, fun X h0 env => ⟨fun F s fi => ?_, fun b' hb F s fi => ?_⟩⟩
  · unfold Ev
    rw [arm_eval_Compare, marked1 hs]
    exact wpAny_bind ((h1.val X F s fi).use fun _ F1 s1 g1 r1 => wpAny_bind (wpAny_holding ((h2.val X F1 s1 (fi.grow g1)).use fun _ F2 s2 g2 r2 => wpAny_bind (wpAny_standAt (wpAny_operating (Ev.grow (g1.trans g2) (cmp_sound (X := X) h3 g2.sits ((fi.base.trans g1.keep).trans g2.keep) (r1.mono _ g2.le) r2)))))))
  · cases hb
    rw [arm_isTrue_Compare, marked1 hs]
    exact wpAny_bind ((h1.val X F s fi).use fun _ F1 s1 g1 r1 => wpAny_bind (wpAny_holding ((h2.val X F1 s1 (fi.grow g1)).use fun _ F2 s2 g2 r2 => wpAny_bind (wpAny_standAt (wpAny_bind (wpAny_operating ((cmp_sound (X := X) h3 g2.sits ((fi.base.trans g1.keep).trans g2.keep) (r1.mono _ g2.le) r2).use fun _ _ _ g3 r3 => by
      cases r3; exact wpAny_holding (wpAny_truthy_bool ⟨rfl, _, (g1.trans g2).trans g3⟩))))))))

end
end Nw

namespace Nw

noncomputable def evs (f : Expr → PV → Prop) : List Expr → List PV → Prop
  | [], ps => ps = []
  | e :: es, ps => ∃ p qs, ps = p :: qs ∧ f e p ∧ evs f es qs
theorem evs_nil {f : Expr → PV → Prop} : evs f [] [] := rfl
theorem evs_cons {f : Expr → PV → Prop} {e : Expr} {es : List Expr} {p : PV} {ps : List PV} (h1 : f e p) (h2 : evs f es ps) : evs f (e :: es) (p :: ps) := ⟨p, ps, rfl, h1, h2⟩
theorem evs_length {f : Expr → PV → Prop} : ∀ {vs : List Expr} {ps : List PV}, evs f vs ps → ps.length = vs.length
  | [], _, h => by cases h; rfl
  | _ :: _, _, ⟨_, _, e, _, h⟩ => by subst e; exact congrArg Nat.succ (evs_length h)

section
variable {c : Cfg} {n : Nat} {N : Names} {ρ : Rho}

theorem evs_sound {X : Ctx c} {h0 : Heap} {env : Env} {pos : Pos} : ∀ {es : List Expr} {ps : List PV}, evs (ev c n N ρ) es ps → ∀ (F : FM) (s : Shared), FI X.W h0 F s env N ρ → EvL X.W.qc X.W.M X.A F s (spliced (backTo pos (starEach es env))) ps
  | [], _, h, F, s, fi => by cases h; exact wpAny_items_nil ⟨F, .refl fi.sits, rfl⟩
  | e :: es, _, ⟨p, qs, e0, h1, h2⟩, F, s, fi => by
    subst e0
    exact wpAny_items_cons ((h1.val X F s fi).use fun v F' s' g r => (evs_sound (pos := pos) h2 F' s' (fi.grow g)).use fun vs F'' s'' g' rs => ⟨F'', g.trans g', v, vs, rfl, Rep.mono _ g'.le r, rs⟩) (h1.star es env)
theorem evs_flat {env : Env} {pos : Pos} : ∀ {es : List Expr} {ps : List PV}, evs (ev c n N ρ) es ps → (backTo pos (starEach es env)).any (·.1) = false ∧ (backTo pos (starEach es env)).length = es.length
  | [], _, _ => ⟨rfl, rfl⟩
  | e :: es, _, ⟨p, qs, _, h1, h2⟩ => by
    have ih := evs_flat (env := env) (pos := pos) h2
    have hst := h1.star es env
    simp only [backTo] at ih ⊢
    rw [hst]
    exact ⟨ih.1, congrArg Nat.succ ih.2⟩

theorem evalArgs_of {W : Wd} {A : Around} {fv : Value} {trees : List (Bool × Sem Value)} {Q : Args → Shared → Prop} {E : Value → Shared → Prop} {s : Shared} (hp : trees.any (·.1) = false)
    (h : wpAny W.M A (spliced trees) (fun vs s' => Q ⟨vs, []⟩ s') E s) : wpAny W.M A (evalArgs fv true trees []) Q E s := by
  cases trees with
  | nil =>
    unfold evalArgs
    show wpAny W.M A (spliced [] >>= _) Q E s
    refine wpAny_bind (wpAny_mono h (fun vs s' h' => ?_) fun _ _ x => x)
    refine wpAny_holding ?_
    exact wpAny_bind (wpAny_pure (wpAny_bind (wpAny_pure (wpAny_pure h'))))
  | cons t ts =>
    obtain ⟨b, x⟩ := t
    cases b with
    | true => cases hp
    | false => exact PySem.Calls.evalArgs_plain h

theorem callWith_of {W : Wd} {A : Around} {pos : Pos} {fv : Value} {first : List Value} {trees : List (Bool × Sem Value)} {Q : Value → Shared → Prop} {E : Value → Shared → Prop} {s : Shared} (hp : trees.any (·.1) = false) (hc : Callee W fv)
    (h : wpAny W.M A (spliced trees) (fun vs s' => Keep W.hB s'.heap ∧ wpAny W.M A (call fv (first ++ vs)) Q E s') E s) : wpAny W.M A (callWith pos fv first trees []) Q E s := by
  unfold callWith
  refine wpAny_bind (wpAny_holding (evalArgs_of hp (wpAny_mono h (fun vs s₁ h₁ => wpAny_bind (wpAny_standAt ?_)) fun _ _ x => x)))
  have tail : ∀ {t : Sem Value}, wpAny W.M A t Q E s₁ → wpAny W.M A (t >>= fun r => holding [r] point >>= fun _ => pure r) Q E s₁ :=
    fun ht => wpAny_bind (wpAny_mono ht (fun r s₂ hr => wpAny_bind (wpAny_holding (wpAny_point (wpAny_pure hr)))) fun _ _ x => x)
  simp only [hp, List.any_nil, Bool.or_false]
  refine wpAny_bind (m := keeperOf fv) (hc A s₁ _ _ h₁.1 fun kp => ?_)
  cases kp with
  | frame =>
    dsimp only
    refine wpAny_ite ?_
    split
    · exact tail h₁.2
    · exact tail (by unfold callMarked; exact PySem.Calls.wpAny_keep h₁.2)
  | boundFrame =>
    dsimp only
    refine wpAny_ite ?_
    split
    · exact tail h₁.2
    · exact tail (by unfold callMarked; exact PySem.Calls.wpAny_keep h₁.2)
  | machine => exact tail h₁.2
  | caller => exact tail (wpAny_operating h₁.2)

theorem callee_builtin {W : Wd} (id : String) : Callee W (.builtin id) := fun _ _ _ _ _ h => wpAny_pure (h _)
theorem callee_type {W : Wd} (T : String) : Callee W (.type T) := fun _ _ _ _ _ h => wpAny_pure (h _)
theorem callee_func {W : Wd} {a : Addr} {o : Obj} {fd : FuncData} (ho : W.hB.get? a = some o) (hd : o.data = .func fd) : Callee W (.ref a) := fun A s Q E k h => by
  unfold keeperOf
  refine wpAny_bind (wpAny_load (k _ _ ho) ?_)
  rw [hd]
  exact wpAny_pure (h _)

theorem call_sound {X : Ctx c} {h0 : Heap} {env : Env} {pos : Pos} {fv : Value} {first : List Value} {es : List Expr} {ps : List PV} {r : PV} {F : FM} {s : Shared} (fi : FI X.W h0 F s env N ρ) (h : evs (ev c n N ρ) es ps) (hc : Callee X.W fv)
    (hcall : ∀ F' s' vs, Grow F s F' s' → RepL X.W.qc F' ps vs → Ev X.W.qc X.W.M X.A F' s' (call fv (first ++ vs)) r) : Ev X.W.qc X.W.M X.A F s (callWith pos fv first (backTo pos (starEach es env)) []) r :=
  callWith_of (evs_flat h).1 hc ((evs_sound h F s fi).use fun vs F' s' g rs => ⟨fi.base.trans g.keep, Ev.grow g (hcall F' s' vs g rs)⟩)

/-! shown lists and tuples -/
theorem e_list {es : List Expr} {pos : Pos} {ps : List PV} (h : evs (ev c n N ρ) es ps) (hs : ps.length ≤ sizeLine) : ev c (n + 1) N ρ (.List es pos) (.list ps) :=
  .mk' rfl (fun _ => rfl) fun _ _ env F s fi => by
    unfold Ev
    rw [arm_eval_List]
    exact wpAny_bind (wpAny_standAt (wpAny_bind ((evs_sound h F s fi).use fun _ _ _ g1 r1 => Ev.grow g1 (ev_newList r1 g1.sits hs))))
theorem e_tup {es : List Expr} {k : Nat} {pos : Pos} {ps : List PV} (h : evs (ev c n N ρ) es ps) (hs : ps.length ≤ sizeLine) : ev c (n + 1) N ρ (.Tuple es k pos) (.tup ps) :=
  .mk' rfl (fun _ => rfl) fun _ _ env F s fi => by
    unfold Ev
    rw [arm_eval_Tuple]
    exact wpAny_bind (wpAny_standAt (wpAny_bind ((evs_sound h F s fi).use fun _ _ _ g1 r1 => Ev.grow g1 (ev_newTuple r1 g1.sits hs))))

/-! parts -/
theorem slotOf_spec {e : Expr} {sl : Slot} (h : slotOf ρ e = some sl) : ∃ x pos, e = .Name x pos ∧ ρ x = some sl ∧ okName x = true ∧ sl.isMut = true := by
  cases e <;> first | cases h | skip
  rename_i x pos
  refine ⟨x, pos, rfl, ?_⟩
  have h : (match ρ x with
    | some (.imm _) => none
    | some sl => if okName x then some sl else none
    | none => none) = some sl := h
  cases hx : ρ x with
  | none => rw [hx] at h; cases h
  | some s2 =>
    rw [hx] at h
    cases s2 with
    | imm p => cases h
    | _ =>
      cases ho : okName x with
      | false => rw [ho] at h; cases h
      | true => rw [ho] at h; cases h; exact ⟨rfl, rfl, rfl⟩
theorem slot_eval {W : Wd} {A : Around} {h0 : Heap} {env : Env} {o : Expr} {sl : Slot} (h : slotOf ρ o = some sl) {F : FM} {s : Shared} (fi : FI W h0 F s env N ρ)
    {Q : Value → Shared → Prop} {E : Value → Shared → Prop} (hk : ∀ v, SlotOK W F s.heap env sl v → Q v s) : wpAny W.M A (eval o env) Q E s := by
  obtain ⟨x, pos, rfl, hx, hn, _⟩ := slotOf_spec h
  obtain ⟨v, hv, hb⟩ := fi.slots x sl hx
  exact name_bound fi.kind hb hn (hk v hv)

theorem e_sublst {o i : Expr} {pos : Pos} {ps : List PV} {j : Int} {p : PV} (hs : slotOf ρ o = some (.lst ps)) (h1 : ev c n N ρ i (.int j)) (h2 : idxPV (.list ps) j = some p) : ev c (n + 1) N ρ (.Subscript o i pos) p :=
  .mk' rfl (fun _ => rfl) fun X _ _ F s fi => by
    refine Subscript_ (slot_eval hs fi fun v hv => (h1.val X F s fi).use fun u F1 s1 g1 r1 => ?_)
    obtain ⟨a, vs, nn, rfl, e1, rl, _⟩ := hv
    obtain ⟨t, rfl⟩ := r1
    exact Ev.grow g1 (idx_list ⟨_, g1.keep _ _ e1, rfl, nn, rfl⟩ (RepL.mono _ g1.le rl) g1.sits h2)
theorem e_sub {o i : Expr} {pos : Pos} {q : PV} {j : Int} {p : PV} (_ : slotOf ρ o = none) (h0 : ev c n N ρ o q) (h1 : ev c n N ρ i (.int j)) (h2 : idxPV q j = some p) : ev c (n + 1) N ρ (.Subscript o i pos) p :=
  .mk' rfl (fun _ => rfl) fun X _ _ F s fi => by
    refine Subscript_ ((h0.val X F s fi).use fun v F1 s1 g1 r1 => (h1.val X F1 s1 (fi.grow g1)).use fun u F2 s2 g2 r2 => ?_)
    obtain ⟨t, rfl⟩ := r2
    exact Ev.grow (g1.trans g2) (idxPV_sound h2 g2.sits (r1.mono _ g2.le))
noncomputable def partPV (f : Expr → PV → Prop) (e : Option Expr) (lo : Option Int) : Prop := (e = none ∧ lo = none) ∨ ∃ x i, e = some x ∧ lo = some i ∧ f x (.int i)
theorem part_none {f : Expr → PV → Prop} : partPV f none none := .inl ⟨rfl, rfl⟩
theorem part_some {f : Expr → PV → Prop} {e : Expr} {i : Int} (h : f e (.int i)) : partPV f (some e) (some i) := .inr ⟨e, i, rfl, rfl, h⟩
theorem part_sound {X : Ctx c} {h0 : Heap} {env : Env} {e : Option Expr} {lo : Option Int} (h : partPV (ev c n N ρ) e lo) {F : FM} {s : Shared} (fi : FI X.W h0 F s env N ρ)
    {Q : Value → Shared → Prop} {E : Value → Shared → Prop} (k : ∀ v F' s', Grow F s F' s' → IsPart v lo → Q v s') : wpAny X.W.M X.A (evalPart e env) Q E s := by
  rcases h with ⟨rfl, rfl⟩ | ⟨x, i, rfl, rfl, h⟩
  · exact evalPart_none_step (k _ F s (.refl fi.sits) .none)
  · refine evalPart_some_step ((h.val X F s fi).use fun v F' s' g r => ?_)
    obtain ⟨t, rfl⟩ := r
    exact k _ F' s' g (.int i t)
theorem e_slice {o : Expr} {l u : Option Expr} {sp pos : Pos} {q : PV} {lo hi : Option Int} {p : PV} (_ : slotOf ρ o = none) (h0 : ev c n N ρ o q) (h1 : partPV (ev c n N ρ) l lo) (h2 : partPV (ev c n N ρ) u hi) (h3 : slicePV q lo hi = some p) : ev c (n + 1) N ρ (.Subscript o (.Slice l u none sp) pos) p :=
  .mk' rfl (fun _ => rfl) fun X _ _ F s fi => by
    refine Subscript_ ((h0.val X F s fi).use fun v F1 s1 g1 r1 => wpAny_Slice (part_sound h1 (fi.grow g1) fun vl F2 s2 g2 pl => part_sound h2 ((fi.grow g1).grow g2) fun vu F3 s3 g3 pu => evalPart_none_step ?_))
    exact wpAny_mono (slice_sound h3 g3.sits (r1.mono _ (g2.le.trans g3.le)) pl pu) (fun r s4 ⟨F4, g4, r4⟩ => ⟨F4, (g1.trans (g2.trans g3)).trans g4, r4⟩) fun _ _ x => x

/-! calls -/
theorem gname {f : Str} (hf : (okName f && N.lookup f == some .globalImplicit && (ρ f).isNone) = true) : okName f = true ∧ N.lookup f = some .globalImplicit := by
  rw [Bool.and_eq_true, Bool.and_eq_true] at hf
  exact ⟨hf.1.1, eq_of_beq hf.1.2⟩
theorem call_any {f : Str} {as : List Expr} {pn pos : Pos} {ps : List PV} {p : PV} (hf : (okName f && N.lookup f == some .globalImplicit && (ρ f).isNone) = true) (h1 : evs (ev c n N ρ) as ps) (h2 : c.call f ps p) : ev c (n + 1) N ρ (.Call (.Name f pn) as [] pos) p :=
  .mk' rfl (fun _ => rfl) fun X _ _ F s fi => by
    obtain ⟨fv, hv, hc, hcall⟩ := X.cok.call _ _ _ h2
    exact wpAny_Call_Name_kw (name_glob X.ok fi (gname hf).2 (gname hf).1 hv (call_sound fi h1 hc fun F' s' vs g rs => hcall X.A F' s' vs X.hA g.sits (fi.base.trans g.keep) rs))
theorem e_call1 {f : Str} {a : Expr} {pn pos : Pos} {q p : PV} (hf : (okName f && N.lookup f == some .globalImplicit && (ρ f).isNone) = true) (_ : slotOf ρ a = none) (h1 : ev c n N ρ a q) (h2 : c.call f [q] p) : ev c (n + 1) N ρ (.Call (.Name f pn) [a] [] pos) p :=
  call_any hf (evs_cons h1 evs_nil) h2
theorem e_call {f : Str} {a b : Expr} {as : List Expr} {pn pos : Pos} {ps : List PV} {p : PV} (hf : (okName f && N.lookup f == some .globalImplicit && (ρ f).isNone) = true) (h1 : evs (ev c n N ρ) (a :: b :: as) ps) (h2 : c.call f ps p) : ev c (n + 1) N ρ (.Call (.Name f pn) (a :: b :: as) [] pos) p :=
  call_any hf h1 h2
theorem e_scall {f : Str} {a : Expr} {pn pos : Pos} {sl : Slot} {p : PV} (hf : (okName f && N.lookup f == some .globalImplicit && (ρ f).isNone) = true) (hs : slotOf ρ a = some sl) (h2 : c.scall f sl = some p) : ev c (n + 1) N ρ (.Call (.Name f pn) [a] [] pos) p :=
  .mk' rfl (fun _ => rfl) fun X _ env F s fi => by
    obtain ⟨fv, hv, hc, hcall⟩ := X.cok.scall _ _ _ h2
    obtain ⟨x, px, rfl, hx, hnx, hmut⟩ := slotOf_spec hs
    obtain ⟨v, hsl, hb⟩ := fi.slots x sl hx
    exact wpAny_Call_Name_kw (name_glob X.ok fi (gname hf).2 (gname hf).1 hv (callWith_of (trees := backTo pos (starEach [.Name x px] env)) rfl hc (wpAny_items_cons (name_bound fi.kind hb hnx (wpAny_items_nil ⟨fi.base, hcall X.A F s env v X.hA fi.sits fi.base hsl⟩)) rfl)))

theorem attributeBase_plain {o : Expr} {m : Str} {env : Env} {whole : Sem Value} (h : notSuper o = true) : attributeBase o m env whole = whole := by
  cases o <;> first | rfl | skip
  rename_i f as ks pos
  cases f <;> first | rfl | skip
  cases as <;> first | rfl | skip
  cases ks <;> first | rfl | skip
  cases h
theorem few_ok {as : List Expr} {pos : Pos} {env : Env} (hst : (backTo pos (starEach as env)).any (·.1) = false) (hn : as.length < 30) : methodCallForm (as.length + ([] : List Keyword).length) (backTo pos (starEach as env)) (backToKw pos (keywordEach [] env)) = true := by
  have e1 : (backTo pos (starEach as env)).all (fun x => !x.1) = true := by
    rw [List.all_eq_true]
    intro x hx
    rw [List.any_eq_false] at hst
    exact (Bool.not_eq_true' _).mpr (Bool.eq_false_iff.mpr (hst x hx))
  have e2 : keywordEach [] env = [] := rfl
  unfold methodCallForm
  rw [e1, e2]
  exact decide_eq_true hn
theorem meth_call {W : Wd} {A : Around} {o : Expr} {m : Str} {apos pos : Pos} {as : List Expr} {env : Env} {s : Shared} {Q : Value → Shared → Prop} {E : Value → Shared → Prop} (hl : (apos.endLine == pos.line) = true) (hn : as.length < 30) (hs : notSuper o = true)
    (hst : (backTo pos (starEach as env)).any (·.1) = false)
    (h : wpAny W.M A (eval o env) (fun ov s1 => wpAny W.M A (getMethod ov m (do return (← importBound o env).getD true)) (fun r s2 => wpAny W.M A (callWith pos r.1 r.2 (backTo pos (starEach as env)) []) Q E s2) E s1) E s) :
    wpAny W.M A (eval (.Call (.Attribute o m apos) as [] pos) env) Q E s := by
  rw [arm_eval_Call, attributeBase_plain hs]
  refine wpAny_bind (wpAny_mono h (fun ov s₁ h₁ => wpAny_bind (wpAny_standAt ?_)) fun _ _ e => e)
  have hpos : methodCallPos true o env apos pos = pure pos := by unfold methodCallPos; simp [hl]
  unfold methodCall
  rw [few_ok hst hn]
  refine wpAny_bind (wpAny_holding (wpAny_mono h₁ (fun r s2 h2 => ?_) fun _ _ e => e))
  obtain ⟨f, first⟩ := r
  exact wpAny_bind (wpAny_of_eq hpos h2)
theorem mform {apos pos : Pos} {as : List Expr} {o : Expr} (hf : (apos.endLine == pos.line && decide (as.length < 30) && notSuper o) = true) : (apos.endLine == pos.line) = true ∧ as.length < 30 ∧ notSuper o = true := by
  rw [Bool.and_eq_true, Bool.and_eq_true] at hf
  exact ⟨hf.1.1, of_decide_eq_true hf.1.2, hf.2⟩
theorem e_smeth {o : Expr} {m : Str} {as : List Expr} {apos pos : Pos} {sl : Slot} {ps : List PV} {p : PV} (hf : (apos.endLine == pos.line && decide (as.length < 30) && notSuper o) = true) (hs : slotOf ρ o = some sl) (h1 : evs (ev c n N ρ) as ps) (h2 : c.smeth m sl ps = some p) :
    ev c (n + 1) N ρ (.Call (.Attribute o m apos) as [] pos) p :=
  .mk' rfl (fun _ => rfl) fun X _ env F s fi => by
    obtain ⟨fv, hc, hget, hcall⟩ := X.cok.smeth _ _ _ _ h2
    obtain ⟨hl, hlen, hsu⟩ := mform hf
    refine meth_call hl hlen hsu (evs_flat h1).1 (slot_eval hs fi fun v hv => hget X.A F s env v _ _ _ fi.sits fi.base hv ?_)
    exact call_sound fi h1 hc fun F' s' vs g rs => hcall X.A F' s' env v vs X.hA g.sits (fi.base.trans g.keep) (hv.grow g) rs
theorem e_meth {o : Expr} {m : Str} {as : List Expr} {apos pos : Pos} {q : PV} {ps : List PV} {p : PV} (hf : (apos.endLine == pos.line && decide (as.length < 30) && notSuper o) = true) (_ : slotOf ρ o = none) (h0 : ev c n N ρ o q) (h1 : evs (ev c n N ρ) as ps) (h2 : c.meth m q ps = some p) :
    ev c (n + 1) N ρ (.Call (.Attribute o m apos) as [] pos) p :=
  .mk' rfl (fun _ => rfl) fun X _ env F s fi => by
    obtain ⟨T, id, hp, hsl, hty, hT, hcall⟩ := X.cok.meth _ _ _ _ h2
    obtain ⟨hl, hlen, hsu⟩ := mform hf
    refine meth_call hl hlen hsu (evs_flat h1).1 ((h0.val X F s fi).use fun v F1 s1 g1 r1 => ?_)
    obtain ⟨hT1, hT2⟩ := hT F1 s1 v g1.sits r1
    refine getMethod_builtin hT1 hp hsl hty hT2 (Ev.grow g1 ?_)
    exact call_sound (fi.grow g1) h1 (callee_builtin id) fun F' s' vs g rs => hcall X.A F' s' v vs X.hA g.sits ((fi.base.trans g1.keep).trans g.keep) (r1.mono _ g.le) rs

/-! and, or -/
theorem truthy_of {W : Wd} {A : Around} {b : Bool} {v : Value} {F : FM} {s : Shared} {Q : Bool → Shared → Prop} {E : Value → Shared → Prop} (r : Rep W.qc F (.bool b) v) (h : Q b s) : wpAny W.M A (truthy v) Q E s := by
  cases r; exact wpAny_truthy_bool h
theorem e_and {a b : Expr} {pos : Pos} {p q : Bool} (h1 : ev c n N ρ a (.bool p)) (h2 : p = true → ev c n N ρ b (.bool q)) : ev c (n + 1) N ρ (.BoolOp .And [a, b] pos) (.bool (p && q)) := by
  refine ⟨rfl, fun X h0 env => ⟨fun F s fi => ?_, fun b' hb F s fi => ?_⟩⟩
  · unfold Ev
    rw [arm_eval_BoolOp]
    refine wpAny_bind ((h1.val X F s fi).use fun v F1 s1 g1 r1 => wpAny_bind (wpAny_standAt (wpAny_bind (wpAny_holding (truthy_of r1 ?_)))))
    cases p with
    | false => exact wpAny_pure ⟨F1, g1, r1⟩
    | true => exact Ev.grow g1 ((h2 rfl).val X F1 s1 (fi.grow g1))
  · cases hb
    refine wpAny_isTrue_BoolOp (wpAny_allTrue_And_cons (wpAny_mono (h1.tru rfl X F s fi) (fun c' s1 h => ?_) fun _ _ f => f))
    obtain ⟨rfl, F1, g1⟩ := h
    cases c' with
    | false => exact ⟨rfl, F1, g1⟩
    | true =>
      refine wpAny_allTrue_And_cons (wpAny_mono ((h2 rfl).tru rfl X F1 s1 (fi.grow g1)) (fun c' s2 h => ?_) fun _ _ f => f)
      obtain ⟨rfl, F2, g2⟩ := h
      cases c' with
      | false => exact ⟨rfl, F2, g1.trans g2⟩
      | true => exact wpAny_allTrue_And_nil ⟨rfl, F2, g1.trans g2⟩
theorem e_or {a b : Expr} {pos : Pos} {p q : Bool} (h1 : ev c n N ρ a (.bool p)) (h2 : p = false → ev c n N ρ b (.bool q)) : ev c (n + 1) N ρ (.BoolOp .Or [a, b] pos) (.bool (p || q)) := by
  refine ⟨rfl, fun X h0 env => ⟨fun F s fi => ?_, fun b' hb F s fi => ?_⟩⟩
  · unfold Ev
    rw [arm_eval_BoolOp]
    refine wpAny_bind ((h1.val X F s fi).use fun v F1 s1 g1 r1 => wpAny_bind (wpAny_standAt (wpAny_bind (wpAny_holding (truthy_of r1 ?_)))))
    cases p with
    | true => exact wpAny_pure ⟨F1, g1, r1⟩
    | false => exact Ev.grow g1 ((h2 rfl).val X F1 s1 (fi.grow g1))
  · cases hb
    refine wpAny_isTrue_BoolOp (wpAny_allTrue_Or_cons (wpAny_mono (h1.tru rfl X F s fi) (fun c' s1 h => ?_) fun _ _ f => f))
    obtain ⟨rfl, F1, g1⟩ := h
    cases c' with
    | true => exact ⟨rfl, F1, g1⟩
    | false =>
      refine wpAny_allTrue_Or_cons (wpAny_mono ((h2 rfl).tru rfl X F1 s1 (fi.grow g1)) (fun c' s2 h => ?_) fun _ _ f => f)
      obtain ⟨rfl, F2, g2⟩ := h
      cases c' with
      | true => exact ⟨rfl, F2, g1.trans g2⟩
      | false => exact wpAny_allTrue_Or_nil ⟨rfl, F2, g1.trans g2⟩
end
end Nw

namespace Nw
set_option tactic.hygienic false

/-- the cells that a comprehension takes along -/
noncomputable def freeCells (cells : List (Str × Addr)) : Names → List (Str × Addr) → List (Str × Addr)
  | [], acc => acc
  | (n, k) :: r, acc => freeCells cells r (if k == .free then (n, (cells.lookup n).getD 0) :: acc else acc)

theorem closure_loop (env : Env) (f : Str × NameKind → List (Str × Addr) → Sem (ForInStep (List (Str × Addr))))
    (hf : ∀ n k cs, f (n, k) cs = if k == .free then (do let a ← cellOf env n; pure (.yield ((n, a) :: cs))) else pure (.yield cs)) :
    ∀ (names : Names) (acc : List (Str × Addr)), (∀ x, (x, NameKind.free) ∈ names → ∃ c, env.cells.lookup x = some c) → forIn names acc f = pure (freeCells env.cells names acc)
  | [], acc, _ => by rw [List.forIn_nil]; rfl
  | (n, k) :: r, acc, h => by
    have hr : ∀ x, (x, NameKind.free) ∈ r → ∃ c, env.cells.lookup x = some c := fun x hx => h x (List.mem_cons_of_mem _ hx)
    rw [List.forIn_cons, hf]
    unfold freeCells
    by_cases hk : (k == .free) = true
    · rw [if_pos hk, if_pos hk]
      have hk' : k = .free := by simpa using hk
      obtain ⟨c, hc⟩ := h n (by rw [hk']; exact List.mem_cons_self)
      have e : cellOf env n = pure c := by unfold cellOf; rw [hc]
      rw [e, hc]
      exact closure_loop env f hf r _ hr
    · rw [if_neg hk, if_neg hk]
      exact closure_loop env f hf r _ hr

theorem closureFor_free {scope : Scope} {env : Env} (h : ∀ x, (x, NameKind.free) ∈ scope.names → ∃ c, env.cells.lookup x = some c) : closureFor scope env = pure (freeCells env.cells scope.names []) := by
  simp only [closureFor]
  rw [closure_loop env _ (fun n k cs => by cases hk : k == NameKind.free <;> simp [hk]) scope.names [] h]
  rfl

theorem freeCells_append (cells : List (Str × Addr)) : ∀ (names : Names) (acc : List (Str × Addr)), freeCells cells names acc = freeCells cells names [] ++ acc
  | [], acc => rfl
  | (n, k) :: r, acc => by
    unfold freeCells
    by_cases hk : (k == .free) = true
    · rw [if_pos hk, if_pos hk, freeCells_append cells r (_ :: acc), freeCells_append cells r [_]]; simp
    · rw [if_neg hk, if_neg hk]; exact freeCells_append cells r acc
theorem cellsFrom_append : ∀ (names : Names) (n : Nat) (acc : List (Str × Addr)), cellsFrom n names acc = cellsFrom n names [] ++ acc
  | [], _, acc => rfl
  | (x, k) :: r, n, acc => by
    unfold cellsFrom
    by_cases hk : (k == .cell) = true
    · rw [if_pos hk, if_pos hk, cellsFrom_append r (n + 1) (_ :: acc), cellsFrom_append r (n + 1) [_]]; simp
    · rw [if_neg hk, if_neg hk]; exact cellsFrom_append r n acc

theorem mem_freeCells {cells : List (Str × Addr)} : ∀ {names : Names} {x : Str} {a : Addr}, (x, a) ∈ freeCells cells names [] → (x, NameKind.free) ∈ names ∧ a = (cells.lookup x).getD 0
  | [], _, _, h => by cases h
  | (n, k) :: r, x, a, h => by
    unfold freeCells at h
    by_cases hk : (k == .free) = true
    · rw [if_pos hk, freeCells_append] at h
      rcases List.mem_append.mp h with h | h
      · have := mem_freeCells h; exact ⟨List.mem_cons_of_mem _ this.1, this.2⟩
      · simp only [List.mem_singleton, Prod.mk.injEq] at h
        obtain ⟨rfl, rfl⟩ := h
        have hk' : k = .free := by simpa using hk
        rw [hk']; exact ⟨List.mem_cons_self, rfl⟩
    · rw [if_neg hk] at h
      have := mem_freeCells h; exact ⟨List.mem_cons_of_mem _ this.1, this.2⟩
theorem freeCells_mem {cells : List (Str × Addr)} : ∀ {names : Names} {x : Str}, (x, NameKind.free) ∈ names → (x, (cells.lookup x).getD 0) ∈ freeCells cells names []
  | (n, k) :: r, x, h => by
    unfold freeCells
    rcases List.mem_cons.mp h with h | h
    · cases h
      rw [if_pos (by rfl), freeCells_append]
      exact List.mem_append_right _ List.mem_cons_self
    · have := freeCells_mem (cells := cells) h
      split
      · rw [freeCells_append]; exact List.mem_append_left _ this
      · exact this
theorem mem_cellsFrom : ∀ {names : Names} {n : Nat} {x : Str} {a : Addr}, (x, a) ∈ cellsFrom n names [] → (x, NameKind.cell) ∈ names ∧ n ≤ a
  | [], _, _, _, h => by cases h
  | (y, k) :: r, n, x, a, h => by
    unfold cellsFrom at h
    by_cases hk : (k == .cell) = true
    · rw [if_pos hk, cellsFrom_append] at h
      rcases List.mem_append.mp h with h | h
      · have := mem_cellsFrom h; exact ⟨List.mem_cons_of_mem _ this.1, by lia⟩
      · simp only [List.mem_singleton, Prod.mk.injEq] at h
        obtain ⟨rfl, rfl⟩ := h
        have hk' : k = .cell := by simpa using hk
        rw [hk']; exact ⟨List.mem_cons_self, Nat.le_refl _⟩
    · rw [if_neg hk] at h
      have := mem_cellsFrom h; exact ⟨List.mem_cons_of_mem _ this.1, this.2⟩

theorem nodupB_spec : ∀ {l : List Str}, nodupB l = true → l.Nodup
  | [], _ => List.nodup_nil
  | x :: xs, h => by
    simp only [nodupB, Bool.and_eq_true, Bool.not_eq_true'] at h
    refine List.nodup_cons.mpr ⟨fun hx => ?_, nodupB_spec h.2⟩
    have : xs.contains x = true := by simpa using hx
    rw [h.1] at this; cases this
theorem lookup_of_mem {α : Type} : ∀ {l : List (Str × α)} {x : Str} {a : α}, (l.map (·.1)).Nodup → (x, a) ∈ l → l.lookup x = some a
  | (y, b) :: r, x, a, hn, h => by
    simp only [List.map_cons, List.nodup_cons] at hn
    rw [List.lookup_cons]
    rcases List.mem_cons.mp h with hm | hm
    · cases hm; simp
    · have hxy : (x == y) = false := by
        rw [beq_eq_false_iff_ne]
        rintro rfl
        exact hn.1 (List.mem_map.mpr ⟨(_, a), hm, rfl⟩)
      rw [hxy]
      exact lookup_of_mem hn.2 hm

theorem freeCells_pairwise {cells : List (Str × Addr)} (ap : cells.Pairwise fun x y => x.2 ≠ y.2) : ∀ (names : Names) (acc : List (Str × Addr)), (names.map (·.1)).Nodup → acc.Pairwise (fun x y => x.2 ≠ y.2) →
    (∀ p ∈ acc, p ∈ cells ∧ p.1 ∉ names.map (·.1)) → (∀ x, (x, NameKind.free) ∈ names → ∃ c, cells.lookup x = some c) → (freeCells cells names acc).Pairwise fun x y => x.2 ≠ y.2
  | [], acc, _, pw, _, _ => pw
  | (n, k) :: r, acc, nd, pw, ha, hl => by
    simp only [List.map_cons, List.nodup_cons] at nd
    have hl' : ∀ x, (x, NameKind.free) ∈ r → ∃ c, cells.lookup x = some c := fun x hx => hl x (List.mem_cons_of_mem _ hx)
    unfold freeCells
    by_cases hk : (k == .free) = true
    · rw [if_pos hk]
      have hk' : k = .free := by simpa using hk
      obtain ⟨c, hc⟩ := hl n (by rw [hk']; exact List.mem_cons_self)
      rw [hc]
      refine freeCells_pairwise ap r _ nd.2 (List.pairwise_cons.mpr ⟨fun p hp e => ?_, pw⟩) (fun p hp => ?_) hl'
      · obtain ⟨h1, h2⟩ := ha p hp
        obtain ⟨y, b⟩ := p
        simp only [Option.getD_some] at e
        subst e
        have := name_of_addr ap h1 (mem_of_lookup hc)
        subst this
        exact h2 (by simp)
      · rcases List.mem_cons.mp hp with rfl | hp
        · exact ⟨mem_of_lookup hc, nd.1⟩
        · exact ⟨(ha p hp).1, fun h => (ha p hp).2 (by simp only [List.map_cons]; exact List.mem_cons_of_mem _ h)⟩
    · rw [if_neg hk]
      exact freeCells_pairwise ap r acc nd.2 pw (fun p hp => ⟨(ha p hp).1, fun h => (ha p hp).2 (by simp only [List.map_cons]; exact List.mem_cons_of_mem _ h)⟩) hl'

theorem wpAny_newCompEnv {M : Model} {A : Around} {E : Value → Shared → Prop} {s : Shared} {scope : Scope} {globals : Addr} {cl : List (Str × Addr)} {qual : Str} {env : Env} {Q : Env → Shared → Prop}
    (hQ : Q (newEnv scope s.heap.objs.size globals (cellsFrom (s.heap.objs.size + 1) scope.names cl) qual none .none (some env) builtinsNs) { s with heap := pushCells (s.heap.push { cls := .type "dict", data := .dict #[] }) scope.names }) :
    wpAny M A (newFunctionEnv scope globals cl [] qual none .none (some env)) Q E s := by
  simp only [newFunctionEnv, Option.isSome_some, if_true]
  refine wpAny_bind (wpAny_alloc ?_)
  refine wpAny_bind (wpAny_layCells _ (fun name kind cells => by cases hkc : kind == NameKind.cell <;> simp [hkc]) _ _ _ _ ?_)
  rw [show ({ s with heap := s.heap.push { cls := .type "dict", data := .dict #[] } } : Shared).heap.objs.size = s.heap.objs.size + 1 from Heap.size_push ..]
  simp only [List.forIn_nil]
  exact wpAny_bind (wpAny_pure (wpAny_pure hQ))

theorem relabel_lookup {scope : Scope} {env : Env} {x : Str} : (relabel scope env).names.lookup x = (scope.names.lookup x).map fun k => if (k == .free && env.scope.kind == .function && env.kindOf x == some .cell) then .cell else k := by
  unfold relabel
  show (scope.names.map _).lookup x = _
  induction scope.names with
  | nil => rfl
  | cons p r ih =>
    obtain ⟨n, k⟩ := p
    simp only [List.map_cons]
    by_cases hx : (x == n) = true
    · have hx' : x = n := by simpa using hx
      subst hx'
      split <;> rename_i hc <;> simp only [List.lookup_cons, BEq.rfl, Option.map_some] <;> simp [hc]
    · have hx' : (x == n) = false := by simpa using hx
      split <;> simp only [List.lookup_cons, hx'] <;> exact ih

/-- the frame of a comprehension -/
theorem comp_env {W : Wd} {h0 : Heap} {F : FM} {s : Shared} {env : Env} {N : Names} {ρ : Rho} {scope : Scope} (fi : FI W h0 F s env N ρ) (low : Keep W.hB s.heap) (hok : compOk N scope = true) {h1 : Heap} {C : Addr}
    (hC : C = s.heap.objs.size) (hh : h1 = pushCells (s.heap.push { cls := .type "dict", data := .dict #[] }) scope.names) :
    SI W F s F { s with heap := h1 } (compEnvC scope (cellsFrom (s.heap.objs.size + 1) scope.names (freeCells env.cells scope.names [])) C env) scope.names (rhoIn scope.names ρ) ∧
    closureFor scope env = pure (freeCells env.cells scope.names []) ∧
    (∀ x sl v, rhoIn scope.names ρ x = some sl → Bound h1 (compEnvC scope (cellsFrom (s.heap.objs.size + 1) scope.names (freeCells env.cells scope.names [])) C env) x v → Bound s.heap env x v) := by
  unfold compOk at hok
  simp only [Bool.and_eq_true, List.all_eq_true, beq_iff_eq] at hok
  obtain ⟨⟨hnd, hkind⟩, hfree⟩ := hok
  have nd := nodupB_spec hnd
  have hcl : ∀ x, (x, NameKind.free) ∈ scope.names → (env.kindOf x = some .cell ∨ env.kindOf x = some .free) ∧ ∃ c, env.cells.lookup x = some c := by
    intro x hx
    have := hfree _ hx
    simp only [bne_self_eq_false, Bool.false_or, Bool.or_eq_true, beq_iff_eq] at this
    rcases this with h | h
    · obtain ⟨a, b⟩ := fi.kindC x h; exact ⟨.inl a, b⟩
    · exact fi.kindF x h
  have hcl' : ∀ x, (x, NameKind.free) ∈ scope.names → ∃ c, env.cells.lookup x = some c := fun x hx => (hcl x hx).2
  have keep1 : Keep s.heap h1 := fun b o e => by rw [hh]; exact pushCells_keeps _ _ b o (Heap.get?_push_of_some _ e)
  have ok := cellsFrom_ok scope.names (s.heap.push { cls := .type "dict", data := .dict #[] }) (s.heap.objs.size + 1) [] ⟨fun _ _ hm => (nomatch hm), List.Pairwise.nil⟩ (by rw [Heap.size_push]; exact Nat.le_refl _)
  rw [Heap.size_push, ← hh] at ok
  have ns1 : h1.Ns C fun _ => none := by rw [hh, hC]; exact (Heap.Ns.new s.heap (.type "dict")).keeps (pushCells_keeps _ _)
  have hCn : s.heap.get? C = none := by rw [hC]; exact push_new _
  have FC : F C = none := by
    cases q : F C with
    | none => rfl
    | some o => have := fi.sits _ _ q; rw [hCn] at this; cases this
  rw [cellsFrom_append]
  -- membership in the cells
  have hmem : ∀ p, p ∈ cellsFrom (s.heap.objs.size + 1) scope.names [] ++ freeCells env.cells scope.names [] →
      ((p.1, NameKind.cell) ∈ scope.names ∧ s.heap.objs.size + 1 ≤ p.2 ∧ h1.IsCell p.2 none) ∨ ((p.1, NameKind.free) ∈ scope.names ∧ env.cells.lookup p.1 = some p.2) := by
    rintro ⟨x, a⟩ hp
    rcases List.mem_append.mp hp with hp | hp
    · exact .inl ⟨(mem_cellsFrom hp).1, (mem_cellsFrom hp).2, (ok.empty x a hp).1⟩
    · obtain ⟨h1, h2⟩ := mem_freeCells hp
      obtain ⟨c, hc⟩ := hcl' x h1
      rw [hc] at h2
      exact .inr ⟨h1, by rw [hc]; exact congrArg some h2.symm⟩
  have hfresh : ∀ a, s.heap.objs.size + 1 ≤ a → s.heap.get? a = none := fun a ha => by
    cases q : s.heap.get? a with
    | none => rfl
    | some o => exact absurd (Nat.lt_of_lt_of_le (Heap.lt_size q) (Nat.le_of_succ_le ha)) (Nat.lt_irrefl _)
  have hFn : ∀ a, s.heap.get? a = none → F a = none := fun a ha => by
    cases q : F a with
    | none => rfl
    | some o => have := fi.sits _ _ q; rw [ha] at this; cases this
  have lookC : ∀ x, scope.names.lookup x = some .cell → ∃ c, (cellsFrom (s.heap.objs.size + 1) scope.names [] ++ freeCells env.cells scope.names []).lookup x = some c ∧ s.heap.objs.size + 1 ≤ c := by
    intro x hx
    have e := PySem.W.cellsFrom_some (x := x) scope.names (s.heap.objs.size + 1) (freeCells env.cells scope.names []) (.inl hx)
    rw [cellsFrom_append] at e
    obtain ⟨c, hc⟩ := Option.isSome_iff_exists.mp e
    refine ⟨c, hc, ?_⟩
    rcases hmem _ (mem_of_lookup hc) with h | h
    · exact h.2.1
    · have := lookup_of_mem nd h.1
      rw [hx] at this; cases this
  have lookF : ∀ x, scope.names.lookup x = some .free → ∃ c, (cellsFrom (s.heap.objs.size + 1) scope.names [] ++ freeCells env.cells scope.names []).lookup x = some c ∧ env.cells.lookup x = some c := by
    intro x hx
    have hm := freeCells_mem (cells := env.cells) (mem_of_lookup hx)
    have hs : ((cellsFrom (s.heap.objs.size + 1) scope.names [] ++ freeCells env.cells scope.names []).lookup x).isSome = true := by
      rw [List.lookup_append]
      cases q : (cellsFrom (s.heap.objs.size + 1) scope.names []).lookup x with
      | some c => rfl
      | none =>
        show ((freeCells env.cells scope.names []).lookup x).isSome = true
        clear q
        revert hm
        generalize (freeCells env.cells scope.names []) = l
        generalize (env.cells.lookup x).getD 0 = a
        intro hm
        induction l with
        | nil => cases hm
        | cons p r ih =>
          obtain ⟨y, b⟩ := p
          rw [List.lookup_cons]
          cases hxy : x == y with
          | true => rfl
          | false =>
            rcases List.mem_cons.mp hm with h | h
            · cases h; simp at hxy
            · exact ih h
    obtain ⟨c, hc⟩ := Option.isSome_iff_exists.mp hs
    refine ⟨c, hc, ?_⟩
    rcases hmem _ (mem_of_lookup hc) with h | h
    · have := lookup_of_mem nd h.1
      rw [hx] at this; cases this
    · exact h.2
  have relk : ∀ x k, scope.names.lookup x = some k → k ≠ .free → (relabel scope env).names.lookup x = some k := by
    intro x k hx hk
    rw [relabel_lookup, hx]
    have : (k == NameKind.free) = false := by simpa using hk
    show some (if (k == NameKind.free && env.scope.kind == .function && env.kindOf x == some .cell) = true then NameKind.cell else k) = some k
    rw [this]; rfl
  have relf : ∀ x, scope.names.lookup x = some .free → (relabel scope env).names.lookup x = some .cell ∨ (relabel scope env).names.lookup x = some .free := by
    intro x hx
    rw [relabel_lookup, hx]
    simp only [Option.map_some]
    split
    · exact .inl rfl
    · exact .inr rfl
  have key : ∀ z, scope.names.lookup z = some .free → ∀ sl v, ρ z = some sl → Bound h1 (compEnvC scope (cellsFrom (s.heap.objs.size + 1) scope.names [] ++ freeCells env.cells scope.names []) C env) z v → Bound s.heap env z v := by
    intro z hz sl v ez bz
    obtain ⟨v', _, hb⟩ := fi.slots z sl ez
    obtain ⟨hk, _⟩ := hcl z (mem_of_lookup hz)
    obtain ⟨c, hl1, h2⟩ := lookF z hz
    rcases hb with ⟨hl, _⟩ | ⟨hk', c', hc', ic⟩
    · rw [hl] at hk; rcases hk with hk | hk <;> cases hk
    · rw [h2] at hc'; cases hc'
      have : Bound h1 (compEnvC scope (cellsFrom (s.heap.objs.size + 1) scope.names [] ++ freeCells env.cells scope.names []) C env) z v' := .inr ⟨relf z hz, c, hl1, ic.keeps keep1⟩
      have e := this.unique bz
      subst e
      exact .inr ⟨hk', c, h2, ic⟩
  refine ⟨?_, closureFor_free hcl', fun x sl v e b => ?_⟩
  rotate_left
  · unfold rhoIn at e
    split at e
    · rename_i hx
      exact key x (by simpa using hx) sl v e b
    · cases e
  refine ⟨{ sits := fun a o e => keep1 _ _ (fi.sits _ _ e), base := fi.base.trans keep1, kind := hkind, globals := fi.globals, blt := fi.blt, ns := ⟨_, ns1⟩, cells := ?_, apart := ?_, nl := ?_, privL := ⟨FC, hCn⟩, privF := ?_, privC := ?_, kindL := ?_, kindC := ?_, kindF := ?_, kindG := ?_, slots := ?_, muts := ?_ }, ?_, low⟩
  · intro p hp
    rcases hmem p hp with h | h
    · exact ⟨_, h.2.2⟩
    · obtain ⟨v, q⟩ := fi.cells _ (mem_of_lookup h.2)
      exact ⟨v, q.keeps keep1⟩
  · refine List.pairwise_append.mpr ⟨ok.apart, freeCells_pairwise fi.apart _ _ nd List.Pairwise.nil (fun p hp => nomatch hp) hcl', ?_⟩
    rintro ⟨x, a⟩ hx ⟨y, b⟩ hy e
    have h1 := (mem_cellsFrom hx).2
    obtain ⟨h2, h3⟩ := mem_freeCells hy
    obtain ⟨c, hc⟩ := hcl' y h2
    rw [hc] at h3
    obtain ⟨v, o, ho, _⟩ := fi.cells _ (mem_of_lookup hc)
    have hlt := Heap.lt_size ho
    simp only [Option.getD_some] at h3 e
    subst h3; subst e
    exact absurd (Nat.lt_of_lt_of_le hlt (Nat.le_of_succ_le h1)) (Nat.lt_irrefl _)
  · intro p hp e
    have e : p.2 = C := e
    rcases hmem p hp with h | h
    · rw [hC] at e; rw [e] at h; exact absurd (Nat.lt_of_lt_of_le (Nat.lt_succ_self _) h.2.1) (Nat.lt_irrefl _)
    · obtain ⟨v, o, ho, _⟩ := fi.cells _ (mem_of_lookup h.2)
      rw [e, hCn] at ho; cases ho
  · intro p hp
    rcases hmem p hp with h | h
    · exact hFn _ (hfresh _ h.2.1)
    · exact fi.privF _ (mem_of_lookup h.2)
  · intro x c hx hc
    obtain ⟨c', h1, h2⟩ := lookC x hx
    have h1' : some c' = some c := h1.symm.trans hc
    cases h1'
    exact hfresh _ h2
  · exact fun x hx => relk x _ hx (by decide)
  · intro x hx
    obtain ⟨c, h1, _⟩ := lookC x hx
    exact ⟨relk x _ hx (by decide), c, h1⟩
  · intro x hx
    obtain ⟨c, h1, _⟩ := lookF x hx
    exact ⟨relf x hx, c, h1⟩
  · exact fun x hx => relk x _ hx (by decide)
  · intro x sl e
    unfold rhoIn at e
    split at e
    · rename_i hx
      have hx : scope.names.lookup x = some .free := by simpa using hx
      obtain ⟨v, hs, hb⟩ := fi.slots x sl e
      obtain ⟨hk, c0, hc0⟩ := hcl x (mem_of_lookup hx)
      obtain ⟨c, h1, h2⟩ := lookF x hx
      refine ⟨v, ?_, .inr ⟨relf x hx, c, h1, ?_⟩⟩
      · have off : ∀ a o, Off F env a → s.heap.get? a = some o → Off F (compEnvC scope (cellsFrom (s.heap.objs.size + 1) scope.names [] ++ freeCells env.cells scope.names []) C env) a := by
          intro a o ho hao
          refine ⟨ho.1, ?_, fun p hp e => ?_⟩
          · show a ≠ C
            rintro rfl
            rw [hCn] at hao; cases hao
          · rcases hmem p hp with h | h
            · rw [e, hfresh _ h.2.1] at hao; cases hao
            · exact ho.2.2 _ (mem_of_lookup h.2) e
        cases sl with
        | imm p => exact hs
        | lst ps =>
          obtain ⟨a, vs, n, e, e1, r, o⟩ := hs
          exact ⟨a, vs, n, e, keep1 _ _ e1, r, off a _ o e1⟩
        | acc hd ps =>
          obtain ⟨a, dx, vs, n, hh, k, t, m, e, e1, e2, r, o⟩ := hs
          exact ⟨a, dx, vs, n, hh, k, t, m, e, keep1 _ _ e1, e2, r, off a _ o e1⟩
      · rcases hb with ⟨hl, _⟩ | ⟨_, c', hc', ic⟩
        · rw [hl] at hk; rcases hk with hk | hk <;> cases hk
        · rw [h2] at hc'; cases hc'
          exact ic.keeps keep1
    · cases e
  · intro x y sl sl' v e1 e2 m1 m2 b1 b2
    unfold rhoIn at e1 e2
    split at e1
    · rename_i hx
      split at e2
      · rename_i hy
        have hx : scope.names.lookup x = some .free := by simpa using hx
        have hy : scope.names.lookup y = some .free := by simpa using hy
        exact fi.muts x y sl sl' v e1 e2 m1 m2 (key x hx sl v e1 b1) (key y hy sl' v e2 b2)
      · cases e2
    · cases e1
  · exact ⟨.refl _, fun a o e => keep1 _ _ (fi.sits _ _ e), keep1, fun _ _ e => .inl e, rfl, id⟩
end Nw

namespace Nw
set_option tactic.hygienic false

noncomputable def tests (f : Expr → PV → Prop) : List Expr → Bool → Prop
  | [], b => b = true
  | e :: es, b => ∃ p t, f e p ∧ truePV p = some t ∧ ((t = true ∧ tests f es b) ∨ (t = false ∧ b = false))

section
variable {c : Cfg} {n : Nat} {N : Names} {ρ : Rho}
theorem tests_stop {W : Wd} {A : Around} {env : Env} : ∀ (es : List Expr) (F : FM) (s : Shared), Sits F s.heap → wpAny W.M A (forIn es false fun c r => if r = true then do let ok ← isTrue c env (eval c env); pure (ForInStep.yield ok) else pure (ForInStep.yield r)) (fun c s' => c = false ∧ ∃ F', Grow F s F' s') NoE s
  | [], F, s, st => by rw [List.forIn_nil]; exact wpAny_pure ⟨rfl, F, .refl st⟩
  | e :: es, F, s, st => by
    rw [List.forIn_cons]
    exact wpAny_bind (wpAny_pure (tests_stop es F s st))
theorem tests_sound {X : Ctx c} {h0 : Heap} {env : Env} : ∀ (es : List Expr) (b : Bool), tests (ev c n N ρ) es b → ∀ (F : FM) (s : Shared), FI X.W h0 F s env N ρ →
    wpAny X.W.M X.A (forIn es true fun c r => if r = true then do let ok ← isTrue c env (eval c env); pure (ForInStep.yield ok) else pure (ForInStep.yield r)) (fun c s' => c = b ∧ ∃ F', Grow F s F' s') NoE s
  | [], b, h, F, s, fi => by cases h; rw [List.forIn_nil]; exact wpAny_pure ⟨rfl, F, .refl fi.sits⟩
  | e :: es, b, ⟨p, t, h1, h2, h3⟩, F, s, fi => by
    rw [List.forIn_cons]
    refine wpAny_bind (wpAny_bind (wpAny_mono (h1.tru h2 X F s fi) (fun c s' ⟨e, F', g⟩ => wpAny_pure ?_) fun _ _ f => f))
    subst e
    rcases h3 with ⟨rfl, h3⟩ | ⟨rfl, rfl⟩
    · exact wpAny_mono (tests_sound es b h3 F' s' (fi.grow g)) (fun _ _ ⟨e, F'', g'⟩ => ⟨e, F'', g.trans g'⟩) fun _ _ f => f
    · exact wpAny_mono (tests_stop es F' s' g.sits) (fun _ _ ⟨e, F'', g'⟩ => ⟨e, F'', g.trans g'⟩) fun _ _ f => f
end

/-- a step that leaves all but X -/
structure Tr (X : Addr → Prop) (F : FM) (s : Shared) (F' : FM) (s' : Shared) : Prop where
  le : F.le F'
  fresh : ∀ a o, F' a = some o → F a = some o ∨ s.heap.get? a = none
  keep : ∀ b o, ¬ X b → s.heap.get? b = some o → s'.heap.get? b = some o
  off : ∀ a, X a → F' a = none
theorem Tr.of_grow {X : Addr → Prop} {F F' : FM} {s s' : Shared} (g : Grow F s F' s') (h : ∀ a, X a → F' a = none) : Tr X F s F' s' := ⟨g.le, g.fresh, fun b o _ e => g.keep b o e, h⟩
theorem Tr.trans {X : Addr → Prop} {F F' F'' : FM} {s s' s'' : Shared} (x : Tr X F s F' s') (y : Tr X F' s' F'' s'') : Tr X F s F'' s'' := by
  refine ⟨x.le.trans y.le, fun a o e => ?_, fun b o h e => y.keep b o h (x.keep b o h e), y.off⟩
  rcases y.fresh a o e with e' | e'
  · exact x.fresh a o e'
  · refine .inr ?_
    cases q : s.heap.get? a with
    | none => rfl
    | some o' =>
      by_cases hx : X a
      · rw [y.off a hx] at e; cases e
      · rw [x.keep a o' hx q] at e'; cases e'
theorem Tr.of_KL {X : Addr → Prop} {F : FM} {s s' : Shared} {env : Env} {N : Names} (h : KL env N s.heap s'.heap) (hX : ∀ b, ¬ X b → b ≠ env.locals ∧ ∀ x c, N.lookup x = some .cell → env.cells.lookup x = some c → c ≠ b) (ho : ∀ a, X a → F a = none) : Tr X F s F s' :=
  ⟨.refl _, fun _ _ e => .inl e, fun b o hb e => h b o (hX b hb).1 (hX b hb).2 e, ho⟩

section
variable {W : Wd} {A : Around} {F0 : FM} {s0 : Shared} {env : Env} {N : Names}

theorem isLC_spec {x : Str} (h : isLC N x = true) : N.lookup x = some .local ∨ N.lookup x = some .cell := by
  simpa [isLC] using h

theorem bindNames_sound {fresh : Bool} : ∀ (es : List Expr) (ps : List PV) (vs : List Value) (ρ ρ1 : Rho) (F : FM) (s : Shared), bindNames fresh N es ps ρ = some ρ1 → RepL W.qc F ps vs → SI W F0 s0 F s env N ρ →
    wpAny W.M A (assignInOrder ((assignEach es env).map (·.2)) vs) (fun _ s' => SI W F0 s0 F s' env N ρ1 ∧ KL env N s.heap s'.heap) NoE s
  | [], ps, vs, ρ, ρ1, F, s, h, r, si => by
    obtain ⟨rfl, rfl⟩ := bindNames_nil h
    cases r
    exact wpAny_pure ⟨si, .refl _ _ _⟩
  | e :: es, ps, vs, ρ, ρ1, F, s, h, r, si => by
    refine bindNames_inv h fun x pos p qs e1 e2 hc hz => ?_
    subst e1 e2
    obtain ⟨v, ws, rfl, rv, rws⟩ := r
    refine wpAny_assignInOrder_more (assign_name si (isLC_spec hc.1) (sl := .imm p) rv (fun h => by cases h) fun s' si' kl => ?_)
    exact wpAny_mono (bindNames_sound es qs ws _ ρ1 F s' hz rws si') (fun _ s'' z => ⟨z.1, kl.trans z.2⟩) fun _ _ f => f

theorem assignEach_plain : ∀ (es : List Expr) (ps : List PV) (ρ ρ1 : Rho) (fresh : Bool), bindNames fresh N es ps ρ = some ρ1 → (assignEach es env).length = ps.length ∧ (assignEach es env).findIdx? (·.1) = none
  | [], ps, _, _, _, h => by
    rw [(bindNames_nil h).1]; exact ⟨rfl, rfl⟩
  | e :: es, ps, ρ, ρ1, fresh, h => by
    refine bindNames_inv h fun x pos p qs e1 e2 _ hz => ?_
    subst e1 e2
    obtain ⟨h1, h2⟩ := assignEach_plain es qs _ ρ1 fresh hz
    refine ⟨congrArg (· + 1) h1, ?_⟩
    show ((false, assign (.Name x pos) env) :: assignEach es env).findIdx? (·.1) = none
    rw [List.findIdx?_cons, h2]; rfl

theorem bindT_sound {fresh : Bool} {t : Expr} {p : PV} {v : Value} {ρ ρ1 : Rho} {F : FM} {s : Shared} (hA : A.handled = none) (h : bindT fresh N t p ρ = some ρ1) (r : Rep W.qc F p v) (si : SI W F0 s0 F s env N ρ) :
    wpAny W.M A (assign t env v) (fun _ s' => ∃ F' s1, Grow F s F' s1 ∧ SI W F0 s0 F' s' env N ρ1 ∧ KL env N s1.heap s'.heap) NoE s := by
  refine bindT_inv h (fun x pos e h => ?_) fun es k tp ps e hp hb => ?_
  · subst e
    refine bindNames_inv h fun x' pos' p' qs e1 e2 hc hz => ?_
    cases e1; cases e2
    rw [(bindNames_nil hz).2]
    exact assign_name si (isLC_spec hc.1) (sl := .imm _) r (fun h => by cases h) fun s' si' kl => ⟨F, s, .refl si.fi.sits, si', kl⟩
  · subst e
    obtain ⟨e1, e2⟩ := assignEach_plain (env := env) es ps _ ρ1 fresh hb
    show wpAny W.M A (standAt _ >>= fun _ => unpack v (assignEach _ env)) _ _ _
    refine wpAny_bind (wpAny_standAt ?_)
    unfold unpack
    rw [e2]
    refine wpAny_bind (wpAny_holding ((unpackItems_sound hA hp e1 si.fi.sits r).use fun vs F' s1 g rs => ?_))
    exact wpAny_mono (bindNames_sound es ps vs _ ρ1 F' s1 hb rs (si.step g)) (fun _ s' z => ⟨F', s1, g, z.1, z.2⟩) fun _ _ f => f

/-- with names forgotten -/
theorem SI.weaken {F : FM} {s : Shared} {ρ ρ' : Rho} (si : SI W F0 s0 F s env N ρ') (h : ∀ x sl, ρ x = some sl → ρ' x = some sl) : SI W F0 s0 F s env N ρ :=
  ⟨{ si.fi with slots := fun x sl e => si.fi.slots x sl (h x sl e), muts := fun x y sl sl' v e e' => si.fi.muts x y sl sl' v (h x sl e) (h y sl' e') }, si.grow, si.low⟩

theorem bindNames_ext : ∀ (es : List Expr) (ps : List PV) (ρ ρ1 : Rho), bindNames true N es ps ρ = some ρ1 → ∀ x sl, ρ x = some sl → ρ1 x = some sl
  | [], ps, ρ, ρ1, h, x, sl, e => by rw [(bindNames_nil h).2]; exact e
  | e :: es, ps, ρ, ρ1, h, x, sl, ex => by
    refine bindNames_inv h fun y pos p qs _ _ hc hz => ?_
    refine bindNames_ext es qs _ ρ1 hz x sl ?_
    unfold Rho.set
    rw [if_neg]
    · exact ex
    · rintro rfl
      rw [ex] at hc
      cases hc.2
theorem bindT_ext {t : Expr} {p : PV} {ρ ρ1 : Rho} (h : bindT true N t p ρ = some ρ1) : ∀ x sl, ρ x = some sl → ρ1 x = some sl :=
  bindT_inv h (fun _ _ _ h => bindNames_ext _ _ _ _ h) fun _ _ _ _ _ _ hb => bindNames_ext _ _ _ _ hb
end
end Nw

namespace Nw
set_option tactic.hygienic false

theorem compTurn_eq (elt : Expr) (gens : List Comprehension) (scope : Scope) (pos : Pos) (d : Nat) (it acc : Value) (env : Env) (target iter : Expr) (ifs : List Expr) (hg : gens[d]? = some ⟨target, iter, ifs, 0⟩) :
    compTurn (.ListComp elt gens scope pos) d it acc env = (do
      standAt iter.pos
      match ← pyNext it with
      | none => pure (.done .next)
      | some v =>
        letOwnedTupleGo target it v
        assign target env v
        let mut ok := true
        for c in ifs do
          if ok then ok ← isTrue c env (eval c env)
        if ok then
          match gens[d + 1]? with
          | some g' =>
            let x ← eval g'.iter env
            standAt g'.iter.pos
            let x ← if g'.is_async != 0 then foldedIterable g'.iter x else foldedSetIterable g'.iter env x
            let _ ← runOwn (.compStart (.ListComp elt gens scope pos) (d + 1) (← holding [x] (if g'.is_async != 0 then asyncIter x else pyIter x)) acc env) env
          | none => (do let _ ← call (.builtin "list.append") [acc, ← eval elt env])
        again (.compLoop (.ListComp elt gens scope pos) d it acc env)) := by
  unfold compTurn
  simp only [hg]
  rfl

theorem codeAny_compLoop_turn {prog : Program} {w : World} {A : Around} {R : Result → Shared → Prop} {s : Shared} {elt : Expr} {gens : List Comprehension} {scope : Scope} {pos : Pos} {d : Nat} {it acc : Value} {env : Env}
    (h : wpAny (model prog w) A (compTurn (.ListComp elt gens scope pos) d it acc env) (fun fin s' => match fin with | .done f => R (.ok f) s' | .again c' => c'.quiet = true ∧ codeAny (model prog w) A c' R s') NoE s) :
    codeAny (model prog w) A (.compLoop (.ListComp elt gens scope pos) d it acc env) R s := by
  refine codeAny_of_tree ?_
  show wpAny _ A ((compTurn (.ListComp elt gens scope pos) d it acc env).onRaise (fun x => do noteFrame x env; theTreesLotGoes x)) _ _ s
  exact wpAny_onRaise (wpAny_mono h (fun _ _ x => x) fun _ _ f => f.elim)

theorem codeAny_compStart_turn {prog : Program} {w : World} {A : Around} {R : Result → Shared → Prop} {s : Shared} {elt : Expr} {gens : List Comprehension} {scope : Scope} {pos : Pos} {d : Nat} {I : Addr} {acc : Value} {env : Env}
    {target iter : Expr} {ifs : List Expr} (hg : gens[d]? = some ⟨target, iter, ifs, 0⟩)
    (hs : ∀ (Q : Value → Shared → Prop) (E : Value → Shared → Prop), Q (.ref I) s → wpAny (model prog w) A (pyIter (.ref I)) Q E s)
    (h : codeAny (model prog w) A (.compLoop (.ListComp elt gens scope pos) d (.ref I) acc env) R s) :
    codeAny (model prog w) A (.compStart (.ListComp elt gens scope pos) d (.ref I) acc env) R s := by
  refine codeAny_of_tree ?_
  show wpAny _ A ((compStart (.ListComp elt gens scope pos) d (.ref I) acc env).onRaise (fun x => do noteFrame x env; standAt theWindowsPlace)) _ _ s
  refine wpAny_onRaise (wpAny_mono (Q := fun fin s' => match fin with | .done f => R (.ok f) s' | .again c' => c'.quiet = true ∧ codeAny (model prog w) A c' R s') (E := NoE) ?_ (fun _ _ x => x) fun _ _ f => f.elim)
  unfold compStart
  have hcl : (clausesOf (.ListComp elt gens scope pos))[d]? = some ⟨target, iter, ifs, 0⟩ := hg
  rw [hcl]
  show wpAny _ A (ask >>= _) _ _ s
  refine wpAny_bind (wpAny_askSetting (wpAny_ite ?_))
  split
  · first
      | exact wpAny_bind (wpAny_pure (wpAny_pure (And.intro rfl h)))
      | exact wpAny_pure (And.intro rfl h)
  · refine wpAny_bind (wpAny_rule ?_)
    first
      | exact wpAny_bind (wpAny_standAt (wpAny_bind (hs _ _ (wpAny_pure (And.intro rfl h)))))
      | (show wpAny _ _ (standAt iter.pos >>= _) _ _ s; exact wpAny_bind (wpAny_standAt (wpAny_bind (hs _ _ (wpAny_pure (And.intro rfl h))))))

inductive AccAt (W : Wd) (s0 : Shared) (F : FM) (s : Shared) (env : Env) (D : Addr) (out : List PV) : Prop
  | mk (ys : Array Value) (n : Nat) (e : s.heap.get? D = some (listOf ys n)) (r : RepL W.qc F out ys.toList) (off : Off F env D) (h0 : s0.heap.get? D = none)

theorem AccAt.grow {W : Wd} {s0 : Shared} {F F' : FM} {s s' : Shared} {env : Env} {D : Addr} {out : List PV} (x : AccAt W s0 F s env D out) (g : Grow F s F' s') : AccAt W s0 F' s' env D out := by
  obtain ⟨ys, n, e, r, o, z⟩ := x
  exact ⟨ys, n, g.keep _ _ e, RepL.mono _ g.le r, o.grow g e, z⟩
theorem AccAt.kl {W : Wd} {s0 : Shared} {F : FM} {s s' : Shared} {env : Env} {N : Names} {D : Addr} {out : List PV} (x : AccAt W s0 F s env D out) (k : KL env N s.heap s'.heap) : AccAt W s0 F s' env D out := by
  obtain ⟨ys, n, e, r, o, z⟩ := x
  exact ⟨ys, n, k _ _ o.2.1 (fun x c _ hc q => o.2.2 _ (mem_of_lookup hc) q.symm) e, r, o, z⟩

/-- the frame's own, the list being made and the iterator -/
noncomputable def Xs (env : Env) (N : Names) (D : Addr) (a : Addr) : Prop := a = env.locals ∨ (∃ x, N.lookup x = some .cell ∧ env.cells.lookup x = some a) ∨ a = D

theorem SI.iter {W : Wd} {F0 F : FM} {s0 s : Shared} {env : Env} {N : Names} {ρ : Rho} {I : Addr} {h' : Heap} {tk : Nat} (si : SI W F0 s0 F s env N ρ) (hn : F I = none) (h0 : s0.heap.get? I = none)
    (hI : ∃ o fs, s.heap.get? I = some o ∧ o.data = .fields fs) (k : Heap.ExtBut I s.heap h') : SI W F0 s0 F { s with heap := h', toks := tk } env N ρ := by
  have fi := si.fi
  obtain ⟨oI, fs, eI, dI⟩ := hI
  have hl : I ≠ env.locals := by
    rintro rfl
    obtain ⟨m, o, es, ep, e1, e2, _⟩ := fi.ns
    rw [eI] at e1; cases e1; rw [dI] at e2; cases e2
  have hc : ∀ p ∈ env.cells, p.2 ≠ I := by
    intro p hp e
    obtain ⟨v, o, e1, e2⟩ := fi.cells p hp
    rw [e, eI] at e1; cases e1; rw [dI] at e2; cases e2
  have hm : ∀ (o : Obj) vs n (a : Addr), s.heap.get? a = some o → o.data = .seq vs n → a ≠ I := by
    rintro o vs n a e1 e2 rfl
    rw [eI] at e1; cases e1; rw [dI] at e2; cases e2
  have hB : W.hB.get? I = none := by
    cases q : W.hB.get? I with
    | none => rfl
    | some o => have := si.low _ _ q; rw [h0] at this; cases this
  have bk : ∀ x v, Bound s.heap env x v → Bound h' env x v := by
    rintro x v (⟨e, m, n, q⟩ | ⟨e, c, l, q⟩)
    · exact .inl ⟨e, m, n.extBut k (Ne.symm hl), q⟩
    · refine .inr ⟨e, c, l, ?_⟩
      obtain ⟨o, e1, e2⟩ := q
      exact ⟨o, k _ _ (hc _ (mem_of_lookup l)) e1, e2⟩
  refine ⟨{ sits := fun a o e => k a o (by rintro rfl; rw [hn] at e; cases e) (fi.sits a o e), base := fun a o e => k a o (by rintro rfl; rw [hB] at e; cases e) (fi.base a o e), kind := fi.kind, globals := fi.globals, blt := fi.blt, ns := ?_, cells := ?_, apart := fi.apart, nl := fi.nl, privL := fi.privL, privF := fi.privF, privC := fi.privC, kindL := fi.kindL, kindC := fi.kindC, kindF := fi.kindF, kindG := fi.kindG, slots := ?_, muts := ?_ }, si.grow.iter hn h0 k, si.low⟩
  · obtain ⟨m, n⟩ := fi.ns
    exact ⟨m, n.extBut k (Ne.symm hl)⟩
  · intro p hp
    obtain ⟨v, o, e1, e2⟩ := fi.cells p hp
    exact ⟨v, o, k _ _ (hc p hp) e1, e2⟩
  · intro x sl e
    obtain ⟨v, hs, hb⟩ := fi.slots x sl e
    refine ⟨v, ?_, bk x v hb⟩
    cases sl with
    | imm p => exact hs
    | lst ps =>
      obtain ⟨a, vs, n, e0, e1, r, o⟩ := hs
      exact ⟨a, vs, n, e0, k _ _ (hm _ _ _ _ e1 rfl) e1, r, o⟩
    | acc hd ps =>
      obtain ⟨a, dx, vs, n, hh, k', t, m, e0, e1, e2, r, o⟩ := hs
      exact ⟨a, dx, vs, n, hh, k', t, m, e0, k _ _ (hm _ _ _ _ e1 rfl) e1, e2, r, o⟩
  · intro x y sl sl' v e1 e2 m1 m2 b1 b2
    obtain ⟨v1, _, c1⟩ := fi.slots x sl e1
    obtain ⟨v2, _, c2⟩ := fi.slots y sl' e2
    have q1 := (bk x v1 c1).unique b1
    have q2 := (bk y v2 c2).unique b2
    subst q1; subst q2
    exact fi.muts x y sl sl' _ e1 e2 m1 m2 c1 c2
end Nw

namespace Nw
set_option tactic.hygienic false

section
variable {W : Wd} {A : Around} {F0 : FM} {s0 : Shared} {env : Env} {N : Names}

theorem letOwned_sound {I : Addr} {target : Expr} {v : Value} {s : Shared} {F : FM} {all : List PV} {i : Nat} {Q : Unit → Shared → Prop} {E : Value → Shared → Prop} (x : IterAt W.prog W.w W.qc F s.heap I all i) (h : Q () s) :
    wpAny W.M A (letOwnedTupleGo target (.ref I) v) Q E s := by
  obtain ⟨o, T, fs, e, c, ow, d⟩ := x.thereT
  have key : ∀ a, wpAny W.M A (do
      let o ← load I
      match o.cls, o.data with
      | .type n, .fields vs =>
        if ["enumerate", "zip", "dict_itemiterator", "dict_reverseitemiterator", "odict_iterator", "itertools.zip_longest", "itertools.pairwise"].contains n && vs[0]? == some (rawInt a) then
          rule "for.unpacks-the-owned-tuple"
          updateField I 0 .none
      | _, _ => pure () : Sem Unit) Q E s := by
    intro a
    refine wpAny_bind (wpAny_load e ?_)
    rw [c, d]
    dsimp only
    have ow' : ["enumerate", "zip", "dict_itemiterator", "dict_reverseitemiterator", "odict_iterator", "itertools.zip_longest", "itertools.pairwise"].contains T = false := ow
    rw [ow']
    simp only [Bool.false_and, Bool.false_eq_true, if_false]
    exact wpAny_pure h
  cases target <;> first | exact wpAny_pure h | skip
  · cases v <;> first | exact wpAny_pure h | exact key _
  · cases v <;> first | exact wpAny_pure h | exact key _

theorem IterAt.fields {I : Addr} {s : Shared} {F : FM} {all : List PV} {i : Nat} (x : IterAt W.prog W.w W.qc F s.heap I all i) : ∃ o fs, s.heap.get? I = some o ∧ o.data = .fields fs := by
  obtain ⟨o, T, fs, e, c, ow, d⟩ := x.thereT
  exact ⟨o, fs, e, d⟩

theorem Xs.not_iter {h : Heap} {D I : Addr} (ns : ∃ m, h.Ns env.locals m) (cells : ∀ p ∈ env.cells, ∃ v, h.IsCell p.2 v) (hD : ∃ o vs n, h.get? D = some o ∧ o.data = .seq vs n) (hI : ∃ o fs, h.get? I = some o ∧ o.data = .fields fs) : ¬ Xs env N D I := by
  obtain ⟨oI, fs, eI, dI⟩ := hI
  rintro (rfl | ⟨x, hx, hl⟩ | rfl)
  · obtain ⟨m, o, es, ep, e1, e2, _⟩ := ns
    rw [eI] at e1; cases e1; rw [dI] at e2; cases e2
  · obtain ⟨v, o, e1, e2⟩ := cells _ (mem_of_lookup hl)
    rw [eI] at e1; cases e1; rw [dI] at e2; cases e2
  · obtain ⟨o, vs, n, e1, e2⟩ := hD
    rw [eI] at e1; cases e1; rw [dI] at e2; cases e2

theorem Xs.off {F : FM} {s : Shared} {ρ : Rho} {D : Addr} {out : List PV} (si : SI W F0 s0 F s env N ρ) (acc : AccAt W s0 F s env D out) : ∀ a, Xs env N D a → F a = none := by
  rintro a (rfl | ⟨x, hx, hl⟩ | rfl)
  · exact si.fi.privL.1
  · exact si.fi.privF _ (mem_of_lookup hl)
  · obtain ⟨ys, n, e, r, o, z⟩ := acc
    exact o.1
theorem Xs.not {D b : Addr} (h : ¬ Xs env N D b) : b ≠ env.locals ∧ ∀ x c, N.lookup x = some .cell → env.cells.lookup x = some c → c ≠ b :=
  ⟨fun e => h (.inl e), fun x c hx hc e => h (.inr (.inl ⟨x, hx, e ▸ hc⟩))⟩

noncomputable def MutFree (N : Names) (ρ : Rho) : Prop := ∀ x sl, ρ x = some sl → sl.isMut = true → N.lookup x = some .free
noncomputable def MutOff (s : Shared) (env : Env) (ρ : Rho) (D : Addr) : Prop := ∀ x sl u, ρ x = some sl → sl.isMut = true → Bound s.heap env x u → u ≠ .ref D

theorem MutOff.tr {F F' : FM} {s s' : Shared} {ρ : Rho} {D : Addr} {out : List PV} (x : MutOff s env ρ D) (mf : MutFree N ρ) (si : SI W F0 s0 F s env N ρ) (acc : AccAt W s0 F s env D out) (tr : Tr (Xs env N D) F s F' s') : MutOff s' env ρ D := by
  intro y sl u e m b
  have hf := mf y sl e m
  obtain ⟨v, hs, hb⟩ := si.fi.slots y sl e
  have hv := x y sl v e m hb
  obtain ⟨hk, c, hc⟩ := si.fi.kindF y hf
  have hb' : Bound s'.heap env y v := by
    rcases hb with ⟨k, _⟩ | ⟨k, c', hc', o, e1, e2⟩
    · rw [k] at hk; rcases hk with hk | hk <;> cases hk
    · refine .inr ⟨k, c', hc', o, tr.keep _ _ ?_ e1, e2⟩
      rintro (q | ⟨z, hz, hlz⟩ | q)
      · exact si.fi.nl _ (mem_of_lookup hc') q
      · have := name_of_addr si.fi.apart (mem_of_lookup hc') (mem_of_lookup hlz)
        subst this
        rw [hf] at hz; cases hz
      · obtain ⟨ys, n, eD, _⟩ := acc
        rw [q, eD] at e1; cases e1; cases e2
  have := hb'.unique b
  subst this
  exact hv

/-- appending to the list being made -/
theorem append_sound {F : FM} {s : Shared} {ρ : Rho} {D : Addr} {out : List PV} {p : PV} {v : Value} {Q : Value → Shared → Prop} {E : Value → Shared → Prop} (si : SI W F0 s0 F s env N ρ) (acc : AccAt W s0 F s env D out) (r : Rep W.qc F p v) (hsz : out.length ≤ sizeLine)
    (hm : MutOff s env ρ D)
    (h : ∀ s', SI W F0 s0 F s' env N ρ → AccAt W s0 F s' env D (out ++ [p]) → Tr (Xs env N D) F s F s' → Q .none s') : wpAny W.M A (call (.builtin "list.append") [.ref D, v]) Q E s := by
  obtain ⟨ys, n, e, rl, o, z⟩ := acc
  have en := rl.length
  rw [Array.length_toList] at en
  have fi := si.fi
  refine wpAny_list_append_plain ⟨n, e⟩ (fun h' hp hs => ?_) (by rw [en]; exact hsz)
  obtain ⟨n', e'⟩ := hp
  have hB : W.hB.get? D = none := by
    cases q : W.hB.get? D with
    | none => rfl
    | some o => have := si.low _ _ q; rw [z] at this; cases this
  have bk : ∀ x u, Bound s.heap env x u → Bound h' env x u := by
    rintro x u (⟨k, m, q, q'⟩ | ⟨k, c, l, q⟩)
    · exact .inl ⟨k, m, q.sameBut hs (Ne.symm o.2.1), q'⟩
    · exact .inr ⟨k, c, l, q.sameBut hs (fun e => o.2.2 _ (mem_of_lookup l) e.symm)⟩
  refine h _ ⟨{ sits := sits_sameBut fi.sits o.1 hs, base := keep_sameBut fi.base hB hs, kind := fi.kind, globals := fi.globals, blt := fi.blt, ns := ?_, cells := ?_, apart := fi.apart, nl := fi.nl, privL := fi.privL, privF := fi.privF, privC := fi.privC, kindL := fi.kindL, kindC := fi.kindC, kindF := fi.kindF, kindG := fi.kindG, slots := ?_, muts := ?_ }, si.grow.sameBut o.1 z hs, si.low⟩ ?_ ?_
  · obtain ⟨m, q⟩ := fi.ns
    exact ⟨m, q.sameBut hs (Ne.symm o.2.1)⟩
  · intro q hq
    obtain ⟨u, c⟩ := fi.cells q hq
    exact ⟨u, c.sameBut hs (fun e => o.2.2 q hq e.symm)⟩
  · intro x sl ex
    obtain ⟨u, hsl, hb⟩ := fi.slots x sl ex
    refine ⟨u, ?_, bk x u hb⟩
    cases sl with
    | imm p => exact hsl
    | lst ps =>
      obtain ⟨a, vs, n, e0, e1, r, o'⟩ := hsl
      exact ⟨a, vs, n, e0, (hs.2 a (by rintro rfl; exact hm x _ u ex rfl hb e0)).trans e1, r, o'⟩
    | acc hd ps =>
      obtain ⟨a, dx, vs, n, hh, k', t, m, e0, e1, e2, r, o'⟩ := hsl
      exact ⟨a, dx, vs, n, hh, k', t, m, e0, (hs.2 a (by rintro rfl; exact hm x _ u ex rfl hb e0)).trans e1, e2, r, o'⟩
  · intro x y sl sl' u e1 e2 m1 m2 b1 b2
    obtain ⟨v1, _, c1⟩ := fi.slots x sl e1
    obtain ⟨v2, _, c2⟩ := fi.slots y sl' e2
    have q1 := (bk x v1 c1).unique b1
    have q2 := (bk y v2 c2).unique b2
    subst q1; subst q2
    exact fi.muts x y sl sl' _ e1 e2 m1 m2 c1 c2
  · refine ⟨ys.push v, n', e', ?_, o, z⟩
    rw [Array.toList_push]
    exact rl.append (RepL.one r)
  · refine ⟨.refl _, fun _ _ e => .inl e, fun b ob hb eb => (hs.2 b fun q => hb (.inr (.inr q))).trans eb, ?_⟩
    rintro a (rfl | ⟨x, hx, hl⟩ | rfl)
    · exact fi.privL.1
    · exact fi.privF _ (mem_of_lookup hl)
    · exact o.1
end
end Nw

namespace Nw
set_option tactic.hygienic false

theorem bindNames_mut {fresh : Bool} {N : Names} : ∀ (es : List Expr) (ps : List PV) (ρ ρ1 : Rho), bindNames fresh N es ps ρ = some ρ1 → ∀ x sl, ρ1 x = some sl → sl.isMut = true → ρ x = some sl
  | [], ps, ρ, ρ1, h, x, sl, e, _ => by rw [(bindNames_nil h).2] at e; exact e
  | e :: es, ps, ρ, ρ1, h, x, sl, ex, m => by
    refine bindNames_inv h fun y pos p qs _ _ _ hz => ?_
    have := bindNames_mut es qs _ ρ1 hz x sl ex m
    unfold Rho.set at this
    by_cases hy : x = y
    · rw [if_pos hy] at this; cases this; cases m
    · rw [if_neg hy] at this; exact this
theorem bindT_mut {fresh : Bool} {N : Names} {t : Expr} {p : PV} {ρ ρ1 : Rho} (h : bindT fresh N t p ρ = some ρ1) : ∀ x sl, ρ1 x = some sl → sl.isMut = true → ρ x = some sl :=
  bindT_inv h (fun _ _ _ h => bindNames_mut _ _ _ _ h) fun _ _ _ _ _ _ hb => bindNames_mut _ _ _ _ hb

theorem folded_plain {e : Expr} {env : Env} {x : Value} (h : notSetE e = true) : foldedSetIterable e env x = pure x := by
  cases e <;> first | rfl | cases h

section
variable {W : Wd} {A : Around} {F0 : FM} {s0 : Shared} {env : Env} {N : Names} {D : Addr}

theorem AccAt.seq {F : FM} {s : Shared} {out : List PV} (x : AccAt W s0 F s env D out) : ∃ o vs n, s.heap.get? D = some o ∧ o.data = .seq vs n := let ⟨ys, n, e, _, _, _⟩ := x; ⟨_, ys, n, e, rfl⟩

theorem Tr.wide {X Y : Addr → Prop} {F F' : FM} {s s' : Shared} (x : Tr X F s F' s') (h : ∀ a, X a → Y a) (ho : ∀ a, Y a → F' a = none) : Tr Y F s F' s' := ⟨x.le, x.fresh, fun b o hb e => x.keep b o (fun q => hb (h b q)) e, ho⟩

theorem IterAt.tr {X : Addr → Prop} {F F' : FM} {s s' : Shared} {I : Addr} {all : List PV} {i : Nat} (x : IterAt W.prog W.w W.qc F s.heap I all i) (st : Sits F s.heap) (st' : Sits F' s'.heap) (tr : Tr X F s F' s') (hI : ¬ X I) : IterAt W.prog W.w W.qc F' s'.heap I all i := by
  obtain ⟨o, e⟩ := x.there
  obtain ⟨_, _, _, _, _, hn⟩ := id x
  refine x.frame tr.le st st' (fun o e => tr.keep _ _ hI e) ?_
  cases q : F' I with
  | none => rfl
  | some o' =>
    rcases tr.fresh _ _ q with h | h
    · rw [hn] at h; cases h
    · rw [e] at h; cases h

/-- one turn, up to the tests -/
theorem comp_turn {c : Cfg} {n : Nat} (X : Ctx c)
    {elt : Expr} {gens : List Comprehension} {scope : Scope} {pos : Pos} {d : Nat} {target iter : Expr} {ifs : List Expr} (hg : gens[d]? = some ⟨target, iter, ifs, 0⟩)
    {all : List PV} {i : Nat} {it : PV} (hi : all[i]? = some it) {ρ ρ1 : Rho} {ok : Bool} (hb : bindT true N target it ρ = some ρ1) (hok : tests (ev c n N ρ1) ifs ok)
    {F : FM} {s : Shared} {out : List PV} {I : Addr} {R : Result → Shared → Prop} (si : SI X.W F0 s0 F s env N ρ) (mf : MutFree N ρ) (mo : MutOff s env ρ D) (acc : AccAt X.W s0 F s env D out) (x : IterAt X.W.prog X.W.w X.W.qc F s.heap I all i) (hI0 : s0.heap.get? I = none)
    (h : ∀ F' s', SI X.W F0 s0 F' s' env N ρ1 → MutOff s' env ρ1 D → AccAt X.W s0 F' s' env D out → IterAt X.W.prog X.W.w X.W.qc F' s'.heap I all (i + 1) → Tr (fun a => Xs env N D a ∨ a = I) F s F' s' →
      if ok then
        match gens[d + 1]? with
        | some g' => g'.is_async = 0 ∧ notSetE g'.iter = true ∧ wpAny X.W.M X.A (eval g'.iter env) (fun x s4 => wpAny X.W.M X.A (pyIter x) (fun it s5 => wpAny X.W.M X.A (runOwn (.compStart (.ListComp elt gens scope pos) (d + 1) it (.ref D) env) env)
            (fun _ s6 => codeAny X.W.M X.A (.compLoop (.ListComp elt gens scope pos) d (.ref I) (.ref D) env) R s6) NoE s5) NoE s4) NoE s'
        | none => wpAny X.W.M X.A (eval elt env) (fun x s4 => wpAny X.W.M X.A (call (.builtin "list.append") [.ref D, x]) (fun _ s5 => codeAny X.W.M X.A (.compLoop (.ListComp elt gens scope pos) d (.ref I) (.ref D) env) R s5) NoE s4) NoE s'
      else codeAny X.W.M X.A (.compLoop (.ListComp elt gens scope pos) d (.ref I) (.ref D) env) R s') :
    codeAny X.W.M X.A (.compLoop (.ListComp elt gens scope pos) d (.ref I) (.ref D) env) R s := by
  refine codeAny_compLoop_turn ?_
  rw [compTurn_eq elt gens scope pos d _ _ env target iter ifs hg]
  have hlt : i < all.length := (List.getElem?_eq_some_iff.mp hi).1
  obtain ⟨_, _, _, _, _, hIn⟩ := id x
  refine wpAny_bind (wpAny_standAt (wpAny_bind (x.next X.hA.handled hlt fun v p h' tk ep rp x1 k => ?_)))
  rw [hi] at ep; cases ep
  have si1 := si.iter (tk := tk) hIn hI0 x.fields k
  have nX := Xs.not_iter (N := N) (D := D) si.fi.ns si.fi.cells acc.seq x.fields
  have acc1 : AccAt X.W s0 F { s with heap := h', toks := tk } env D out := by
    obtain ⟨ys, n, e, r, o, z⟩ := acc
    exact ⟨ys, n, k _ _ (fun q => nX (.inr (.inr q.symm))) e, r, o, z⟩
  have tr1 : Tr (fun a => Xs env N D a ∨ a = I) F s F { s with heap := h', toks := tk } := by
    refine ⟨.refl _, fun _ _ e => .inl e, fun b o hb e => k b o (fun q => hb (.inr q)) e, ?_⟩
    rintro a (ha | rfl)
    · exact Xs.off si acc a ha
    · exact hIn
  have mo1 : MutOff { s with heap := h', toks := tk } env ρ D := by
    intro y sl u e m b
    obtain ⟨v', hs', hb'⟩ := si.fi.slots y sl e
    obtain ⟨v2, _, hb2⟩ := si1.fi.slots y sl e
    have : v' = v2 := by
      refine Bound.unique (h := h') (env := env) (x := y) ?_ hb2
      rcases hb' with ⟨e, m, n, q⟩ | ⟨e, c, l, o, e1, e2⟩
      · exact .inl ⟨e, m, n.extBut k (fun q => nX (.inl q.symm)), q⟩
      · refine .inr ⟨e, c, l, o, k _ _ ?_ e1, e2⟩
        rintro rfl
        obtain ⟨oI, fs, eI, dI⟩ := x.fields
        rw [eI] at e1; cases e1; rw [dI] at e2; cases e2
    subst this
    have := hb2.unique b
    subst this
    exact mo y sl _ e m hb'
  refine wpAny_bind (letOwned_sound x1 ?_)
  refine wpAny_bind (wpAny_mono (bindT_sound X.hA.handled hb rp si1) (fun _ s2 h2 => ?_) fun _ _ f => f)
  obtain ⟨F2, s1', g1, si2, kl⟩ := h2
  have tr2a : Tr (Xs env N D) F { s with heap := h', toks := tk } F2 s1' := Tr.of_grow g1 (Xs.off (si1.step g1) (acc1.grow g1))
  have acc2 := (acc1.grow g1).kl kl
  have tr2 : Tr (Xs env N D) F { s with heap := h', toks := tk } F2 s2 := tr2a.trans (Tr.of_KL kl (fun b hb => Xs.not hb) (Xs.off si2 acc2))
  have mo2 : MutOff s2 env ρ D := MutOff.tr mo1 mf si1 acc1 tr2
  have mo2' : MutOff s2 env ρ1 D := fun y sl u e m b => mo2 y sl u (bindT_mut hb y sl e m) m b
  refine wpAny_bind (wpAny_mono (tests_sound (X := X) ifs ok hok F2 s2 si2.fi) (fun c s3 h3 => ?_) fun _ _ f => f)
  obtain ⟨rfl, F3, g3⟩ := h3
  have si3 := si2.step g3
  have acc3 := acc2.grow g3
  have tr3 : Tr (Xs env N D) F { s with heap := h', toks := tk } F3 s3 := tr2.trans (Tr.of_grow g3 (Xs.off si3 acc3))
  have mf1 : MutFree N ρ1 := fun y sl e m => mf y sl (bindT_mut hb y sl e m) m
  have mo3 : MutOff s3 env ρ1 D := MutOff.tr mo2' mf1 si2 acc2 (Tr.of_grow g3 (Xs.off si3 acc3))
  have nX1 := Xs.not_iter (N := N) (D := D) si1.fi.ns si1.fi.cells acc1.seq x1.fields
  have x3 := x1.tr si1.fi.sits si3.fi.sits tr3 nX1
  have trx : Tr (fun a => Xs env N D a ∨ a = I) F s F3 s3 := tr1.trans (tr3.wide (fun a h => .inl h) (by
    rintro a (ha | rfl)
    · exact Xs.off si3 acc3 a ha
    · obtain ⟨_, _, _, _, _, q⟩ := id x3; exact q))
  have H := h F3 s3 si3 mo3 acc3 x3 trx
  cases c with
  | true =>
    simp only [if_true] at H ⊢
    cases hq : gens[d + 1]? with
    | none =>
      rw [hq] at H
      dsimp only at H ⊢
      exact wpAny_bind (wpAny_bind (wpAny_mono H (fun v4 s4 h4 => wpAny_bind (wpAny_mono h4 (fun _ s5 h5 => wpAny_pure (wpAny_pure ⟨rfl, h5⟩)) fun _ _ f => f)) fun _ _ f => f))
    | some g' =>
      rw [hq] at H
      dsimp only at H ⊢
      obtain ⟨ha, hs, H⟩ := H
      rw [ha]
      have e0 : ((0 : Int) != 0) = false := rfl
      rw [e0]
      simp only [Bool.false_eq_true, if_false]
      refine wpAny_bind (wpAny_mono H (fun v4 s4 h4 => wpAny_bind (wpAny_standAt (wpAny_bind (wpAny_of_eq (folded_plain hs) (wpAny_bind (wpAny_holding (wpAny_mono h4 (fun it5 s5 h5 => wpAny_bind (wpAny_mono h5 (fun _ s6 h6 => wpAny_pure ⟨rfl, h6⟩) fun _ _ f => f)) fun _ _ f => f))))))) fun _ _ f => f)
  | false =>
    simp only [Bool.false_eq_true, if_false] at H ⊢
    exact wpAny_pure ⟨rfl, H⟩
end
end Nw

namespace Nw
set_option tactic.hygienic false

noncomputable def compItems (step : PV → List PV → Prop) : List PV → List PV → Prop
  | [], out => out = []
  | it :: its, out => ∃ a b, out = a ++ b ∧ step it a ∧ compItems step its b
noncomputable def compGo (f : Rho → Expr → PV → Prop) (N : Names) (elt : Expr) : List Comprehension → List PV → Rho → List PV → Prop
  | [], _, _, _ => False
  | ⟨target, _, ifs, isa⟩ :: rest, items, ρ, out => isa = 0 ∧ compItems (fun it a => ∃ ρ1 ok, bindT true N target it ρ = some ρ1 ∧ tests (f ρ1) ifs ok ∧ ((ok = false ∧ a = []) ∨ (ok = true ∧
      match rest with
      | [] => ∃ v, a = [v] ∧ f ρ1 elt v
      | g' :: _ => ∃ x its, notSetE g'.iter = true ∧ g'.is_async = 0 ∧ f ρ1 g'.iter x ∧ itemsPV x = some its ∧ compGo f N elt rest its ρ1 a))) items out

section
variable {c : Cfg} {n : Nat} {X : Ctx c} {F0 : FM} {s0 : Shared} {env : Env} {N : Names} {D : Addr}

theorem none_keep {h h' : Heap} {a : Addr} (k : Keep h h') (e : h'.get? a = none) : h.get? a = none := by
  cases q : h.get? a with
  | none => rfl
  | some o => exact absurd (e.symm.trans (k _ _ q)) nofun

/-- the frame, the list being made, what is left of the iterator -/
structure CS (X : Ctx c) (F0 : FM) (s0 : Shared) (env : Env) (N : Names) (D : Addr) (all : List PV) (I : Addr) (F : FM) (s : Shared) (ρ : Rho) (out : List PV) (i : Nat) : Prop where
  si : SI X.W F0 s0 F s env N ρ
  mf : MutFree N ρ
  mo : MutOff s env ρ D
  acc : AccAt X.W s0 F s env D out
  x : IterAt X.W.prog X.W.w X.W.qc F s.heap I all i
noncomputable def CL (X : Ctx c) (e : Expr) (d : Nat) (I D : Addr) (env : Env) (R : Result → Shared → Prop) (s : Shared) : Prop := codeAny X.W.M X.A (.compLoop e d (.ref I) (.ref D) env) R s
noncomputable abbrev XI (env : Env) (N : Names) (D I : Addr) (a : Addr) : Prop := Xs env N D a ∨ a = I

theorem off_I {F : FM} {s : Shared} {ρ : Rho} {out : List PV} {I : Addr} (si : SI X.W F0 s0 F s env N ρ) (acc : AccAt X.W s0 F s env D out) (h : F I = none) : ∀ a, XI env N D I a → F a = none
  | a, .inl ha => Xs.off si acc a ha
  | _, .inr e => e ▸ h

/-- the iterator is at its end -/
theorem comp_end {elt : Expr} {gens : List Comprehension} {scope : Scope} {pos : Pos} {d : Nat} {target iter : Expr} {ifs : List Expr} (hg : gens[d]? = some ⟨target, iter, ifs, 0⟩) {all : List PV} {ρ : Rho} {F : FM} {s : Shared} {out : List PV} {I : Addr} {R : Result → Shared → Prop}
    (cs : CS X F0 s0 env N D all I F s ρ out all.length) (hI0 : s0.heap.get? I = none) (hR : ∀ F' s', SI X.W F0 s0 F' s' env N ρ → MutOff s' env ρ D → AccAt X.W s0 F' s' env D out → Tr (XI env N D I) F s F' s' → R (.ok .next) s') : CL X (.ListComp elt gens scope pos) d I D env R s := by
  obtain ⟨si, mf, mo, acc, x⟩ := cs
  refine codeAny_compLoop_turn ?_
  rw [compTurn_eq elt gens scope pos d _ _ env target iter ifs hg]
  obtain ⟨_, _, _, _, _, hIn⟩ := id x
  refine wpAny_bind (wpAny_standAt (wpAny_bind (x.done X.hA.handled fun h' tk k => wpAny_pure ?_)))
  have nX := Xs.not_iter (N := N) (D := D) si.fi.ns si.fi.cells acc.seq x.fields
  have si1 := si.iter (tk := tk) hIn hI0 x.fields k
  have trI : Tr (XI env N D I) F s F { s with heap := h', toks := tk } := ⟨.refl _, fun _ _ e => .inl e, fun b o hb e => k b o (fun q => hb (.inr q)) e, off_I si acc hIn⟩
  refine hR F _ si1 ?_ ?_ trI
  · intro y sl u e m b
    obtain ⟨v', _, hb'⟩ := si.fi.slots y sl e
    obtain ⟨v2, _, hb2⟩ := si1.fi.slots y sl e
    have e2 : v' = v2 := by
      refine Bound.unique (h := h') (env := env) (x := y) ?_ hb2
      rcases hb' with ⟨e, m, n, q⟩ | ⟨e, c, l, o, e1, e2⟩
      · exact .inl ⟨e, m, n.extBut k (fun q => nX (.inl q.symm)), q⟩
      · refine .inr ⟨e, c, l, o, k _ _ ?_ e1, e2⟩
        rintro rfl
        obtain ⟨oI, fs, eI, dI⟩ := x.fields
        rw [eI] at e1; cases e1; rw [dI] at e2; cases e2
    exact fun q => mo y sl v' e m hb' (e2.trans ((hb2.unique b).trans q))
  · obtain ⟨ys, n, e, r, o, z⟩ := acc
    exact ⟨ys, n, k _ _ (fun q => nX (.inr (.inr q.symm))) e, r, o, z⟩

/-- the element is made and appended -/
theorem comp_elt {elt : Expr} {all : List PV} {i : Nat} {ρ : Rho} {F : FM} {s : Shared} {out : List PV} {v : PV} {I : Addr} {P : Shared → Prop} (cs : CS X F0 s0 env N D all I F s ρ out i) (hv : ev c n N ρ elt v) (hsz : out.length < sizeLine)
    (h : ∀ F' s', CS X F0 s0 env N D all I F' s' ρ (out ++ [v]) i → Tr (XI env N D I) F s F' s' → P s') : wpAny X.W.M X.A (eval elt env) (fun x s4 => wpAny X.W.M X.A (call (.builtin "list.append") [.ref D, x]) (fun _ s5 => P s5) NoE s4) NoE s := by
  obtain ⟨si, mf, mo, acc, x⟩ := cs
  refine (hv.val X F s si.fi).use fun u F4 s4 g4 ru => ?_
  have si4 := si.step g4
  have acc4 := acc.grow g4
  have tr4 : Tr (Xs env N D) F s F4 s4 := Tr.of_grow g4 (Xs.off si4 acc4)
  have mo4 := MutOff.tr mo mf si acc tr4
  refine append_sound si4 acc4 ru (Nat.le_of_lt hsz) mo4 fun s5 si5 acc5 tr5 => ?_
  have nX := Xs.not_iter (N := N) (D := D) si.fi.ns si.fi.cells acc.seq x.fields
  have tr45 := tr4.trans tr5
  have x5 := x.tr si.fi.sits si5.fi.sits tr45 nX
  obtain ⟨_, _, _, _, _, hI5⟩ := id x5
  exact h F4 s5 ⟨si5, mf, MutOff.tr mo4 mf si4 acc4 tr5, acc5, x5⟩ (tr45.wide (fun a h => .inl h) (off_I si5 acc5 hI5))

/-- the loops within -/
theorem comp_inner {elt : Expr} {gens : List Comprehension} {scope : Scope} {pos : Pos} {d : Nat} {target iter : Expr} {ifs : List Expr} (hg : gens[d + 1]? = some ⟨target, iter, ifs, 0⟩) {all : List PV} {i : Nat} {ρ : Rho} {F : FM} {s : Shared} {out a : List PV} {xv : PV} {its : List PV} {I : Addr} {P : Shared → Prop} (cs : CS X F0 s0 env N D all I F s ρ out i)
    (hx : ev c n N ρ iter xv) (hits : itemsPV xv = some its)
    (hin : ∀ F5 s5 I', CS X F0 s0 env N D its I' F5 s5 ρ out 0 → s0.heap.get? I' = none → ∀ R : Result → Shared → Prop, (∀ F' s', SI X.W F0 s0 F' s' env N ρ → MutOff s' env ρ D → AccAt X.W s0 F' s' env D (out ++ a) → Tr (XI env N D I') F5 s5 F' s' → R (.ok .next) s') → CL X (.ListComp elt gens scope pos) (d + 1) I' D env R s5)
    (h : ∀ F' s', CS X F0 s0 env N D all I F' s' ρ (out ++ a) i → Tr (XI env N D I) F s F' s' → P s') :
    wpAny X.W.M X.A (eval iter env) (fun x s4 => wpAny X.W.M X.A (pyIter x) (fun it s5 => wpAny X.W.M X.A (runOwn (.compStart (.ListComp elt gens scope pos) (d + 1) it (.ref D) env) env) (fun _ s6 => P s6) NoE s5) NoE s4) NoE s := by
  obtain ⟨si, mf, mo, acc, x⟩ := cs
  refine (hx.val X F s si.fi).use fun u F4 s4 g4 ru => ?_
  refine wpAny_mono (iter_sound (A := X.A) (prog := X.W.prog) (w := X.W.w) hits g4.sits ru) (fun itv s5 ⟨I', F5, e, g5, hI'n, x5⟩ => ?_) fun _ _ f => f.elim
  subst e
  have g45 := g4.trans g5
  have si5 := si.step g45
  have acc5 := acc.grow g45
  have mo5 := MutOff.tr mo mf si acc (Tr.of_grow g45 (Xs.off si5 acc5))
  have hI'4 := none_keep g4.keep hI'n
  have hI's0 := none_keep si.grow.keep hI'4
  have hmark : X.A.mark none = X.A := by
    have hA := X.hA.handled
    unfold Around.mark
    rw [hA]
    cases hq : X.A
    rw [hq] at hA
    subst hA
    rfl
  refine wpAny_runOwn ?_
  rw [hmark]
  refine codeAny_compStart_turn hg (fun Q E hQ => x5.self X.hA.handled hQ) (hin F5 s5 I' ⟨si5, mf, mo5, acc5, x5⟩ hI's0 _ fun F6 s6 si6 mo6 acc6 tr6 => ?_)
  have tr56 : Tr (Xs env N D) F s F6 s6 := by
    refine ⟨g45.le.trans tr6.le, fun a o e => ?_, fun b o hb e => tr6.keep b o ?_ (g45.keep _ _ e), Xs.off si6 acc6⟩
    · exact (tr6.fresh a o e).elim (g45.fresh a o) fun e => .inr (none_keep g45.keep e)
    · rintro (hx | rfl)
      · exact hb hx
      · exact absurd (hI'4.symm.trans e) nofun
  have nX := Xs.not_iter (N := N) (D := D) si.fi.ns si.fi.cells acc.seq x.fields
  have x6 := x.tr si.fi.sits si6.fi.sits tr56 nX
  obtain ⟨_, _, _, _, _, hI6⟩ := id x6
  exact h F6 s6 ⟨si6, mf, mo6, acc6, x6⟩ (tr56.wide (fun a h => .inl h) (off_I si6 acc6 hI6))

theorem drop_more {α : Type} {l : List α} {i : Nat} {a : α} {r : List α} (h : l.drop i = a :: r) : l[i]? = some a ∧ l.drop (i + 1) = r ∧ i < l.length := by
  have hlt : i < l.length := by
    have := congrArg List.length h
    rw [List.length_drop] at this
    exact Nat.lt_of_sub_ne_zero (this ▸ Nat.succ_ne_zero _)
  rw [List.drop_eq_getElem_cons hlt] at h
  cases h
  exact ⟨List.getElem?_eq_getElem hlt, rfl, hlt⟩
theorem drop_none {α : Type} {l : List α} {i : Nat} (h : l.drop i = []) (hi : i ≤ l.length) : i = l.length ∧ l[i]? = none := by
  have := List.drop_eq_nil_iff.mp h
  exact ⟨Nat.le_antisymm hi this, List.getElem?_eq_none this⟩

theorem comp_loop {elt : Expr} {gens : List Comprehension} {scope : Scope} {pos : Pos} : ∀ (rest : List Comprehension) (d : Nat), gens.drop d = rest → d ≤ gens.length → ∀ (items all : List PV) (i : Nat), all.drop i = items → i ≤ all.length →
    ∀ (ρ : Rho) (res : List PV), compGo (fun ρ => ev c n N ρ) N elt rest items ρ res → ∀ (F : FM) (s : Shared) (out : List PV) (I : Addr) (R : Result → Shared → Prop), CS X F0 s0 env N D all I F s ρ out i → s0.heap.get? I = none → out.length + res.length ≤ sizeLine →
      (∀ F' s', SI X.W F0 s0 F' s' env N ρ → MutOff s' env ρ D → AccAt X.W s0 F' s' env D (out ++ res) → Tr (XI env N D I) F s F' s' → R (.ok .next) s') → CL X (.ListComp elt gens scope pos) d I D env R s := by
  intro rest
  induction rest with
  | nil => exact fun d _ _ items all i _ _ ρ res h => h.elim
  | cons g rest ihr =>
    obtain ⟨target, iter, ifs, isa⟩ := g
    intro d hd hdl items all i hsp hi ρ res h
    obtain ⟨rfl, h⟩ := h
    obtain ⟨hg, hd1, hdl1⟩ := drop_more hd
    induction items generalizing i res with
    | nil =>
      intro F s out I R cs hI0 hsz hR
      cases h
      obtain ⟨rfl, _⟩ := drop_none hsp hi
      rw [List.append_nil] at hR
      exact comp_end hg cs hI0 hR
    | cons it items ihi =>
      intro F s out I R cs hI0 hsz hR
      obtain ⟨a, b, rfl, ⟨ρ1, ok, hb, hok, hstep⟩, hrest⟩ := h
      obtain ⟨hall, hsp1, hlt⟩ := drop_more hsp
      rw [List.length_append] at hsz
      have mf1 : MutFree N ρ1 := fun y sl e m => cs.mf y sl (bindT_mut hb y sl e m) m
      have next : ∀ F' s', CS X F0 s0 env N D all I F' s' ρ1 (out ++ a) (i + 1) → Tr (XI env N D I) F s F' s' → CL X (.ListComp elt gens scope pos) d I D env R s' := by
        intro F' s' cs' tr'
        refine ihi (i + 1) hsp1 hlt b hrest F' s' (out ++ a) I R ⟨cs'.si.weaken (bindT_ext hb), cs.mf, fun y sl u e m bd => cs'.mo y sl u (bindT_ext hb y sl e) m bd, cs'.acc, cs'.x⟩ hI0 (by rw [List.length_append]; lia) ?_
        intro F'' s'' si3 mo3 acc3 tr3
        rw [List.append_assoc] at acc3
        exact hR F'' s'' si3 mo3 acc3 (tr'.trans tr3)
      refine comp_turn X hg hall hb hok cs.si cs.mf cs.mo cs.acc cs.x hI0 fun F' s' si' mo' acc' x' tr' => ?_
      have cs' : CS X F0 s0 env N D all I F' s' ρ1 out (i + 1) := ⟨si', mf1, mo', acc', x'⟩
      rcases hstep with ⟨rfl, rfl⟩ | ⟨rfl, hstep⟩
      · exact next F' s' (by rw [List.append_nil]; exact cs') tr'
      · show match gens[d + 1]? with
          | some g' => _
          | none => _
        cases rest with
        | nil =>
          rw [(drop_none hd1 hdl1).2]
          obtain ⟨v, rfl, hv⟩ := hstep
          exact comp_elt cs' hv (by rw [List.length_singleton] at hsz; lia) fun F5 s5 cs5 tr5 => next F5 s5 cs5 (tr'.trans tr5)
        | cons g' rest' =>
          obtain ⟨hg', hd2, _⟩ := drop_more hd1
          obtain ⟨t', it', ifs', isa'⟩ := g'
          rw [hg']
          obtain ⟨xv, its, hns, hz, hx, hits, hgo⟩ := hstep
          have hz : isa' = 0 := hz
          subst hz
          exact ⟨rfl, hns, comp_inner hg' cs' hx hits (fun F5 s5 I' cs5 hI R5 hR5 => ihr (d + 1) hd1 hdl1 its its 0 rfl (Nat.zero_le _) ρ1 a hgo F5 s5 out I' R5 cs5 hI (by lia) hR5) fun F5 s5 cs5 tr5 => next F5 s5 cs5 (tr'.trans tr5)⟩
end
end Nw

namespace Nw
set_option tactic.hygienic false

section
variable {W : Wd}

theorem SI.rebase {F1 F0 F : FM} {s1 s0 s : Shared} {env : Env} {N : Names} {ρ : Rho} (si : SI W F0 s0 F s env N ρ) (g : Grow F1 s1 F0 s0) (low : Keep W.hB s1.heap) : SI W F1 s1 F s env N ρ := by
  have back : ∀ a, s0.heap.get? a = none → s1.heap.get? a = none := fun a ha => by
    cases q : s1.heap.get? a with
    | none => rfl
    | some o => have := g.keep _ _ q; rw [ha] at this; cases this
  exact ⟨{ si.fi with privL := ⟨si.fi.privL.1, back _ si.fi.privL.2⟩, privC := fun x c h h' => back _ (si.fi.privC x c h h') }, g.trans si.grow, low⟩

theorem Grow.freeze {F0 F : FM} {s0 s : Shared} {D : Addr} {o : Obj} (g : Grow F0 s0 F s) (hF : F D = none) (h0 : s0.heap.get? D = none) (ho : s.heap.get? D = some o) : Grow F0 s0 (F.put D o) s := by
  refine ⟨fun b x e => ?_, fun b x e => ?_, g.keep, fun b x e => ?_, g.os, g.gens⟩
  · have := g.le _ _ e
    unfold FM.put
    rw [if_neg]
    · exact this
    · rintro rfl; rw [hF] at this; cases this
  · unfold FM.put at e
    split at e
    · rename_i q; cases e; rw [q]; exact ho
    · exact g.sits _ _ e
  · unfold FM.put at e
    split at e
    · rename_i q; rw [q]; exact .inr h0
    · exact g.fresh _ _ e

theorem listcomp_core {c : Cfg} {n : Nat} (X : Ctx c) {h0 : Heap} {env : Env} {N : Names} {ρ : Rho}
    {elt : Expr} {scope : Scope} {pos : Pos} {target iter : Expr} {ifs : List Expr} {rest : List Comprehension}
    (hok : compOk N scope = true) (hs : notSetE iter = true) {x : PV} {items res : List PV} (hx : ev c n N ρ iter x) (hi : itemsPV x = some items)
    (hgo : compGo (fun ρ => ev c n scope.names ρ) scope.names elt (⟨target, iter, ifs, 0⟩ :: rest) items (rhoIn scope.names ρ) res) (hsz : res.length ≤ sizeLine) {F : FM} {s : Shared} (fi : FI X.W h0 F s env N ρ) {use : Option (Value → Sem Unit)} {Q : Value → Shared → Prop} {E : Value → Shared → Prop} {p1 : Pos}
    (hk : ∀ F' s' D C, Grow F s F' s' → Rep X.W.qc F' (.list res) (.ref D) → F' C = none → s.heap.get? C = none → (∃ m, s'.heap.Ns C m) → compPost X.W.M X.A E use Q (.ref D) C (.ok .next) s') :
    wpAny X.W.M X.A (comprehension (.ListComp elt (⟨target, iter, ifs, 0⟩ :: rest) scope pos) scope env p1 (newList []) false (eval iter env) use) Q E s := by
  have hok' := hok
  unfold compOk at hok'
  simp only [Bool.and_eq_true, List.all_eq_true, beq_iff_eq] at hok'
  obtain ⟨⟨hnd, hkind⟩, _⟩ := hok'
  have hnames : ∀ x ∈ scope.names, x.2 = .local → scope.names.lookup x.1 = some .local := by
    rintro ⟨y, k⟩ hy hk
    have hk : k = .local := hk
    subst hk
    exact lookup_of_mem (nodupB_spec hnd) hy
  have hclos : closureFor scope env = pure (freeCells env.cells scope.names []) := (comp_env fi fi.base hok rfl rfl).2.1
  refine wpAny_comprehension_free rfl (fun x => folded_plain hs) hclos hkind hnames ?_
  refine (hx.val X F s fi).use fun xv F1 s1 g1 rx => ?_
  have fi1 := fi.grow g1
  refine wpAny_mono (iter_sound (A := X.A) (prog := X.W.prog) (w := X.W.w) hi g1.sits rx) (fun itv s2 h2 => ?_) fun _ _ f => f.elim
  obtain ⟨I, F2, rfl, g2, hIn, xi⟩ := h2
  have fi2 := fi1.grow g2
  refine wpAny_newObj_type ?_
  refine wpAny_newCompEnv ?_
  have hD1 : s1.heap.get? s2.heap.objs.size = none := by
    cases q : s1.heap.get? s2.heap.objs.size with
    | none => rfl
    | some o => have := g2.keep _ _ q; rw [push_new] at this; cases this
  have g3 : Grow F2 s2 F2 { s2 with heap := s2.heap.push { cls := .type "list", data := .seq ([] : List Value).toArray } } := Grow.heap (tk := s2.toks) g2.sits (Keep.push _ _)
  have fi3 := fi2.grow g3
  obtain ⟨si4, _, key⟩ := comp_env fi3 fi3.base hok rfl rfl
  have si4 := si4.rebase (g2.trans g3) fi1.base
  have keep4 : Keep s2.heap (pushCells ((s2.heap.push { cls := .type "list", data := .seq ([] : List Value).toArray }).push { cls := .type "dict", data := .dict #[] }) scope.names) := fun b o e => pushCells_keeps _ _ b o (Heap.get?_push_of_some _ (Heap.get?_push_of_some _ e))
  have hD4 : (pushCells ((s2.heap.push { cls := .type "list", data := .seq ([] : List Value).toArray }).push { cls := .type "dict", data := .dict #[] }) scope.names).get? s2.heap.objs.size = some (listOf #[] 0) :=
    pushCells_keeps _ _ _ _ (Heap.get?_push_of_some _ (Heap.get?_push_size _ rfl))
  have hFD : F2 s2.heap.objs.size = none := by
    cases q : F2 s2.heap.objs.size with
    | none => rfl
    | some o => have := g2.sits _ _ q; rw [push_new] at this; cases this
  generalize hh4 : pushCells ((s2.heap.push { cls := .type "list", data := .seq ([] : List Value).toArray }).push { cls := .type "dict", data := .dict #[] }) scope.names = h4 at *
  generalize hC : (s2.heap.push { cls := .type "list", data := .seq ([] : List Value).toArray }).objs.size = C at *
  generalize hcl : cellsFrom (C + 1) scope.names (freeCells env.cells scope.names []) = cl at *
  generalize hD : s2.heap.objs.size = D at *
  have acc4 : AccAt X.W s1 F2 { s2 with heap := h4 } (compEnvC scope cl C env) D [] := by
    refine ⟨#[], 0, hD4, rfl, ⟨hFD, ?_, fun p hp e => ?_⟩, hD1⟩
    · rintro e
      obtain ⟨m, o, es, ep, e1, e2, _⟩ := si4.fi.ns
      rw [← e] at e1
      have e1 : h4.get? D = some o := e1
      rw [hD4] at e1; cases e1; cases e2
    · obtain ⟨v, o, e1, e2⟩ := si4.fi.cells p hp
      rw [← e] at e1
      have e1 : h4.get? D = some o := e1
      rw [hD4] at e1; cases e1; cases e2
  have xi4 : IterAt X.W.prog X.W.w X.W.qc F2 h4 I items 0 := by
    obtain ⟨_, _, _, _, _, hn⟩ := id xi
    exact xi.frame (.refl _) g2.sits si4.fi.sits (fun o e => keep4 _ _ e) hn
  have mf : MutFree scope.names (rhoIn scope.names ρ) := by
    intro y sl e m
    unfold rhoIn at e
    split at e
    · rename_i q; simpa using q
    · cases e
  have mo4 : MutOff { s2 with heap := h4 } (compEnvC scope cl C env) (rhoIn scope.names ρ) D := by
    rintro y sl u e m b rfl
    have bo := key y sl _ e b
    have ey : ρ y = some sl := by
      unfold rhoIn at e
      split at e
      · exact e
      · cases e
    obtain ⟨v, hsl, hb⟩ := fi2.slots y sl ey
    have hb3 : Bound (s2.heap.push { cls := .type "list", data := .seq ([] : List Value).toArray }) env y v := hb.keep (Keep.push _ _)
    have := hb3.unique bo
    subst this
    have hnew : s2.heap.get? D = none := by rw [← hD]; exact push_new _
    cases sl with
    | imm p => cases m
    | lst ps =>
      obtain ⟨a, vs, n, e0, e1, _⟩ := hsl
      cases e0
      rw [hnew] at e1; cases e1
    | acc hd ps =>
      obtain ⟨a, dx, vs, n, hh, k', t, m', e0, e1, _⟩ := hsl
      cases e0
      rw [hnew] at e1; cases e1
  show codeAny X.W.M X.A (.compStart (.ListComp elt (⟨target, iter, ifs, 0⟩ :: rest) scope pos) 0 (.ref I) (.ref D) (compEnvC scope cl C env)) _ { s2 with heap := h4 }
  refine codeAny_compStart_turn (target := target) (iter := iter) (ifs := ifs) rfl (fun Q E hQ => xi4.self X.hA.handled hQ) ?_
  refine comp_loop (X := X) (F0 := F1) (s0 := s1) (N := scope.names) (⟨target, iter, ifs, 0⟩ :: rest) 0 rfl (Nat.zero_le _) items items 0 rfl (Nat.zero_le _) _ res hgo F2 _ [] I _ ⟨si4, mf, mo4, acc4, xi4⟩ hIn (by simpa using hsz) ?_
  intro F' s' si' mo' acc' tr'
  obtain ⟨ys, nn, e, r, o, z⟩ := acc'
  have gD := si'.grow.freeze o.1 z e
  have le : F'.le (F'.put D (listOf ys nn)) := fun b x ex => by
    unfold FM.put
    rw [if_neg]
    · exact ex
    · rintro rfl; rw [o.1] at ex; cases ex
  refine hk _ s' D C (g1.trans gD) ⟨D, _, ys, nn, rfl, FM.put_self _ _ _, rfl, rfl, RepL.mono _ le r⟩ ?_ ?_ si'.fi.ns
  · unfold FM.put
    rw [if_neg (fun q => o.2.1 q.symm)]
    exact si'.fi.privL.1
  · have := si'.fi.privL.2
    cases q : s.heap.get? C with
    | none => rfl
    | some ob => have q' := g1.keep _ _ q; exact absurd (q'.symm.trans this) (by simp)

end
theorem e_comp {c : Cfg} {n : Nat} {N : Names} {ρ : Rho} {elt target iter : Expr} {ifs : List Expr} {rest : List Comprehension} {scope : Scope} {pos : Pos} {x : PV} {items out : List PV} (hf : (compOk N scope && notSetE iter && (0 : Int) == 0) = true) (h1 : ev c n N ρ iter x) (h2 : itemsPV x = some items)
    (h3 : compGo (fun ρ' => ev c n scope.names ρ') scope.names elt (⟨target, iter, ifs, 0⟩ :: rest) items (rhoIn scope.names ρ) out) (hs : out.length ≤ sizeLine) : ev c (n + 1) N ρ (.ListComp elt (⟨target, iter, ifs, 0⟩ :: rest) scope pos) (.list out) :=
  .mk' rfl (fun _ => rfl) fun X h0 env F s fi => by
    rw [Bool.and_eq_true, Bool.and_eq_true] at hf
    unfold Ev
    rw [eval_ListComp]
    exact listcomp_core X hf.1.1 hf.1.2 h1 h2 h3 hs fi (use := none) fun F' s' D C g r fc hc ⟨m, n⟩ => ⟨m, n, fun h' hs' => ⟨F', g.sameBut (tk := s'.toks) fc hc hs', r⟩⟩

/-! comprehensions by rules -/
theorem compItems_map {α : Type} {step : PV → List PV → Prop} {f : α → PV} {g : α → List PV} : ∀ (l : List α), (∀ a ∈ l, step (f a) (g a)) → compItems step (l.map f) (l.flatMap g)
  | [], _ => rfl
  | a :: l, h => ⟨g a, l.flatMap g, List.flatMap_cons, h a (.head _), compItems_map l fun b hb => h b (.tail _ hb)⟩
theorem flatMap_one {α : Type} {g : α → PV} : ∀ l : List α, l.flatMap (fun a => [g a]) = l.map g
  | [] => rfl
  | a :: l => by rw [List.flatMap_cons, flatMap_one l]; rfl
section
variable {α : Type} {N : Names} {ρ : Rho} {evn : Rho → Expr → PV → Prop}
theorem comp1_map {elt target iter : Expr} {f : α → PV} {g : α → PV} {l : List α}
    (h : ∀ a ∈ l, ∃ ρ1, bindT true N target (f a) ρ = some ρ1 ∧ evn ρ1 elt (g a)) : compGo evn N elt [⟨target, iter, [], 0⟩] (l.map f) ρ (l.map g) :=
  ⟨rfl, flatMap_one (g := g) l ▸ compItems_map (g := fun a => [g a]) l fun a ha => let ⟨ρ1, h1, h2⟩ := h a ha; ⟨ρ1, true, h1, rfl, .inr ⟨rfl, _, rfl, h2⟩⟩⟩
theorem comp_nest {elt target iter : Expr} {g' : Comprehension} {rest : List Comprehension} {f : α → PV} {g : α → List PV} {l : List α}
    (h : ∀ a ∈ l, ∃ ρ1 x its, bindT true N target (f a) ρ = some ρ1 ∧ (notSetE g'.iter && g'.is_async == 0) = true ∧ evn ρ1 g'.iter x ∧ itemsPV x = some its ∧ compGo evn N elt (g' :: rest) its ρ1 (g a)) :
    compGo evn N elt (⟨target, iter, [], 0⟩ :: g' :: rest) (l.map f) ρ (l.flatMap g) :=
  ⟨rfl, compItems_map l fun a ha => by
    obtain ⟨ρ1, x, its, h1, h2, h3, h4, h5⟩ := h a ha
    rw [Bool.and_eq_true] at h2
    exact ⟨ρ1, true, h1, rfl, .inr ⟨rfl, x, its, h2.1, eq_of_beq h2.2, h3, h4, h5⟩⟩⟩
theorem comp1_if {elt target iter e : Expr} {f : α → PV} {g : α → PV} {t : α → Bool} {l : List α}
    (h : ∀ a ∈ l, ∃ ρ1, bindT true N target (f a) ρ = some ρ1 ∧ evn ρ1 e (.bool (t a)) ∧ (t a = true → evn ρ1 elt (g a))) :
    compGo evn N elt [⟨target, iter, [e], 0⟩] (l.map f) ρ (l.flatMap fun a => if t a then [g a] else []) :=
  ⟨rfl, compItems_map l fun a ha => by
    obtain ⟨ρ1, h1, h2, h3⟩ := h a ha
    cases q : t a with
    | false => exact ⟨ρ1, false, h1, ⟨_, false, q ▸ h2, rfl, .inr ⟨rfl, rfl⟩⟩, .inl ⟨rfl, rfl⟩⟩
    | true => exact ⟨ρ1, true, h1, ⟨_, true, q ▸ h2, rfl, .inl ⟨rfl, rfl⟩⟩, .inr ⟨rfl, _, rfl, h3 q⟩⟩⟩
end
end Nw

namespace Nw

inductive FlowP where
  | next | brk
  | ret (p : PV)

/-- the state of a body, its own lists new since its call -/
structure SJ (W : Wd) (F0 : FM) (s0 : Shared) (F : FM) (s : Shared) (env : Env) (N : Names) (ρ : Rho) : Prop where
  si : SI W F0 s0 F s env N ρ
  own : ∀ x sl a, ρ x = some sl → sl.isMut = true → Bound s.heap env x (.ref a) → s0.heap.get? a = none

/-- what a step of a body leaves to the iterators around it -/
structure Stp (F : FM) (s : Shared) (F' : FM) (s' : Shared) : Prop where
  le : F.le F'
  fresh : ∀ a o ob fs, F' a = some o → s.heap.get? a = some ob → ob.data = .fields fs → F a = some o
  kf : ∀ b ob fs, s.heap.get? b = some ob → ob.data = .fields fs → s'.heap.get? b = some ob

theorem Stp.trans {F F' F'' : FM} {s s' s'' : Shared} (x : Stp F s F' s') (y : Stp F' s' F'' s'') : Stp F s F'' s'' :=
  ⟨x.le.trans y.le, fun a o ob fs e e1 e2 => x.fresh a o ob fs (y.fresh a o ob fs e (x.kf _ _ _ e1 e2) e2) e1 e2, fun b ob fs e1 e2 => y.kf _ _ _ (x.kf _ _ _ e1 e2) e2⟩
theorem Stp.of_grow {F F' : FM} {s s' : Shared} (g : Grow F s F' s') : Stp F s F' s' :=
  by
  refine ⟨g.le, fun a o ob fs e e1 _ => ?_, fun b ob _ e _ => g.keep _ _ e⟩
  rcases g.fresh a o e with h | h
  · exact h
  · rw [e1] at h; cases h
theorem Stp.refl {F : FM} {s : Shared} : Stp F s F s := ⟨.refl _, fun _ _ _ _ e _ _ => e, fun _ _ _ e _ => e⟩

/-- all but one object stands -/
structure GrowBut (a : Addr) (F : FM) (s : Shared) (F' : FM) (s' : Shared) : Prop where
  le : F.le F'
  sits : Sits F' s'.heap
  keep : ∀ b o, b ≠ a → s.heap.get? b = some o → s'.heap.get? b = some o
  fresh : ∀ b o, F' b = some o → F b = some o ∨ s.heap.get? b = none
  os : s'.os = s.os
  gens : AllBare s.gens → AllBare s'.gens

theorem GrowBut.same {a : Addr} {F : FM} {s : Shared} {h' : Heap} {tk : Nat} (st : Sits F s.heap) (ha : F a = none) (hs : Heap.SameBut a s.heap h') : GrowBut a F s F { s with heap := h', toks := tk } :=
  ⟨.refl _, sits_sameBut st ha hs, fun b o hb e => (hs.2 b hb).trans e, fun _ _ e => .inl e, rfl, id⟩
theorem GrowBut.of_grow {a : Addr} {F F' : FM} {s s' : Shared} (g : Grow F s F' s') : GrowBut a F s F' s' := ⟨g.le, g.sits, fun b o _ e => g.keep b o e, g.fresh, g.os, g.gens⟩
theorem GrowBut.trans {a : Addr} {F F' F'' : FM} {s s' s'' : Shared} (x : GrowBut a F s F' s') (y : GrowBut a F' s' F'' s'') (ha : ∃ o, s.heap.get? a = some o) (ha' : F'' a = none) : GrowBut a F s F'' s'' := by
  refine ⟨x.le.trans y.le, y.sits, fun b o hb e => y.keep b o hb (x.keep b o hb e), fun b o e => ?_, y.os.trans x.os, y.gens ∘ x.gens⟩
  rcases y.fresh b o e with h | h
  · exact x.fresh b o h
  · by_cases hb : b = a
    · subst hb; rw [ha'] at e; cases e
    · refine .inr ?_
      cases q : s.heap.get? b with
      | none => rfl
      | some ob => rw [x.keep b ob hb q] at h; cases h
theorem none_growBut {F F' : FM} {s s' : Shared} {a b : Addr} {o : Obj} (x : F b = none) (g : GrowBut a F s F' s') (hb : s.heap.get? b = some o) : F' b = none := by
  cases q : F' b with
  | none => rfl
  | some o' =>
    rcases g.fresh b o' q with e | e
    · rw [x] at e; cases e
    · rw [hb] at e; cases e
theorem Stp.of_growBut {a : Addr} {F F' : FM} {s s' : Shared} (g : GrowBut a F s F' s') (ha : ∃ o vs n, s.heap.get? a = some o ∧ o.data = .seq vs n) : Stp F s F' s' :=
  by
  refine ⟨g.le, fun b o ob fs e e1 _ => ?_, fun b ob fs e e2 => g.keep _ _ ?_ e⟩
  · rcases g.fresh b o e with h | h
    · exact h
    · rw [e1] at h; cases h
  · rintro rfl
    obtain ⟨o, vs, n, e3, e4⟩ := ha
    rw [e] at e3; cases e3; rw [e2] at e4; cases e4

section
variable {W : Wd} {A : Around} {F0 F F' : FM} {s0 s s' : Shared} {env : Env} {N : Names} {ρ : Rho}

theorem SJ.step (x : SJ W F0 s0 F s env N ρ) (g : Grow F s F' s') : SJ W F0 s0 F' s' env N ρ :=
  ⟨x.si.step g, fun y sl a e m b => by
    obtain ⟨v, _, hb⟩ := x.si.fi.slots y sl e
    have := hb.back g.keep b
    subst this
    exact x.own y sl a e m hb⟩

theorem Slot.seq {W : Wd} {F : FM} {h : Heap} {env : Env} {sl : Slot} {v : Value} (x : SlotOK W F h env sl v) (m : sl.isMut = true) : ∃ a o vs n, v = .ref a ∧ h.get? a = some o ∧ o.data = .seq vs n ∧ Off F env a := by
  cases sl with
  | imm p => cases m
  | lst ps => obtain ⟨a, vs, n, e, e1, _, o⟩ := x; exact ⟨a, _, vs, n, e, e1, rfl, o⟩
  | acc hd ps => obtain ⟨a, dx, vs, n, hh, k, t, m, e, e1, _, _, o⟩ := x; exact ⟨a, _, vs, n, e, e1, rfl, o⟩

/-- a list or a pile of the frame is changed -/
theorem SJ.mut {x : Str} {sl sl' : Slot} {a : Addr} (sj : SJ W F0 s0 F s env N ρ) (hx : ρ x = some sl) (hm : sl.isMut = true) (hb : Bound s.heap env x (.ref a)) (ho : SlotOK W F s.heap env sl (.ref a))
    (g : GrowBut a F s F' s') (hn : SlotOK W F' s'.heap env sl' (.ref a)) : SJ W F0 s0 F' s' env N (ρ.set x sl') ∧ Stp F s F' s' := by
  have fi := sj.si.fi
  obtain ⟨a', o, vs, n, ea, e1, e2, off⟩ := Slot.seq ho hm
  cases ea
  have h0a := sj.own x sl a hx hm hb
  have hBa : W.hB.get? a = none := by
    cases q : W.hB.get? a with
    | none => rfl
    | some ob => have := sj.si.low _ _ q; rw [h0a] at this; cases this
  have bk : ∀ y v, Bound s.heap env y v → Bound s'.heap env y v := by
    rintro y v (⟨k, m, q, q'⟩ | ⟨k, c, l, oc, q, q'⟩)
    · refine .inl ⟨k, m, ?_, q'⟩
      obtain ⟨ob, es, ep, f1, f2, f3, f4⟩ := q
      exact ⟨ob, es, ep, g.keep _ _ (Ne.symm off.2.1) f1, f2, f3, f4⟩
    · exact .inr ⟨k, c, l, oc, g.keep _ _ (fun e => off.2.2 _ (mem_of_lookup l) e.symm) q, q'⟩
  have back : ∀ y v sl1, ρ y = some sl1 → Bound s'.heap env y v → Bound s.heap env y v := fun y v sl1 e b => by
    obtain ⟨u, _, hu⟩ := fi.slots y sl1 e
    have := (bk y u hu).unique b
    subst this
    exact hu
  have gr : Grow F0 s0 F' s' := by
    refine ⟨sj.si.grow.le.trans g.le, g.sits, fun b ob e => g.keep b ob ?_ (sj.si.grow.keep b ob e), fun b ob e => ?_, g.os.trans sj.si.grow.os, g.gens ∘ sj.si.grow.gens⟩
    · rintro rfl; rw [h0a] at e; cases e
    · rcases g.fresh b ob e with h | h
      · exact sj.si.grow.fresh b ob h
      · refine .inr ?_
        cases q : s0.heap.get? b with
        | none => rfl
        | some oc => rw [sj.si.grow.keep _ _ q] at h; cases h
  have slot' : ∀ y sl1, y ≠ x → ρ y = some sl1 → ∃ v, SlotOK W F' s'.heap env sl1 v ∧ Bound s'.heap env y v := by
    intro y sl1 hy e
    obtain ⟨v, hs, hv⟩ := fi.slots y sl1 e
    refine ⟨v, ?_, bk y v hv⟩
    cases sl1 with
    | imm p => exact Rep.mono _ g.le hs
    | lst ps =>
      obtain ⟨a2, vs2, n2, f0, f1, r, o2⟩ := hs
      have hne : a2 ≠ a := by
        rintro rfl
        subst f0
        exact hy (fi.muts y x _ _ _ e hx rfl hm hv hb)
      exact ⟨a2, vs2, n2, f0, g.keep _ _ hne f1, RepL.mono _ g.le r, none_growBut o2.1 g f1, o2.2⟩
    | acc hd ps =>
      obtain ⟨a2, dx, vs2, n2, hh, k, t, m, f0, f1, f2, r, o2⟩ := hs
      have hne : a2 ≠ a := by
        rintro rfl
        subst f0
        exact hy (fi.muts y x _ _ _ e hx rfl hm hv hb)
      exact ⟨a2, dx, vs2, n2, hh, k, t, m, f0, g.keep _ _ hne f1, g.le _ _ f2, RepL.mono _ g.le r, none_growBut o2.1 g f1, o2.2⟩
  refine ⟨⟨⟨{ sits := g.sits, base := fun b ob e => g.keep b ob (by rintro rfl; rw [hBa] at e; cases e) (fi.base b ob e), kind := fi.kind, globals := fi.globals, blt := fi.blt, ns := ?_, cells := ?_, apart := fi.apart, nl := fi.nl, privL := ?_, privF := ?_, privC := fi.privC, kindL := fi.kindL, kindC := fi.kindC, kindF := fi.kindF, kindG := fi.kindG, slots := ?_, muts := ?_ }, gr, sj.si.low⟩, ?_⟩, Stp.of_growBut g ⟨o, vs, n, e1, e2⟩⟩
  · obtain ⟨m, ob, es, ep, f1, f2, f3, f4⟩ := fi.ns
    exact ⟨m, ob, es, ep, g.keep _ _ (Ne.symm off.2.1) f1, f2, f3, f4⟩
  · intro p hp
    obtain ⟨v, ob, f1, f2⟩ := fi.cells p hp
    exact ⟨v, ob, g.keep _ _ (fun e => off.2.2 p hp e.symm) f1, f2⟩
  · obtain ⟨m, ob, es, ep, f1, f2⟩ := fi.ns
    exact ⟨none_growBut fi.privL.1 g f1, fi.privL.2⟩
  · intro p hp
    obtain ⟨v, ob, f1, f2⟩ := fi.cells p hp
    exact none_growBut (fi.privF p hp) g f1
  · intro y sl1 e
    unfold Rho.set at e
    split at e
    · rename_i hy; cases e; subst hy
      exact ⟨_, hn, bk _ _ hb⟩
    · rename_i hy; exact slot' y sl1 hy e
  · intro y z sl1 sl2 v f1 f2 m1 m2 b1 b2
    unfold Rho.set at f1 f2
    by_cases hy : y = x
    · by_cases hz : z = x
      · rw [hy, hz]
      · rw [if_neg hz] at f2
        subst hy
        have q1 := (bk _ _ hb).unique b1
        subst q1
        exact fi.muts y z sl sl2 _ hx f2 hm m2 hb (back z _ sl2 f2 b2)
    · rw [if_neg hy] at f1
      by_cases hz : z = x
      · subst hz
        have q1 := (bk _ _ hb).unique b2
        subst q1
        exact fi.muts y z sl1 sl _ f1 hx m1 hm (back y _ sl1 f1 b1) hb
      · rw [if_neg hz] at f2
        exact fi.muts y z sl1 sl2 v f1 f2 m1 m2 (back y _ sl1 f1 b1) (back z _ sl2 f2 b2)
  · intro y sl1 a1 e m b
    unfold Rho.set at e
    split at e
    · rename_i hy; subst hy
      have q1 := (bk _ _ hb).unique b
      cases q1
      exact h0a
    · exact sj.own y sl1 a1 e m (back y _ sl1 e b)

/-- freezing -/
noncomputable def Rho.freeze (ρ : Rho) (xs : List Str) : Rho := fun y => if xs.contains y then (match ρ y with | some (.lst ps) => some (.imm (.list ps)) | o => o) else ρ y

theorem SJ.freeze1 {x : Str} {ps : List PV} (sj : SJ W F0 s0 F s env N ρ) (hx : ρ x = some (.lst ps)) : ∃ F', SJ W F0 s0 F' s env N (ρ.set x (.imm (.list ps))) ∧ Stp F s F' s := by
  have fi := sj.si.fi
  obtain ⟨v, hs, hb⟩ := fi.slots x _ hx
  obtain ⟨a, vs, n, rfl, e1, r, off⟩ := hs
  have h0a := sj.own x _ a hx rfl hb
  have le : F.le (F.put a (listOf vs n)) := fun b o e => by
    unfold FM.put
    rw [if_neg]
    · exact e
    · rintro rfl; rw [off.1] at e; cases e
  have g := sj.si.grow.freeze off.1 h0a e1
  have ne : ∀ b, F b = none → b ≠ a → (F.put a (listOf vs n)) b = none := fun b hb h => by unfold FM.put; rw [if_neg h]; exact hb
  refine ⟨F.put a (listOf vs n), ⟨⟨{ sits := g.sits, base := fi.base, kind := fi.kind, globals := fi.globals, blt := fi.blt, ns := fi.ns, cells := fi.cells, apart := fi.apart, nl := fi.nl, privL := ⟨ne _ fi.privL.1 (Ne.symm off.2.1), fi.privL.2⟩, privF := fun p hp => ne _ (fi.privF p hp) (Ne.symm (off.2.2 p hp)), privC := fi.privC, kindL := fi.kindL, kindC := fi.kindC, kindF := fi.kindF, kindG := fi.kindG, slots := ?_, muts := ?_ }, g, sj.si.low⟩, ?_⟩, le, ?_, fun _ _ _ e _ => e⟩
  · intro y sl e
    unfold Rho.set at e
    split at e
    · rename_i hy; cases e; subst hy
      exact ⟨_, ⟨a, _, vs, n, rfl, FM.put_self _ _ _, rfl, rfl, RepL.mono _ le r⟩, hb⟩
    · rename_i hy
      obtain ⟨u, hu, hbu⟩ := fi.slots y sl e
      refine ⟨u, ?_, hbu⟩
      cases sl with
      | imm p => exact Rep.mono _ le hu
      | lst qs =>
        obtain ⟨a2, vs2, n2, rfl, f1, r2, o2⟩ := hu
        have hne : a2 ≠ a := by rintro rfl; exact hy (fi.muts y x _ _ _ e hx rfl rfl hbu hb)
        exact ⟨a2, vs2, n2, rfl, f1, RepL.mono _ le r2, ne _ o2.1 hne, o2.2⟩
      | acc hd qs =>
        obtain ⟨a2, dx, vs2, n2, hh, k, t, m, rfl, f1, f2, r2, o2⟩ := hu
        have hne : a2 ≠ a := by rintro rfl; exact hy (fi.muts y x _ _ _ e hx rfl rfl hbu hb)
        exact ⟨a2, dx, vs2, n2, hh, k, t, m, rfl, f1, le _ _ f2, RepL.mono _ le r2, ne _ o2.1 hne, o2.2⟩
  · intro y z sl1 sl2 v f1 f2 m1 m2 b1 b2
    unfold Rho.set at f1 f2
    split at f1
    · cases f1; cases m1
    · split at f2
      · cases f2; cases m2
      · exact fi.muts y z sl1 sl2 v f1 f2 m1 m2 b1 b2
  · intro y sl1 a1 e m b
    unfold Rho.set at e
    split at e
    · cases e; cases m
    · exact sj.own y sl1 a1 e m b
  · intro b o ob fs e f1 f2
    unfold FM.put at e
    split at e
    · rename_i q; subst q
      rw [e1] at f1; cases f1; cases f2
    · exact e

theorem freeze_cons (ρ : Rho) (x : Str) (xs : List Str) : ρ.freeze (x :: xs) = (match ρ x with | some (.lst ps) => ρ.set x (.imm (.list ps)) | _ => ρ).freeze xs := by
  funext y
  cases hx : ρ x with
  | none =>
    unfold Rho.freeze
    by_cases hy : y = x
    · subst hy
      simp [hx]
    · simp [hy]
  | some sl =>
    cases sl with
    | lst ps =>
      dsimp only
      unfold Rho.freeze Rho.set
      by_cases hy : y = x
      · subst hy
        simp [hx]
      · simp [hy]
    | imm p =>
      unfold Rho.freeze
      by_cases hy : y = x
      · subst hy
        simp [hx]
      · simp [hy]
    | acc hd ps =>
      unfold Rho.freeze
      by_cases hy : y = x
      · subst hy
        simp [hx]
      · simp [hy]

theorem SJ.freeze : ∀ (xs : List Str) {F : FM} {ρ : Rho}, SJ W F0 s0 F s env N ρ → ∃ F', SJ W F0 s0 F' s env N (ρ.freeze xs) ∧ Stp F s F' s
  | [], F, ρ, sj => by
    refine ⟨F, ?_, .refl⟩
    have : ρ.freeze [] = ρ := by funext y; simp [Rho.freeze]
    rw [this]; exact sj
  | x :: xs, F, ρ, sj => by
    rw [freeze_cons]
    split
    · rename_i ps hx
      obtain ⟨F1, sj1, st1⟩ := sj.freeze1 hx
      obtain ⟨F2, sj2, st2⟩ := SJ.freeze xs sj1
      exact ⟨F2, sj2, st1.trans st2⟩
    · exact SJ.freeze xs sj

/-- binding a name of the frame -/
theorem Stp.of_KL (fi : FI W s0.heap F s env N ρ) (k : KL env N s.heap s'.heap) : Stp F s F s' := by
  refine ⟨.refl _, fun _ _ _ _ e _ _ => e, fun b ob fs e e2 => k b ob ?_ ?_ e⟩
  · rintro rfl
    obtain ⟨m, o, es, ep, f1, f2, _⟩ := fi.ns
    rw [e] at f1; cases f1; rw [e2] at f2; cases f2
  · rintro x c hx hc rfl
    obtain ⟨v, o, f1, f2⟩ := fi.cells _ (mem_of_lookup hc)
    rw [e] at f1; cases f1; rw [e2] at f2; cases f2
end
end Nw

namespace Nw
set_option tactic.hygienic false

inductive NewIter (W : Wd) (F : FM) (s : Shared) (items : List PV) (v : Value) (s2 : Shared) : Prop
  | mk (I : Addr) (F' : FM) (e : v = .ref I) (g : Grow F s F' s2) (h0 : s.heap.get? I = none) (x : IterAt W.prog W.w W.qc F' s2.heap I items 0)
inductive NewAcc (W : Wd) (F : FM) (s : Shared) (hd : Int) (v : Value) (s' : Shared) : Prop
  | mk (F' : FM) (a dx : Addr) (hh : Int) (kk t : Tok) (m n : Nat) (g : Grow F s F' s') (e : v = .ref a) (h0 : s.heap.get? a = none) (hF : F' a = none) (e1 : s'.heap.get? a = some (accObj W.ac dx #[] n)) (e2 : F' dx = some (sizeDict hh kk t hd m))
noncomputable def MMOK (W : Wd) (k : Nat) (m : Str) (hd : Int) (items ps : List PV) (r : PV) (items' : List PV) : Prop := ∃ fv, Callee W fv ∧
    (∀ (A : Around) (F : FM) (s : Shared) (env : Env) (v : Value) (pl : Sem Bool) (Q : Value × List Value → Shared → Prop) (E : Value → Shared → Prop), Sits F s.heap → Keep W.hB s.heap → SlotOK W F s.heap env (.acc hd items) v → Q (fv, [v]) s → wpAny W.M A (getMethod v m pl) Q E s) ∧
    ∀ (A : Around) (F : FM) (s : Shared) (env : Env) (a : Addr) (vs : List Value), Amb A k → Sits F s.heap → Keep W.hB s.heap → SlotOK W F s.heap env (.acc hd items) (.ref a) → RepL W.qc F ps vs →
      wpAny W.M A (call fv (.ref a :: vs)) (fun rv s' => ∃ F', GrowBut a F s F' s' ∧ SlotOK W F' s'.heap env (.acc hd items') (.ref a) ∧ Rep W.qc F' r rv) NoE s
noncomputable def MakeOK (W : Wd) (k : Nat) (f : Str) (ps : List PV) (hd : Int) : Prop := ∃ fv, W.glob f fv ∧ Callee W fv ∧ ∀ (A : Around) (F : FM) (s : Shared) (vs : List Value), Amb A k → Sits F s.heap → Keep W.hB s.heap → RepL W.qc F ps vs →
    wpAny W.M A (call fv vs) (fun v s' => NewAcc W F s hd v s') NoE s
noncomputable def ItcOK (W : Wd) (k : Nat) (f : Str) (ps items : List PV) : Prop := ∃ fv, W.glob f fv ∧ Callee W fv ∧ ∀ (A : Around) (F : FM) (s : Shared) (vs : List Value), Amb A k → Sits F s.heap → Keep W.hB s.heap → RepL W.qc F ps vs →
    wpAny W.M A (call fv vs) (fun r s1 => wpAny W.M A (pyIter r) (fun v s2 => NewIter W F s items v s2) NoE s1) NoE s
noncomputable def Itc2OK (W : Wd) (k : Nat) (f g : Str) (ps items : List PV) : Prop := ∃ fv gv, W.glob f fv ∧ W.glob g gv ∧ Callee W fv ∧ Callee W gv ∧ ∀ (A : Around) (F : FM) (s : Shared) (vs : List Value), Amb A k → Sits F s.heap → Keep W.hB s.heap → RepL W.qc F ps vs →
    wpAny W.M A (call gv vs) (fun r0 s0 => Keep W.hB s0.heap ∧ wpAny W.M A (call fv [r0]) (fun r s1 => wpAny W.M A (pyIter r) (fun v s2 => NewIter W F s items v s2) NoE s1) NoE s0) NoE s
inductive JP (W : Wd) (F0 : FM) (s0 : Shared) (env : Env) (N : Names) (ρ : Rho) (F : FM) (s : Shared) (P : FM → Prop) (s' : Shared) : Prop
  | mk (F' : FM) (sj : SJ W F0 s0 F' s' env N ρ) (st : Stp F s F' s') (r : P F')
inductive JQ (W : Wd) (F0 : FM) (s0 : Shared) (env : Env) (N : Names) (ρ : Rho) (F : FM) (s : Shared) (s' : Shared) : Prop
  | mk (F' : FM) (sj : SJ W F0 s0 F' s' env N ρ) (st : Stp F s F' s')
inductive NewSlot (W : Wd) (F : FM) (s : Shared) (env : Env) (sl : Slot) (v : Value) (s' : Shared) : Prop
  | mk (F' : FM) (a : Addr) (g : Grow F s F' s') (hs : SlotOK W F' s'.heap env sl v) (hm : sl.isMut = true) (e : v = .ref a) (h0 : s.heap.get? a = none)
/-- what a body asks others beyond its expressions -/
structure CfgS where
  base : Cfg
  make : Str → List PV → Option Int
  mm : Str → Int → List PV → List PV → Option (PV × List PV)
  itc : Str → List PV → Option (List PV)
  itc2 : Str → Str → List PV → Option (List PV)
  fz : Nat → List Str

structure CfgSOK (W : Wd) (C : CfgS) (k : Nat) : Prop where
  base : CfgOK W C.base k
  make : ∀ f ps hd, C.make f ps = some hd → MakeOK W k f ps hd
  mm : ∀ m hd items ps r items', C.mm m hd items ps = some (r, items') → MMOK W k m hd items ps r items'
  itc : ∀ f ps items, C.itc f ps = some items → ItcOK W k f ps items
  itc2 : ∀ f g ps items, C.itc2 f g ps = some items → Itc2OK W k f g ps items

noncomputable def nilE : Expr → Bool
  | .List [] _ => true
  | _ => false
noncomputable def notStar : Expr → Bool
  | .Starred .. => false
  | _ => true
noncomputable def namesOf : List Expr → Option (List (Str × Nat))
  | [] => some []
  | e :: es => (nameOf e).bind fun x => (namesOf es).map fun r => (x.1, x.2.line) :: r
theorem namesOf_inv {e : Expr} {es : List Expr} {xs : List (Str × Nat)} {P : Prop} (h : namesOf (e :: es) = some xs) (k : ∀ x pos ys, e = .Name x pos → namesOf es = some ys → xs = (x, pos.line) :: ys → P) : P := by
  obtain ⟨x, hx, h⟩ := Option.bind_eq_some_iff.mp h
  obtain ⟨ys, hy, h⟩ := Option.map_eq_some_iff.mp h
  exact k x.1 x.2 ys (nameOf_spec hx) hy h.symm
noncomputable def swapOk (N : Names) (ts vs : List Expr) : Bool :=
  match namesOf ts with
  | none => false
  | some xs => (ts.length == 2 || ts.length == 3) && vs.length == ts.length && vs.all notStar && xs.all (fun x => N.lookup x.1 == some .local && x.2 == (xs.head?.map (·.2)).getD 0) && (xs.map (·.1)).eraseDups.length == xs.length && !vs.all (foldedForSure 8) && !vs.all (constantsAlone 8)
section
variable {W : Wd} {A : Around} {E : Value → Shared → Prop} {F0 F F' : FM} {s0 s s' : Shared} {env : Env} {N : Names} {ρ : Rho}

theorem sj_store5 {x : Str} {sl : Slot} {v : Value} {Q : Unit → Shared → Prop} (sj : SJ W F0 s0 F s env N ρ) (hn : isLC N x = true) (hsl : SlotOK W F s.heap env sl v)
    (hmu : sl.isMut = true → (∀ y sl', ρ y = some sl' → sl'.isMut = true → Bound s.heap env y v → y = x) ∧ ∀ a, v = .ref a → s0.heap.get? a = none)
    (h : ∀ s', SJ W F0 s0 F s' env N (ρ.set x sl) → Stp F s F s' → KL env N s.heap s'.heap → Bound s'.heap env x v → (∀ y u, y ≠ x → Bound s.heap env y u → Bound s'.heap env y u) → Q () s') : wpAny W.M A (storeName env x v) Q E s := by
  refine store_ok3 sj.si (isLC_spec hn) hsl (fun m => (hmu m).1) fun s' si kl bx by' => h s' ⟨si, fun y sl1 a e m b => ?_⟩ (Stp.of_KL sj.si.fi kl) kl bx by'
  unfold Rho.set at e
  split at e
  · rename_i hy; cases e; subst hy
    exact (hmu m).2 a (bx.unique b)
  · rename_i hy
    obtain ⟨u, _, hu⟩ := sj.si.fi.slots y sl1 e
    have := (by' y u hy hu).unique b
    subst this
    exact sj.own y sl1 a e m hu

theorem sj_store {x : Str} {sl : Slot} {v : Value} {Q : Unit → Shared → Prop} (sj : SJ W F0 s0 F s env N ρ) (hn : isLC N x = true) (hsl : SlotOK W F s.heap env sl v)
    (hmu : sl.isMut = true → (∀ y sl', ρ y = some sl' → sl'.isMut = true → Bound s.heap env y v → y = x) ∧ ∀ a, v = .ref a → s0.heap.get? a = none)
    (h : ∀ s', SJ W F0 s0 F s' env N (ρ.set x sl) → Stp F s F s' → KL env N s.heap s'.heap → Q () s') : wpAny W.M A (storeName env x v) Q E s :=
  sj_store5 sj hn hsl hmu fun s' a b c _ _ => h s' a b c

theorem imm_mu {p : PV} {P : Prop} : (Slot.imm p).isMut = true → P := fun h => by cases h

theorem wpAny_bindName {x : Str} {v : Value} {Q : Unit → Shared → Prop} (h : wpAny W.M A (storeName env x v) Q E s) : wpAny W.M A (bindName env x v) Q E s := by
  unfold bindName
  exact wpAny_bind (wpAny_holding (wpAny_point (wpAny_bind (wpAny_mono h (fun _ _ q => wpAny_point q) fun _ _ e => e))))

theorem bindNamesJ {fresh : Bool} : ∀ (es : List Expr) (ps : List PV) (vs : List Value) (ρ ρ1 : Rho) (F : FM) (s : Shared), bindNames fresh N es ps ρ = some ρ1 → RepL W.qc F ps vs → SJ W F0 s0 F s env N ρ →
    wpAny W.M A (assignInOrder ((assignEach es env).map (·.2)) vs) (fun _ s' => SJ W F0 s0 F s' env N ρ1 ∧ Stp F s F s') NoE s
  | [], ps, vs, ρ, ρ1, F, s, h, r, sj => by
    obtain ⟨rfl, rfl⟩ := bindNames_nil h
    cases r
    exact wpAny_pure ⟨sj, .refl⟩
  | e :: es, ps, vs, ρ, ρ1, F, s, h, r, sj => by
    refine bindNames_inv h fun x pos p qs e1 e2 hc hz => ?_
    subst e1 e2
    obtain ⟨v, ws, rfl, r1, r2⟩ := r
    refine wpAny_assignInOrder_more (wpAny_assign_Name (sj_store sj hc.1 (sl := .imm p) r1 imm_mu fun s' sj' st _ => ?_))
    exact wpAny_mono (bindNamesJ es qs ws _ ρ1 F s' hz r2 sj') (fun _ s2 h2 => ⟨h2.1, st.trans h2.2⟩) fun _ _ f => f

theorem bindNamesJ_store {fresh : Bool} : ∀ (es : List Expr) (xs : List (Str × Nat)) (ps : List PV) (vs : List Value) (ρ ρ1 : Rho) (F : FM) (s : Shared), namesOf es = some xs → bindNames fresh N es ps ρ = some ρ1 → RepL W.qc F ps vs → SJ W F0 s0 F s env N ρ →
    wpAny W.M A (assignInOrder (xs.map fun x => bindName env x.1) vs) (fun _ s' => SJ W F0 s0 F s' env N ρ1 ∧ Stp F s F s') NoE s
  | [], xs, ps, vs, ρ, ρ1, F, s, hx, h, r, sj => by
    obtain ⟨rfl, rfl⟩ := bindNames_nil h
    cases r; cases hx
    exact wpAny_pure ⟨sj, .refl⟩
  | e :: es, xs, ps, vs, ρ, ρ1, F, s, hx, h, r, sj => by
    refine bindNames_inv h fun x pos p qs e1 e2 hc hz => ?_
    subst e1 e2
    refine namesOf_inv hx fun x' pos' ys e1 hy e2 => ?_
    cases e1
    subst e2
    obtain ⟨v, ws, rfl, r1, r2⟩ := r
    refine wpAny_assignInOrder_more (wpAny_bindName (sj_store sj hc.1 (sl := .imm p) r1 imm_mu fun s' sj' st _ => ?_))
    exact wpAny_mono (bindNamesJ_store es ys qs ws _ ρ1 F s' hy hz r2 sj') (fun _ s2 h2 => ⟨h2.1, st.trans h2.2⟩) fun _ _ f => f

theorem bindTJ {fresh : Bool} {t : Expr} {p : PV} {v : Value} {ρ1 : Rho} (hA : A.handled = none) (h : bindT fresh N t p ρ = some ρ1) (r : Rep W.qc F p v) (sj : SJ W F0 s0 F s env N ρ) :
    wpAny W.M A (assign t env v) (fun _ s' => JQ W F0 s0 env N ρ1 F s s') NoE s := by
  refine bindT_inv h (fun x pos e h => ?_) fun es k tp ps e hp hb => ?_
  · subst e
    refine bindNames_inv h fun x' pos' p' qs e1 e2 hc hz => ?_
    cases e1; cases e2
    rw [(bindNames_nil hz).2]
    exact wpAny_assign_Name (sj_store sj hc.1 (sl := .imm _) r imm_mu fun s' sj' st _ => ⟨F, sj', st⟩)
  · subst e
    obtain ⟨e1, e2⟩ := assignEach_plain (env := env) es ps _ ρ1 fresh hb
    show wpAny W.M A (standAt _ >>= fun _ => unpack v (assignEach _ env)) _ _ _
    refine wpAny_bind (wpAny_standAt ?_)
    unfold unpack
    rw [e2]
    refine wpAny_bind (wpAny_holding ((unpackItems_sound hA hp e1 sj.si.fi.sits r).use fun vs F' s1 g rs => ?_))
    exact wpAny_mono (bindNamesJ es ps vs _ ρ1 F' s1 hb rs (sj.step g)) (fun _ s' z => ⟨F', z.1, (Stp.of_grow g).trans z.2⟩) fun _ _ f => f
end
end Nw

namespace Nw
set_option tactic.hygienic false

/-- a world that answers so -/
structure CtxS (C : CfgS) where
  W : Wd
  A : Around
  k : Nat
  ok : WdOK W
  cok : CfgSOK W C k
  hA : Amb A k
noncomputable abbrev CtxS.b {C : CfgS} (X : CtxS C) : Ctx C.base := ⟨X.W, X.A, X.k, X.ok, X.cok.base, X.hA⟩

noncomputable def EvJ (W : Wd) (A : Around) (F0 : FM) (s0 : Shared) (env : Env) (N : Names) (F : FM) (s : Shared) (t : Sem Value) (p : PV) (ρ' : Rho) : Prop :=
  wpAny W.M A t (fun v s' => JP W F0 s0 env N ρ' F s (fun F' => Rep W.qc F' p v) s') NoE s
/-- an expression that may take from a pile -/
structure evm (C : CfgS) (N : Names) (n : Nat) (ρ : Rho) (e : Expr) (r : PV × Rho) : Prop where
  plain : plainE e = true
  run : ∀ (X : CtxS C) F0 s0 env F s, SJ X.W F0 s0 F s env N ρ → EvJ X.W X.A F0 s0 env N F s (eval e env) r.1 r.2
/-- as a test -/
structure evt (C : CfgS) (N : Names) (n : Nat) (ρ : Rho) (e : Expr) (r : Bool × Rho) : Prop where
  run : ∀ (X : CtxS C) F0 s0 env F s, SJ X.W F0 s0 F s env N ρ → wpAny X.W.M X.A (isTrue e env (eval e env)) (fun c s' => c = r.1 ∧ JQ X.W F0 s0 env N r.2 F s s') NoE s
/-- a new list or pile -/
structure evf (C : CfgS) (N : Names) (n : Nat) (ρ : Rho) (e : Expr) (sl : Slot) : Prop where
  run : ∀ (X : CtxS C) F0 s0 env F s, SJ X.W F0 s0 F s env N ρ → wpAny X.W.M X.A (eval e env) (NewSlot X.W F s env sl) NoE s
/-- an iterator -/
structure evi (C : CfgS) (N : Names) (n : Nat) (ρ : Rho) (e : Expr) (its : List PV) : Prop where
  run : ∀ (X : CtxS C) F0 s0 env F s, SJ X.W F0 s0 F s env N ρ → wpAny X.W.M X.A (eval e env) (fun r s1 => wpAny X.W.M X.A (pyIter r) (NewIter X.W F s its) NoE s1) NoE s

section
variable {C : CfgS} {n : Nat} {N : Names} {ρ ρ1 ρ2 : Rho}

theorem evJ_of {X : CtxS C} {F0 : FM} {s0 : Shared} {env : Env} {e : Expr} {p : PV} (h : ev C.base n N ρ e p) {F : FM} {s : Shared} (sj : SJ X.W F0 s0 F s env N ρ) : EvJ X.W X.A F0 s0 env N F s (eval e env) p ρ :=
  (h.val X.b F s sj.si.fi).use fun _ F' _ g r => ⟨F', sj.step g, Stp.of_grow g, r⟩
theorem m_pure {e : Expr} {p : PV} (h : ev C.base n N ρ e p) (_ : (0 : Nat) = 0) : evm C N n ρ e (p, ρ) := ⟨h.1, fun _ _ _ _ _ _ sj => evJ_of h sj⟩
theorem t_pure {e : Expr} {b : Bool} (h : ev C.base n N ρ e (.bool b)) : evt C N n ρ e (b, ρ) := ⟨fun X _ _ _ F s sj =>
  wpAny_mono (h.tru rfl X.b F s sj.si.fi) (fun _ _ ⟨e, F1, g1⟩ => ⟨e, F1, sj.step g1, Stp.of_grow g1⟩) fun _ _ f => f⟩
theorem t_int {e : Expr} {i : Int} {b : Bool} (h : ev C.base n N ρ e (.int i)) (hb : (i != 0) = b) : evt C N n ρ e (b, ρ) := ⟨fun X _ _ _ F s sj =>
  wpAny_mono (h.tru (b := b) (congrArg some hb) X.b F s sj.si.fi) (fun _ _ ⟨e, F1, g1⟩ => ⟨e, F1, sj.step g1, Stp.of_grow g1⟩) fun _ _ f => f⟩

theorem off_fresh {F F' : FM} {s0 s s' : Shared} {env : Env} {W : Wd} {a : Addr} (fi : FI W s0.heap F s env N ρ) (hn : s.heap.get? a = none) (hF : F' a = none) : Off F' env a := by
  refine ⟨hF, ?_, ?_⟩
  · rintro rfl
    obtain ⟨m, o, es, ep, e, _⟩ := fi.ns
    rw [hn] at e; cases e
  · rintro p hp rfl
    obtain ⟨v, o, e, _⟩ := fi.cells p hp
    rw [hn] at e; cases e

theorem f_list {es : List Expr} {pos : Pos} {ps : List PV} (h : evs (ev C.base n N ρ) es ps) (hs : ps.length ≤ sizeLine) : evf C N n ρ (.List es pos) (.lst ps) := ⟨fun X F0 s0 env F s sj => by
  rw [arm_eval_List]
  refine wpAny_bind (wpAny_standAt (wpAny_bind ((evs_sound (X := X.b) (pos := pos) h F s sj.si.fi).use fun vs F1 s1 g1 r1 => wpAny_newObj_type ?_ (by have := r1.length; show vs.toArray.size ≤ sizeLine; simpa [this] using hs))))
  have hF1 : F1 s1.heap.objs.size = none := by
    cases q : F1 s1.heap.objs.size with
    | none => rfl
    | some o => exact absurd ((push_new _).symm.trans (g1.sits _ _ q)) nofun
  have hn1 := none_keep g1.keep (push_new s1.heap)
  exact ⟨F1, s1.heap.objs.size, g1.trans (Grow.heap (tk := s1.toks) g1.sits (Keep.push _ _)), ⟨_, vs.toArray, 0, rfl, Heap.get?_push_size _ rfl, by simpa using r1, off_fresh (s' := s1) sj.si.fi hn1 hF1⟩, rfl, rfl, hn1⟩⟩
theorem evf_acc {f : Str} {pn pos : Pos} {as : List Expr} {ps : List PV} {hd : Int} (hf : (okName f && N.lookup f == some .globalImplicit && (ρ f).isNone) = true) (h1 : evs (ev C.base n N ρ) as ps) (h2 : C.make f ps = some hd) : evf C N n ρ (.Call (.Name f pn) as [] pos) (.acc hd []) := ⟨fun X F0 s0 env F s sj => by
  obtain ⟨fv, hv, hc, hcall⟩ := X.cok.make _ _ _ h2
  have fi := sj.si.fi
  refine wpAny_Call_Name_kw (name_glob X.ok fi (gname hf).2 (gname hf).1 hv (callWith_of (evs_flat h1).1 hc ((evs_sound (X := X.b) (pos := pos) h1 F s fi).use fun vs F' s' g rs => ⟨fi.base.trans g.keep, ?_⟩)))
  refine wpAny_mono (hcall X.A F' s' vs X.hA g.sits (fi.base.trans g.keep) rs) (fun v s2 ⟨F2, a, dx, hh, kk, t, m, nn, g2, ev, hn2, hF2, e, ed⟩ => ?_) fun _ _ f => f
  have hn1 := none_keep g.keep hn2
  exact ⟨F2, a, g.trans g2, ⟨a, dx, #[], nn, hh, kk, t, m, ev, e, ed, rfl, off_fresh (s' := s2) fi hn1 hF2⟩, rfl, ev, hn1⟩⟩

theorem m_acc {x m : Str} {px apos pos : Pos} {as : List Expr} {hd : Int} {items items' ps : List PV} {r : PV} (hx : ρ x = some (.acc hd items)) (ho : (okName x && decide (as.length < 30)) = true) (hl : (apos.endLine == pos.line) = true) (h1 : evs (ev C.base n N ρ) as ps) (h2 : C.mm m hd items ps = some (r, items')) :
    evm C N n ρ (.Call (.Attribute (.Name x px) m apos) as [] pos) (r, ρ.set x (.acc hd items')) := ⟨rfl, fun X F0 s0 env F s sj => by
  rw [Bool.and_eq_true] at ho
  have fi := sj.si.fi
  obtain ⟨fv, hcl, hget, hcall⟩ := X.cok.mm _ _ _ _ _ _ h2
  obtain ⟨v, hv, hb⟩ := fi.slots x _ hx
  have e2 := (evs_flat (env := env) (pos := pos) h1).1
  refine meth_call hl (of_decide_eq_true ho.2) rfl e2 (name_bound fi.kind hb ho.1 (hget X.A F s env v _ _ _ fi.sits fi.base hv (callWith_of e2 hcl ((evs_sound (X := X.b) (pos := pos) h1 F s fi).use fun vs F' s' g rs => ⟨fi.base.trans g.keep, ?_⟩))))
  have hv' := hv.grow g
  obtain ⟨a, dx, ws, nn, hh, kk, t, mm, e, _⟩ := id hv
  subst e
  refine wpAny_mono (hcall X.A F' s' env a vs X.hA g.sits (fi.base.trans g.keep) hv' rs) (fun rv s2 ⟨F2, gb, ho, rr⟩ => ?_) fun _ _ f => f
  obtain ⟨sj2, st2⟩ := (sj.step g).mut hx rfl (hb.keep g.keep) hv' gb ho
  exact ⟨F2, sj2, (Stp.of_grow g).trans st2, rr⟩⟩

/-! shown lists with takings -/
noncomputable def evms (C : CfgS) (N : Names) (n : Nat) : List Expr → Rho → List PV × Rho → Prop
  | [], ρ, r => r = ([], ρ)
  | e :: es, ρ, r => ∃ p ρ1 qs, evm C N n ρ e (p, ρ1) ∧ evms C N n es ρ1 (qs, r.2) ∧ r.1 = p :: qs
theorem ms_nil : evms C N n [] ρ ([], ρ) := rfl
theorem ms_cons {e : Expr} {es : List Expr} {p : PV} {qs : List PV} (h1 : evm C N n ρ e (p, ρ1)) (h2 : evms C N n es ρ1 (qs, ρ2)) : evms C N n (e :: es) ρ (p :: qs, ρ2) := ⟨p, ρ1, qs, h1, h2, rfl⟩
theorem starEach_plain {e : Expr} (h : plainE e = true) (rest : List Expr) (env : Env) : starEach (e :: rest) env = (false, eval e env) :: starEach rest env := by
  cases e <;> first | rfl | cases h
theorem evms_sound {X : CtxS C} {F0 : FM} {s0 : Shared} {env : Env} {pos : Pos} : ∀ {es : List Expr} {ρ ρ' : Rho} {ps : List PV}, evms C N n es ρ (ps, ρ') → ∀ (F : FM) (s : Shared), SJ X.W F0 s0 F s env N ρ →
    wpAny X.W.M X.A (spliced (backTo pos (starEach es env))) (fun vs s' => JP X.W F0 s0 env N ρ' F s (fun F' => RepL X.W.qc F' ps vs) s') NoE s
  | [], ρ, ρ', ps, h, F, s, sj => by cases h; exact wpAny_items_nil ⟨F, sj, .refl, rfl⟩
  | e :: es, ρ, ρ', ps, ⟨p, ρ1, qs, h1, h2, e0⟩, F, s, sj => by
    cases e0
    exact wpAny_items_cons (wpAny_mono (h1.2 X F0 s0 env F s sj) (fun v s1 ⟨F1, sj1, st1, r1⟩ => wpAny_mono (evms_sound (pos := pos) h2 F1 s1 sj1) (fun vs s2 ⟨F2, sj2, st2, r2⟩ => ⟨F2, sj2, st1.trans st2, v, vs, rfl, r1.mono _ st2.le, r2⟩) fun _ _ f => f.elim) fun _ _ f => f.elim) (starEach_plain h1.1 es env)
theorem mm_list {es : List Expr} {pos : Pos} {ps : List PV} (h : evms C N n es ρ (ps, ρ1)) (hs : ps.length ≤ sizeLine) : evm C N n ρ (.List es pos) (.list ps, ρ1) := ⟨rfl, fun X F0 s0 env F s sj => by
  unfold EvJ
  rw [arm_eval_List]
  exact wpAny_bind (wpAny_standAt (wpAny_bind (wpAny_mono (evms_sound (pos := pos) h F s sj) (fun vs s1 ⟨F1, sj1, st1, r1⟩ => (ev_newList r1 sj1.si.fi.sits hs).use fun v F2 s2 g2 r2 => ⟨F2, sj1.step g2, st1.trans (Stp.of_grow g2), r2⟩) fun _ _ f => f)))⟩
theorem m_tup {es : List Expr} {k : Nat} {pos : Pos} {ps : List PV} (h : evs (ev C.base n N ρ) es ps) {b : Bool} (_ : b = true) (hs : ps.length ≤ sizeLine) : evm C N n ρ (.Tuple es k pos) (.tup ps, ρ) := have x := m_pure (e_tup (k := k) (pos := pos) h hs) rfl; ⟨x.1, x.2⟩
/-- a comparison whose left side takes -/
theorem t_mm {l r : Expr} {op : CmpOp} {pos : Pos} {a b : PV} {q : Bool} (hs : notSetE r = true) (h1 : evm C N n ρ l (a, ρ1)) (h2 : ev C.base n N ρ1 r b) (h3 : C.base.cmp op a b = some q) : evt C N n ρ (.Compare l [op] [r] pos) (q, ρ1) := ⟨fun X F0 s0 env F s sj => by
  rw [arm_isTrue_Compare, marked1 hs]
  refine wpAny_bind (wpAny_mono (h1.2 X F0 s0 env F s sj) (fun v s1 ⟨F1, sj1, st1, r1⟩ => wpAny_bind (wpAny_holding ((h2.val X.b F1 s1 sj1.si.fi).use fun _ F2 s2 g2 r2 => wpAny_bind (wpAny_standAt (wpAny_bind (wpAny_operating ((cmp_sound (X := X.b) h3 g2.sits (sj1.si.fi.base.trans g2.keep) (r1.mono _ g2.le) r2).use fun _ F3 _ g3 r3 => ?_))))))) fun _ _ f => f)
  cases r3
  exact wpAny_holding (wpAny_truthy_bool ⟨rfl, F3, (sj1.step g2).step g3, st1.trans ((Stp.of_grow g2).trans (Stp.of_grow g3))⟩)⟩

/-! iterators -/
theorem i_pure {e : Expr} {x : PV} {its : List PV} (h1 : ev C.base n N ρ e x) (h2 : itemsPV x = some its) : evi C N n ρ e its := ⟨fun X F0 s0 env F s sj =>
  (h1.val X.b F s sj.si.fi).use fun _ _ _ g r => wpAny_mono (iter_sound (A := X.A) (prog := X.W.prog) (w := X.W.w) h2 g.sits r) (fun _ _ ⟨I, F', e, g', hI, x⟩ => ⟨I, F', e, g.trans g', none_keep g.keep hI, x⟩) fun _ _ f => f.elim⟩
theorem i_call {f : Str} {a : Expr} {pn pos : Pos} {p : PV} {its : List PV} (hf : (okName f && N.lookup f == some .globalImplicit && (ρ f).isNone) = true) (h1 : ev C.base n N ρ a p) (h2 : C.itc f [p] = some its) : evi C N n ρ (.Call (.Name f pn) [a] [] pos) its := ⟨fun X F0 s0 env F s sj => by
  have fi := sj.si.fi
  obtain ⟨fv, hv, hc, hcall⟩ := X.cok.itc _ _ _ h2
  have hs : evs (ev C.base n N ρ) [a] [p] := evs_cons h1 evs_nil
  refine wpAny_Call_Name_kw (name_glob X.ok fi (gname hf).2 (gname hf).1 hv (callWith_of (evs_flat hs).1 hc ((evs_sound (X := X.b) (pos := pos) hs F s fi).use fun vs F' s' g rs => ⟨fi.base.trans g.keep, ?_⟩)))
  exact wpAny_mono (hcall X.A F' s' vs X.hA g.sits (fi.base.trans g.keep) rs) (fun rv s1 h1 => wpAny_mono h1 (fun v s2 ⟨I, F2, e, g2, hI, x2⟩ => ⟨I, F2, e, g.trans g2, none_keep g.keep hI, x2⟩) fun _ _ f => f) fun _ _ f => f⟩
end
end Nw

namespace Nw
set_option tactic.hygienic false

section
variable {W : Wd} {A : Around} {F0 : FM} {s0 : Shared} {env : Env} {N : Names}
theorem SJ.other {F F' : FM} {s s' : Shared} {ρ : Rho} {t : Addr} (sj : SJ W F0 s0 F s env N ρ) (g : GrowBut t F s F' s') (h0 : s0.heap.get? t = none) (hl : t ≠ env.locals) (hc : ∀ p ∈ env.cells, p.2 ≠ t)
    (ht : ∀ o vs n, s.heap.get? t = some o → o.data ≠ .seq vs n) : SJ W F0 s0 F' s' env N ρ := by
  have fi := sj.si.fi
  have hB : W.hB.get? t = none := by
    cases q : W.hB.get? t with
    | none => rfl
    | some ob => have := sj.si.low _ _ q; rw [h0] at this; cases this
  have bk : ∀ y v, Bound s.heap env y v → Bound s'.heap env y v := by
    rintro y v (⟨k, m, q, q'⟩ | ⟨k, c, l, oc, q, q'⟩)
    · refine .inl ⟨k, m, ?_, q'⟩
      obtain ⟨ob, es, ep, f1, f2, f3, f4⟩ := q
      exact ⟨ob, es, ep, g.keep _ _ (Ne.symm hl) f1, f2, f3, f4⟩
    · exact .inr ⟨k, c, l, oc, g.keep _ _ (hc _ (mem_of_lookup l)) q, q'⟩
  have back : ∀ y v sl1, ρ y = some sl1 → Bound s'.heap env y v → Bound s.heap env y v := fun y v sl1 e b => by
    obtain ⟨u, _, hu⟩ := fi.slots y sl1 e
    have := (bk y u hu).unique b
    subst this
    exact hu
  have gr : Grow F0 s0 F' s' := by
    refine ⟨sj.si.grow.le.trans g.le, g.sits, fun b ob e => g.keep b ob ?_ (sj.si.grow.keep b ob e), fun b ob e => ?_, g.os.trans sj.si.grow.os, g.gens ∘ sj.si.grow.gens⟩
    · rintro rfl; rw [h0] at e; cases e
    · rcases g.fresh b ob e with h | h
      · exact sj.si.grow.fresh b ob h
      · refine .inr ?_
        cases q : s0.heap.get? b with
        | none => rfl
        | some oc => rw [sj.si.grow.keep _ _ q] at h; cases h
  refine ⟨⟨{ sits := g.sits, base := fun b ob e => g.keep b ob (by rintro rfl; rw [hB] at e; cases e) (fi.base b ob e), kind := fi.kind, globals := fi.globals, blt := fi.blt, ns := ?_, cells := ?_, apart := fi.apart, nl := fi.nl, privL := ?_, privF := ?_, privC := fi.privC, kindL := fi.kindL, kindC := fi.kindC, kindF := fi.kindF, kindG := fi.kindG, slots := ?_, muts := ?_ }, gr, sj.si.low⟩, ?_⟩
  · obtain ⟨m, ob, es, ep, f1, f2, f3, f4⟩ := fi.ns
    exact ⟨m, ob, es, ep, g.keep _ _ (Ne.symm hl) f1, f2, f3, f4⟩
  · intro p hp
    obtain ⟨v, ob, f1, f2⟩ := fi.cells p hp
    exact ⟨v, ob, g.keep _ _ (hc p hp) f1, f2⟩
  · obtain ⟨m, ob, es, ep, f1, f2⟩ := fi.ns
    exact ⟨none_growBut fi.privL.1 g f1, fi.privL.2⟩
  · intro p hp
    obtain ⟨v, ob, f1, f2⟩ := fi.cells p hp
    exact none_growBut (fi.privF p hp) g f1
  · intro y sl1 e
    obtain ⟨v, hs, hv⟩ := fi.slots y sl1 e
    refine ⟨v, ?_, bk y v hv⟩
    cases sl1 with
    | imm p => exact Rep.mono _ g.le hs
    | lst ps =>
      obtain ⟨a2, vs2, n2, f0, f1, r, o2⟩ := hs
      have hne : a2 ≠ t := by rintro rfl; exact ht _ _ _ f1 rfl
      exact ⟨a2, vs2, n2, f0, g.keep _ _ hne f1, RepL.mono _ g.le r, none_growBut o2.1 g f1, o2.2⟩
    | acc hd ps =>
      obtain ⟨a2, dx, vs2, n2, hh, k, tt, m, f0, f1, f2, r, o2⟩ := hs
      have hne : a2 ≠ t := by rintro rfl; exact ht _ _ _ f1 rfl
      exact ⟨a2, dx, vs2, n2, hh, k, tt, m, f0, g.keep _ _ hne f1, g.le _ _ f2, RepL.mono _ g.le r, none_growBut o2.1 g f1, o2.2⟩
  · intro y z sl1 sl2 v f1 f2 m1 m2 b1 b2
    exact fi.muts y z sl1 sl2 v f1 f2 m1 m2 (back y _ sl1 f1 b1) (back z _ sl2 f2 b2)
  · intro y sl1 a1 e m b
    exact sj.own y sl1 a1 e m (back y _ sl1 e b)


noncomputable def FlowOK (W : Wd) (F : FM) : FlowP → Flow → Prop
  | .next, f => f = .next
  | .brk, f => f = .brk
  | .ret p, f => ∃ v, f = .ret v ∧ Rep W.qc F p v
noncomputable def StOK (W : Wd) (A : Around) (F0 : FM) (s0 : Shared) (env : Env) (N : Names) (F : FM) (s : Shared) (t : Sem Flow) (r : Rho × FlowP) : Prop :=
  wpAny W.M A t (fun fv s' => JP W F0 s0 env N r.1 F s (fun F' => FlowOK W F' r.2 fv) s') NoE s
theorem StOK.after {F F1 : FM} {s s1 : Shared} {t : Sem Flow} {r : Rho × FlowP} (st : Stp F s F1 s1) (h : StOK W A F0 s0 env N F1 s1 t r) :
    wpAny W.M A t (fun fv s' => JP W F0 s0 env N r.1 F s (fun F' => FlowOK W F' r.2 fv) s') NoE s1 :=
  wpAny_mono h (fun _ _ ⟨F', a, b, c⟩ => ⟨F', a, st.trans b, c⟩) fun _ _ f => f

theorem SJ.iter {F : FM} {s : Shared} {ρ : Rho} {I : Addr} {h' : Heap} {tk : Nat} (sj : SJ W F0 s0 F s env N ρ) (hn : F I = none) (h0 : s0.heap.get? I = none)
    (hI : ∃ o fs, s.heap.get? I = some o ∧ o.data = .fields fs) (kk : Heap.ExtBut I s.heap h') : SJ W F0 s0 F { s with heap := h', toks := tk } env N ρ := by
  obtain ⟨oI, fs, eI, dI⟩ := hI
  have g : GrowBut I F s F { s with heap := h', toks := tk } := ⟨.refl _, fun a o e => kk a o (by rintro rfl; rw [hn] at e; cases e) (sj.si.fi.sits a o e), fun b o hb e => kk b o hb e, fun _ _ e => .inl e, rfl, id⟩
  refine sj.other g h0 ?_ ?_ ?_
  · rintro rfl
    obtain ⟨m, o, es, ep, e1, e2, _⟩ := sj.si.fi.ns
    rw [eI] at e1; cases e1; rw [dI] at e2; cases e2
  · rintro p hp rfl
    obtain ⟨v, o, e1, e2⟩ := sj.si.fi.cells p hp
    rw [eI] at e1; cases e1; rw [dI] at e2; cases e2
  · intro o vs n e e'
    rw [eI] at e; cases e; rw [dI] at e'; cases e'

theorem Stp.iter {F F' : FM} {s s' : Shared} {I : Addr} {h' : Heap} {tk : Nat} (x : Stp F s F' s') (hI : s.heap.get? I = none) (kk : Heap.ExtBut I s'.heap h') : Stp F s F' { s' with heap := h', toks := tk } :=
  ⟨x.le, x.fresh, fun b ob fs e e2 => kk b ob (by rintro rfl; rw [hI] at e; cases e) (x.kf b ob fs e e2)⟩

theorem IterAt.stp {F F' : FM} {s s' : Shared} {I : Addr} {all : List PV} {i : Nat} (x : IterAt W.prog W.w W.qc F s.heap I all i) (st : Stp F s F' s') (h1 : Sits F s.heap) (h2 : Sits F' s'.heap) : IterAt W.prog W.w W.qc F' s'.heap I all i := by
  obtain ⟨o, fs, e, d⟩ := x.fields
  obtain ⟨_, _, _, _, _, hn⟩ := id x
  refine x.frame st.le h1 h2 (fun o' e' => ?_) ?_
  · rw [e] at e'; cases e'
    exact st.kf _ _ _ e d
  · cases q : F' I with
    | none => rfl
    | some o' => rw [st.fresh _ _ _ _ q e d] at hn; cases hn

end

/-- a statement's effect, wherever the config's answers hold -/
structure exec (C : CfgS) (N : Names) (n : Nat) (ρ : Rho) (st : Stmt) (r : Rho × FlowP) : Prop where
  run : ∀ (X : CtxS C) F0 s0 env F s, SJ X.W F0 s0 F s env N ρ → StOK X.W X.A F0 s0 env N F s (PySem.exec st env) r
noncomputable abbrev exec1 (C : CfgS) (N : Names) (n : Nat) (_ : Rho → Stmt → Rho × FlowP → Prop) (ρ : Rho) (st : Stmt) (r : Rho × FlowP) : Prop := exec C N n ρ st r
noncomputable def execs (f : Rho → Stmt → Rho × FlowP → Prop) : List Stmt → Rho → Rho × FlowP → Prop
  | [], ρ, r => r = (ρ, .next)
  | st :: sts, ρ, r => ∃ ρ1 fl, f ρ st (ρ1, fl) ∧ match fl with
    | .next => execs f sts ρ1 r
    | fl => r = (ρ1, fl)
noncomputable def forGo (N : Names) (g : Rho → Rho × FlowP → Prop) (target : Expr) : List PV → Rho → Rho × FlowP → Prop
  | [], ρ, r => r = (ρ, .next)
  | p :: ps, ρ, r => ∃ ρ1 ρ2 fl, bindT false N target p ρ = some ρ1 ∧ g ρ1 (ρ2, fl) ∧ match fl with
    | .next => forGo N g target ps ρ2 r
    | .brk => r = (ρ2, .next)
    | .ret v => r = (ρ2, .ret v)
noncomputable def whileGo (t : Rho → Bool × Rho → Prop) (g : Rho → Rho × FlowP → Prop) : Nat → Rho → Rho × FlowP → Prop
  | 0, _, _ => False
  | n + 1, ρ, r => ∃ b ρ1, t ρ (b, ρ1) ∧ ((b = false ∧ r = (ρ1, .next)) ∨ (b = true ∧ ∃ ρ2 fl, g ρ1 (ρ2, fl) ∧ match fl with
    | .next => whileGo t g n ρ2 r
    | .brk => r = (ρ2, .next)
    | .ret v => r = (ρ2, .ret v)))

section
variable {C : CfgS} {n : Nat} {N : Names} {ρ ρ1 : Rho}
theorem execs_sound {X : CtxS C} {F0 : FM} {s0 : Shared} {env : Env} : ∀ {sts : List Stmt} {ρ : Rho} {r : Rho × FlowP}, execs (exec C N n) sts ρ r → ∀ F s, SJ X.W F0 s0 F s env N ρ → StOK X.W X.A F0 s0 env N F s (PySem.execs sts env) r
  | [], ρ, r, h, F, s, sj => by
    cases h
    unfold StOK
    rw [arm_execs_nil]
    exact wpAny_pure ⟨F, sj, .refl, rfl⟩
  | st :: sts, ρ, r, ⟨ρ1, fl, h1, h2⟩, F, s, sj => by
    unfold StOK
    rw [arm_execs_cons]
    refine wpAny_bind (wpAny_mono (h1.run X F0 s0 env F s sj) (fun fv s1 ⟨F1, sj1, st1, f1⟩ => ?_) fun _ _ f => f)
    cases fl with
    | next => cases f1; exact StOK.after st1 (execs_sound h2 F1 s1 sj1)
    | brk => cases f1; cases h2; exact wpAny_pure ⟨F1, sj1, st1, rfl⟩
    | ret p =>
      obtain ⟨v, e, rv⟩ := f1
      subst e
      cases h2
      exact wpAny_pure ⟨F1, sj1, st1, v, rfl, rv⟩

theorem for_sound {X : CtxS C} {F0 : FM} {s0 : Shared} {env : Env} {body : List Stmt} {target : Expr} {all : List PV} {r : Rho × FlowP} {F s I} {R : Result → Shared → Prop} (hI : s.heap.get? I = none) (h0 : s0.heap.get? I = none)
    (hR : ∀ fv s' F', SJ X.W F0 s0 F' s' env N r.1 → Stp F s F' s' → FlowOK X.W F' r.2 fv → R (.ok fv) s') {F1 : FM} {s1 : Shared} (h : forGo N (execs (exec C N n) body) target all ρ r) (sj : SJ X.W F0 s0 F1 s1 env N ρ) (st : Stp F s F1 s1)
    (x : IterAt X.W.prog X.W.w X.W.qc F1 s1.heap I all 0) : codeAny X.W.M X.A (.forLoop target (.ref I) body [] env) R s1 := by
  refine codeAny_forLoop_any (fun n' s' => ∃ F' ρ1 i, i ≤ all.length ∧ n' = (all.drop i).length ∧ SJ X.W F0 s0 F' s' env N ρ1 ∧ Stp F s F' s' ∧ IterAt X.W.prog X.W.w X.W.qc F' s'.heap I all i ∧ forGo N (execs (exec C N n) body) target (all.drop i) ρ1 r) ?_ all.length
    ⟨F1, ρ, 0, Nat.zero_le _, rfl, sj, st, x, h⟩
  rintro n' s2 ⟨F2, ρ1, i, hi, rfl, sj2, st2, x2, h2⟩
  obtain ⟨_, _, _, _, _, hIn⟩ := id x2
  cases hd : all.drop i with
  | nil =>
    rw [hd] at h2
    cases h2
    obtain ⟨rfl, _⟩ := drop_none hd hi
    refine x2.done X.hA.handled fun h' tk kk => ?_
    rw [arm_execs_nil]
    exact wpAny_pure (hR _ _ _ (sj2.iter hIn h0 x2.fields kk) (st2.iter hI kk) rfl)
  | cons p ps =>
    rw [hd] at h2
    obtain ⟨hp, hd1, hlt⟩ := drop_more hd
    obtain ⟨ρ2, ρ3, fl, hb, hgo, h2⟩ := h2
    refine x2.next X.hA.handled hlt fun v q h' tk ep rp x3 kk => ?_
    rw [hp] at ep; cases ep
    have sj3 := sj2.iter (tk := tk) hIn h0 x2.fields kk
    have st3 := st2.iter (tk := tk) hI kk
    refine letOwned_sound x3 (wpAny_mono (bindTJ X.hA.handled hb rp sj3) (fun _ s4 ⟨F4, sj4, st4⟩ => wpAny_mono (execs_sound hgo F4 s4 sj4) (fun fv s5 ⟨F5, sj5, st5, fo⟩ => ?_) fun _ _ f => f.elim) fun _ _ f => f.elim)
    have st35 := st4.trans st5
    have x5 := x3.stp st35 sj3.si.fi.sits sj5.si.fi.sits
    cases fl with
    | next =>
      cases fo
      exact ⟨ps.length, Nat.lt_succ_self _, F5, ρ3, i + 1, hlt, by rw [hd1], sj5, st3.trans st35, x5, hd1.symm ▸ h2⟩
    | brk => cases fo; cases h2; exact hR _ _ _ sj5 (st3.trans st35) rfl
    | ret q =>
      obtain ⟨u, e, ru⟩ := fo
      subst e
      cases h2
      exact hR _ _ _ sj5 (st3.trans st35) ⟨u, rfl, ru⟩

theorem while_sound {X : CtxS C} {F0 : FM} {s0 : Shared} {env : Env} {body : List Stmt} {test : Expr} {k : Nat} {r : Rho × FlowP} {F s} {R : Result → Shared → Prop} (h : whileGo (evt C N n · test) (execs (exec C N n) body) k ρ r) (sj : SJ X.W F0 s0 F s env N ρ)
    (hR : ∀ fv s' F', SJ X.W F0 s0 F' s' env N r.1 → Stp F s F' s' → FlowOK X.W F' r.2 fv → R (.ok fv) s') : codeAny X.W.M X.A (.whileLoop test body [] env) R s := by
  refine codeAny_whileLoop (fun k s' => ∃ F' ρ1, SJ X.W F0 s0 F' s' env N ρ1 ∧ Stp F s F' s' ∧ whileGo (evt C N n · test) (execs (exec C N n) body) k ρ1 r) ?_ k ⟨F, ρ, sj, .refl, h⟩
  rintro k s2 ⟨F2, ρ1, sj2, st2, h2⟩
  cases k with
  | zero => exact h2.elim
  | succ k =>
    obtain ⟨b, ρ2, hb, h2⟩ := h2
    refine wpAny_mono (hb.run X F0 s0 env F2 s2 sj2) (fun c s3 ⟨e, F3, sj3, st3⟩ => ?_) fun _ _ f => f.elim
    have e : c = b := e
    subst e
    rcases h2 with ⟨rfl, rfl⟩ | ⟨rfl, ρ3, fl, hgo, h2⟩
    · show wpAny _ _ (PySem.execs [] env) _ _ s3
      rw [arm_execs_nil]
      exact wpAny_pure (hR _ _ _ sj3 (st2.trans st3) rfl)
    · refine wpAny_mono (execs_sound hgo F3 s3 sj3) (fun fv s5 ⟨F5, sj5, st5, fo⟩ => ?_) fun _ _ f => f.elim
      have st25 := (st2.trans st3).trans st5
      cases fl with
      | next => cases fo; exact ⟨k, Nat.lt_succ_self _, F5, ρ3, sj5, st25, h2⟩
      | brk => cases fo; cases h2; exact hR _ _ _ sj5 st25 rfl
      | ret q =>
        obtain ⟨u, e, ru⟩ := fo
        subst e
        cases h2
        exact hR _ _ _ sj5 st25 ⟨u, rfl, ru⟩
end
end Nw

namespace Nw

section
variable {W : Wd} {A : Around} {F0 : FM} {s0 : Shared} {env : Env} {N : Names}
theorem assign_plain {x : Str} {px pos : Pos} {value : Expr} {s : Shared} {Q : Flow → Shared → Prop} {E : Value → Shared → Prop} (hs : swapsWith value (some (.Name x px)) pos.line env = pure false)
    (h : wpAny W.M A (eval value env) (fun v s1 => wpAny W.M A (storeName env x v) (fun _ => Q .next) E s1) E s) : wpAny W.M A (PySem.exec (.Assign [.Name x px] value pos) env) Q E s := by
  rw [arm_exec_Assign]
  refine wpAny_bind (wpAny_standAt (wpAny_bind (wpAny_of_eq (show swapsWithSole [.Name x px] value pos.line env = pure false from hs) ?_)))
  simp only [Bool.false_eq_true, if_false]
  refine wpAny_bind (wpAny_mono h (fun v s1 h1 => wpAny_bind (m := swappedStores [.Name x px] value env) (wpAny_of_eq (show swappedStores [.Name x px] value env = pure none from rfl) ?_)) fun _ _ e => e)
  show wpAny W.M A (assignAll v [assign (.Name x px) env] >>= fun _ => pure Flow.next) Q E s1
  exact wpAny_bind (wpAny_mono (wpAny_assign_Name h1) (fun _ _ q => wpAny_pure q) fun _ _ e => e)

theorem assign_tuple {ts : List Expr} {kk : Nat} {tp pos : Pos} {value : Expr} {s : Shared} {Q : Flow → Shared → Prop} {E : Value → Shared → Prop} (hv : ∀ vs a b, value ≠ .Tuple vs a b) (hs : swapsWith value (some (.Tuple ts kk tp)) pos.line env = pure false)
    (h : wpAny W.M A (eval value env) (fun v s1 => wpAny W.M A (assign (.Tuple ts kk tp) env v) (fun _ => Q .next) E s1) E s) : wpAny W.M A (PySem.exec (.Assign [.Tuple ts kk tp] value pos) env) Q E s := by
  rw [arm_exec_Assign]
  refine wpAny_bind (wpAny_standAt (wpAny_bind (wpAny_of_eq (show swapsWithSole [.Tuple ts kk tp] value pos.line env = pure false from hs) ?_)))
  simp only [Bool.false_eq_true, if_false]
  have e : swappedStores [.Tuple ts kk tp] value env = pure none := by
    unfold swappedStores
    cases value <;> first | rfl | exact absurd rfl (hv _ _ _)
  refine wpAny_bind (wpAny_mono h (fun v s1 h1 => wpAny_bind (m := swappedStores [.Tuple ts kk tp] value env) (wpAny_of_eq e ?_)) fun _ _ e => e)
  show wpAny W.M A (assignAll v [assign (.Tuple ts kk tp) env] >>= fun _ => pure Flow.next) Q E s1
  exact wpAny_bind (wpAny_mono h1 (fun _ _ q => wpAny_pure q) fun _ _ e => e)

theorem swapsWith_tuple {value : Expr} {ts : List Expr} {kk : Nat} {tp : Pos} {l : Nat} : swapsWith value (some (.Tuple ts kk tp)) l env = pure false := by
  unfold swapsWith
  cases value <;> rfl

theorem namesOf_len : ∀ {es : List Expr} {xs : List (Str × Nat)}, namesOf es = some xs → es.length = xs.length
  | [], xs, h => by cases h; rfl
  | e :: es, xs, h => by
    refine namesOf_inv h fun x pos ys _ hy e2 => ?_
    subst e2
    exact congrArg (· + 1) (namesOf_len hy)

theorem filterMap_names {line : Nat} (kn : ∀ x, N.lookup x = some .local → env.kindOf x = some .local) : ∀ {es : List Expr} {xs : List (Str × Nat)}, namesOf es = some xs → (xs.all fun x => N.lookup x.1 == some .local && x.2 == line) = true →
    (es.filterMap fun | .Name id pos => if env.kindOf id == some .local && pos.line == line then some id else none | _ => none) = xs.map (·.1)
  | [], xs, h, _ => by cases h; rfl
  | e :: es, xs, h, ha => by
    refine namesOf_inv h fun x pos ys e1 hy e2 => ?_
    subst e1 e2
    have ha := Bool.and_eq_true_iff.mp ha
    have h1 := Bool.and_eq_true_iff.mp ha.1
    have ih := filterMap_names kn hy ha.2
    have hc : (env.kindOf x == some .local && pos.line == line) = true := by
      rw [kn x (eq_of_beq h1.1)]
      exact h1.2
    rw [List.filterMap_cons]
    dsimp only
    rw [if_pos hc]
    exact congrArg (x :: ·) ih

theorem swapped_ok {ts vs : List Expr} {k1 k2 : Nat} {p1 p2 : Pos} {xs : List (Str × Nat)} (hk : env.scope.kind = .function) (kn : ∀ x, N.lookup x = some .local → env.kindOf x = some .local) (hx : namesOf ts = some xs) (h : swapOk N ts vs = true) :
    swappedStores [.Tuple ts k1 p1] (.Tuple vs k2 p2) env = pure (some (xs.map (·.1))) ∧ vs.length = ts.length ∧ vs.all notStar = true ∧ (xs.all fun x => N.lookup x.1 == some .local) = true := by
  unfold swapOk at h
  rw [hx] at h
  simp only [Bool.and_eq_true, Bool.not_eq_true', beq_iff_eq] at h
  obtain ⟨⟨⟨⟨⟨⟨h1, h2⟩, h3⟩, h4⟩, h5⟩, h6⟩, h7⟩ := h
  have hbk : env.blockKind = .function := by unfold Env.blockKind; rw [hk]; rfl
  have hline : ((ts.head?.map (·.pos.line)).getD 0) = (xs.head?.map (·.2)).getD 0 := by
    cases ts with
    | nil => cases hx; rfl
    | cons e es =>
      refine namesOf_inv hx fun x pos ys e1 _ e2 => ?_
      subst e1 e2
      rfl
  have hfm := filterMap_names (env := env) (line := (xs.head?.map (·.2)).getD 0) kn hx (by simpa using h4)
  refine ⟨?_, h2, h3, ?_⟩
  · unfold swappedStores
    have e0 : (!(ts.length == 2 || ts.length == 3) || vs.length != ts.length || env.blockKind != .function) = false := by
      rw [h1, h2, hbk]; simp
    have e1 : (vs.any fun | .Starred .. => true | _ => false) = false := by
      rw [List.any_eq_false]
      intro e he
      have := List.all_eq_true.mp h3 e he
      cases e <;> first | (cases this; done) | exact Bool.false_ne_true
    have e2 : ((xs.map (·.1)).length != ts.length || (xs.map (·.1)).eraseDups.length != (xs.map (·.1)).length) = false := by
      rw [namesOf_len hx]
      simp [h5]
    simp only [e0, Bool.false_eq_true, if_false, hline, h6, h7]
    have key : ∀ names : List Str, names = xs.map (·.1) → (if (names.length != ts.length || names.eraseDups.length != names.length) = true then (pure none : Sem (Option (List Str))) else pure (some names)) = pure (some (xs.map (·.1))) := by
      rintro _ rfl
      rw [e2]; rfl
    refine (if_neg ?_).trans (key _ hfm)
    rw [Bool.not_eq_true]
    exact e1
  · rw [List.all_eq_true] at h4 ⊢
    intro x hx
    have := h4 x hx
    simp only [Bool.and_eq_true] at this
    exact this.1

theorem namesOf_app : ∀ (as bs : List Expr) (xs ys : List (Str × Nat)), namesOf as = some xs → namesOf bs = some ys → namesOf (as ++ bs) = some (xs ++ ys)
  | [], bs, xs, ys, h, h' => by cases h; exact h'
  | e :: es, bs, xs, ys, h, h' => by
    refine namesOf_inv h fun x pos zs e1 hz e2 => ?_
    subst e1 e2
    show (namesOf (es ++ bs)).map _ = _
    rw [namesOf_app es bs zs ys hz h']
    rfl
theorem namesOf_reverse : ∀ {es : List Expr} {xs : List (Str × Nat)}, namesOf es = some xs → namesOf es.reverse = some xs.reverse
  | [], xs, h => by cases h; rfl
  | e :: es, xs, h => by
    refine namesOf_inv h fun x pos zs e1 hz e2 => ?_
    subst e1 e2
    rw [List.reverse_cons, List.reverse_cons]
    exact namesOf_app _ _ _ _ (namesOf_reverse hz) rfl

theorem RepL.reverse {qc : Addr} {F : FM} : ∀ {ps : List PV} {vs : List Value}, RepL qc F ps vs → RepL qc F ps.reverse vs.reverse
  | [], vs, r => by cases r; exact rfl
  | p :: ps, vs, r => by
    obtain ⟨v, ws, rfl, r1, r2⟩ := r
    rw [List.reverse_cons, List.reverse_cons]
    exact (RepL.reverse r2).append (RepL.one r1)

theorem RepL.set {qc : Addr} {F : FM} : ∀ {ps : List PV} {vs : List Value} (j : Nat) {p : PV} {v : Value}, RepL qc F ps vs → Rep qc F p v → RepL qc F (ps.set j p) (vs.set j v)
  | [], vs, j, p, v, r, _ => by cases r; exact rfl
  | q :: ps, vs, 0, p, v, r, r' => by
    obtain ⟨u, ws, rfl, r1, r2⟩ := r
    exact ⟨v, ws, rfl, r', r2⟩
  | q :: ps, vs, j + 1, p, v, r, r' => by
    obtain ⟨u, ws, rfl, r1, r2⟩ := r
    exact ⟨u, ws.set j v, rfl, r1, RepL.set j r2 r'⟩

theorem expr_plain {e : Expr} {pos : Pos} {s : Shared} {Q : Flow → Shared → Prop} {E : Value → Shared → Prop} (hk : env.scope.kind = .function) (hs : swapsWith e none pos.line env = pure false)
    (h : wpAny W.M A (eval e env) (fun _ => Q .next) E s) : wpAny W.M A (PySem.exec (.Expr e pos) env) Q E s :=
  wpAny_Expr_any h (by unfold interactive; rw [hk]; rfl) hs

end
end Nw

namespace Nw
set_option tactic.hygienic false

section
variable {C : CfgS} {n : Nat} {N : Names} {ρ ρ1 : Rho} {go : Rho → Stmt → Rho × FlowP → Prop}
noncomputable def notCompE : Expr → Bool
  | .ListComp .. => false
  | .SetComp .. => false
  | .DictComp .. => false
  | _ => true
theorem swaps_no {value : Expr} {x : Str} {px : Pos} {l : Nat} {env : Env} (h : notCompE value = true) : swapsWith value (some (.Name x px)) l env = pure false := by
  cases value <;> first | rfl | cases h

theorem x_name {x : Str} {px pos : Pos} {value : Expr} {p : PV} (hl : isLC N x = true) (hf : notCompE value = true) (h : evm C N n ρ value (p, ρ1)) : exec1 C N n go ρ (.Assign [.Name x px] value pos) (ρ1.set x (.imm p), .next) := ⟨fun X F0 s0 env F s sj =>
  assign_plain (swaps_no hf) (wpAny_mono (h.2 X F0 s0 env F s sj) (fun _ _ ⟨F1, sj1, st1, r1⟩ => sj_store sj1 hl (sl := .imm p) r1 imm_mu fun _ sj2 st2 _ => ⟨F1, sj2, st1.trans st2, rfl⟩) fun _ _ f => f)⟩
theorem x_slot {x : Str} {px pos : Pos} {value : Expr} {sl : Slot} (hl : isLC N x = true) (hn : notCompE value = true) (hf : evf C N n ρ value sl) : exec1 C N n go ρ (.Assign [.Name x px] value pos) (ρ.set x sl, .next) := ⟨fun X F0 s0 env F s sj => by
  refine assign_plain (swaps_no hn) (wpAny_mono (hf.run X F0 s0 env F s sj) (fun v s1 ⟨F1, a, g1, hs, hm, e, hn⟩ => ?_) fun _ _ f => f)
  subst e
  refine sj_store (sj.step g1) hl hs (fun _ => ⟨fun y sl' e m b => ?_, fun a' e => ?_⟩) fun s2 sj2 st2 _ => ⟨F1, sj2, (Stp.of_grow g1).trans st2, rfl⟩
  · obtain ⟨v, hv, hb⟩ := sj.si.fi.slots y sl' e
    have := hb.back g1.keep b
    subst this
    obtain ⟨a', o, _, _, ea, eo, _⟩ := Slot.seq hv m
    cases ea
    rw [hn] at eo; cases eo
  · cases e
    exact none_keep sj.si.grow.keep hn⟩
theorem x_nil {x : Str} {px lp pos : Pos} (hl : isLC N x = true) : exec1 C N n go ρ (.Assign [.Name x px] (.List [] lp) pos) (ρ.set x (.lst []), .next) := x_slot hl rfl (f_list (ps := []) evs_nil (Nat.zero_le _))

theorem x_comp {x : Str} {px cp pos : Pos} {elt target iter : Expr} {ifs : List Expr} {rest : List Comprehension} {scope : Scope} {y : PV} {items out : List PV} (hlc : isLC N x = true) (hf : (compOk N scope && notSetE iter && (0 : Int) == 0) = true) (hy : ev C.base n N ρ iter y) (hi : itemsPV y = some items)
    (ho : compGo (fun ρ' => ev C.base n scope.names ρ') scope.names elt (⟨target, iter, ifs, 0⟩ :: rest) items (rhoIn scope.names ρ) out) (hsz : out.length ≤ sizeLine) : exec1 C N n go ρ (.Assign [.Name x px] (.ListComp elt (⟨target, iter, ifs, 0⟩ :: rest) scope cp) pos) (ρ.set x (.imm (.list out)), .next) := ⟨fun X F0 s0 env F s sj => by
  have fi := sj.si.fi
  have h := e_comp (n := n) (pos := cp) hf hy hi ho hsz
  obtain ⟨b, hb⟩ : ∃ b, swapsWith (.ListComp elt (⟨target, iter, ifs, 0⟩ :: rest) scope cp) (some (.Name x px)) pos.line env = pure b := ⟨_, rfl⟩
  cases b with
  | false => exact assign_plain hb (wpAny_mono (evJ_of h sj) (fun _ _ ⟨F1, sj1, st1, r1⟩ => sj_store sj1 hlc (sl := .imm (.list out)) r1 imm_mu fun _ sj2 st2 _ => ⟨F1, sj2, st1.trans st2, rfl⟩) fun _ _ f => f)
  | true =>
    rw [Bool.and_eq_true, Bool.and_eq_true] at hf
    unfold StOK
    rw [arm_exec_Assign]
    refine wpAny_bind (wpAny_standAt (wpAny_bind (wpAny_of_eq (show swapsWithSole [.Name x px] (.ListComp elt (⟨target, iter, ifs, 0⟩ :: rest) scope cp) pos.line env = pure true from hb) ?_)))
    simp only [if_true]
    unfold evalThenUse
    refine wpAny_bind (wpAny_bind ?_)
    refine listcomp_core X.b hf.1.1 hf.1.2 hy hi ho hsz fi (use := some _) fun F' s' D Cc g r fc hc hm => ?_
    have sj' := sj.step g
    show wpAny X.W.M X.A (assignAll (.ref D) [assign (.Name x px) env]) _ _ s'
    refine wpAny_assign_Name (sj_store sj' hlc (sl := .imm (.list out)) r imm_mu fun s2 sj2 st2 kl => ?_)
    obtain ⟨m, hm⟩ := hm
    have nl : Cc ≠ env.locals := by
      rintro rfl
      obtain ⟨m, o, es, ep, e, _⟩ := fi.ns
      rw [hc] at e; cases e
    have nc : ∀ p ∈ env.cells, p.2 ≠ Cc := by
      rintro p hp rfl
      obtain ⟨v, o, e, _⟩ := fi.cells p hp
      rw [hc] at e; cases e
    obtain ⟨ob, es, ep, f1, f2, f3, f4⟩ := hm
    have f1' : s2.heap.get? Cc = some ob := kl _ _ nl (fun z c _ hz q => nc _ (mem_of_lookup hz) q) f1
    refine ⟨m, ⟨ob, es, ep, f1', f2, f3, f4⟩, fun h' hs => wpAny_pure (wpAny_pure ⟨F', ?_, ?_, rfl⟩)⟩
    · exact sj2.other (GrowBut.same (tk := s2.toks) sj2.si.fi.sits fc hs) (none_keep sj.si.grow.keep hc) nl nc fun o vs nn e e' => by
        rw [f1'] at e; cases e; rw [f2] at e'; cases e'
    · have st := (Stp.of_grow g).trans st2
      exact ⟨st.le, st.fresh, fun b ob' fs e e' => (hs.2 b (by rintro rfl; rw [hc] at e; cases e)).trans (st.kf b ob' fs e e')⟩⟩
theorem x_swap {ts vs : List Expr} {k1 k2 : Nat} {p1 p2 pos : Pos} {ps : List PV} (hsw : swapOk N ts vs = true) (_ : vs.all nilE = false) (hps : evs (ev C.base n N ρ) vs ps)
    (hb : bindNames false N ts.reverse ps.reverse ρ = some ρ1) : exec1 C N n go ρ (.Assign [.Tuple ts k1 p1] (.Tuple vs k2 p2) pos) (ρ1, .next) := ⟨fun X F0 s0 env F s sj => by
  have fi := sj.si.fi
  obtain ⟨xs, hx⟩ : ∃ xs, namesOf ts = some xs := by
    unfold swapOk at hsw
    split at hsw
    · cases hsw
    · rename_i xs hx; exact ⟨xs, hx⟩
  obtain ⟨hss, hlen, hst, _⟩ := swapped_ok (env := env) (k1 := k1) (k2 := k2) (p1 := p1) (p2 := p2) fi.kind fi.kindL hx hsw
  unfold StOK
  rw [arm_exec_Assign]
  refine wpAny_bind (wpAny_standAt (wpAny_bind (wpAny_of_eq (show swapsWithSole [.Tuple ts k1 p1] (.Tuple vs k2 p2) pos.line env = pure false from rfl) ?_)))
  simp only [Bool.false_eq_true, if_false]
  rw [arm_eval_Tuple]
  have e1 := evs_sound (X := X.b) (pos := p2) hps F s fi
  have hpl : ps.length = vs.length := evs_length hps
  have hsmall : ps.length < sizeLine := by
    unfold swapOk at hsw
    rw [hx] at hsw
    simp only [Bool.and_eq_true, Bool.or_eq_true, beq_iff_eq] at hsw
    have := hsw.1.1.1.1.1.1
    rw [sizeLine_eq]
    omega
  refine wpAny_bind (wpAny_bind (wpAny_standAt (wpAny_bind (e1.use fun ws F1 s1 g1 r1 => (ev_newTuple r1 g1.sits (Nat.le_of_lt hsmall)).use fun v F2 s2 g2 r2 => ?_))))
  refine wpAny_bind (wpAny_of_eq hss ?_)
  unfold assignStores
  dsimp only
  have hnl : (xs.map (·.1)).length = ps.length := by
    rw [List.length_map, ← namesOf_len hx, ← hlen, hpl]
  have hpp : partsPV (.tup ps) = some ps := by unfold partsPV; simp [hsmall]
  have hun := unpackItems_sound (prog := X.W.prog) (w := X.W.w) (qc := X.W.qc) X.hA.handled hpp hnl g2.sits r2
  refine wpAny_bind (wpAny_rule (wpAny_bind (hun.use fun us F3 s3 g3 r3 => ?_)))
  have g := (g1.trans g2).trans g3
  have hrev : ((xs.map (·.1)).reverse.map fun n => bindName env n) = xs.reverse.map fun x => bindName env x.1 := by
    rw [← List.map_reverse, List.map_map]; rfl
  rw [hrev]
  refine wpAny_bind (wpAny_mono (bindNamesJ_store ts.reverse xs.reverse ps.reverse us.reverse ρ ρ1 F3 s3 (namesOf_reverse hx) hb (RepL.reverse r3) (sj.step g)) ?_ fun _ _ f => f)
  rintro _ s4 ⟨sj4, st4⟩
  exact wpAny_pure ⟨F3, sj4, (Stp.of_grow g).trans st4, rfl⟩⟩
theorem x_tup {ts : List Expr} {k : Nat} {tp pos : Pos} {value : Expr} {p : PV} (hv : ∀ vs a b, value ≠ .Tuple vs a b) (h : ev C.base n N ρ value p) (hb : bindT false N (.Tuple ts k tp) p ρ = some ρ1) : exec1 C N n go ρ (.Assign [.Tuple ts k tp] value pos) (ρ1, .next) := ⟨fun X F0 s0 env F s sj =>
  assign_tuple hv swapsWith_tuple (wpAny_mono (evJ_of h sj) (fun _ _ ⟨F1, sj1, st1, r1⟩ => wpAny_mono (bindTJ X.hA.handled hb r1 sj1) (fun _ _ ⟨F2, sj2, st2⟩ => ⟨F2, sj2, st1.trans st2, rfl⟩) fun _ _ f => f) fun _ _ f => f)⟩
theorem x_aug {x : Str} {px pos : Pos} {op : Operator} {value : Expr} {a b r : PV} (hl : (okName x && isLC N x) = true) (hx : ρ x = some (.imm a)) (h1 : ev C.base n N ρ value b) (h2 : inop op a b = some r) : exec1 C N n go ρ (.AugAssign (.Name x px) op value pos) (ρ.set x (.imm r), .next) := ⟨fun X F0 s0 env F s sj => by
  rw [Bool.and_eq_true] at hl
  obtain ⟨v, hv, hb⟩ := sj.si.fi.slots x _ hx
  refine wpAny_AugAssign_Name (load_bound sj.si.fi.kind hb hl.1 (wpAny_mono (evJ_of h1 sj) (fun u s1 ⟨F1, sj1, st1, r1⟩ => ?_) fun _ _ f => f))
  refine (inop_sound h2 sj1.si.fi.sits (Rep.mono _ st1.le hv) r1).use fun w F2 s2 g2 r2 => ?_
  exact sj_store (sj1.step g2) hl.2 (sl := .imm r) r2 imm_mu fun s3 sj3 st3 _ => ⟨F2, sj3, (st1.trans (Stp.of_grow g2)).trans st3, rfl⟩⟩
theorem x_augi {x : Str} {px sp pos : Pos} {op : Operator} {i value : Expr} {ps : List PV} {j : Int} {a b r : PV} (hnm : okName x = true) (hx : ρ x = some (.lst ps)) (hi : ev C.base n N ρ i (.int j)) (hj3 : 0 ≤ j ∧ j < ps.length ∧ ps.length < 2 ^ 60) (ha : ps[j.toNat]? = some a)
    (h1 : ev C.base n N ρ value b) (h2 : inop op a b = some r) : exec1 C N n go ρ (.AugAssign (.Subscript (.Name x px) i sp) op value pos) (ρ.set x (.lst (ps.set j.toNat r)), .next) := ⟨fun X F0 s0 env F s sj => by
  obtain ⟨h0, hj, hsz⟩ := hj3
  obtain ⟨v, hv, hb⟩ := sj.si.fi.slots x _ hx
  obtain ⟨l, vs, nn, rfl, e1, rl, off⟩ := id hv
  refine wpAny_AugAssign_Subscript_any (name_bound sj.si.fi.kind hb hnm ?_) ?_
  · refine (hi.val X.b F s sj.si.fi).use fun iv F1 s1 g1 r1 => ?_
    obtain ⟨t, rfl⟩ := r1
    have sj1 := sj.step g1
    have e1' := g1.keep _ _ e1
    have rl1 := RepL.mono _ g1.le rl
    have en := rl1.length
    rw [Array.length_toList] at en
    obtain ⟨av, hav, ra⟩ := rl1.get j.toNat ha
    refine wpAny_getItem_list ⟨_, e1', rfl, nn, rfl⟩ h0 (by omega) (by simpa using hav) ?_
    refine (h1.val X.b F1 s1 sj1.si.fi).use fun u F2 s2 g2 r2 => ?_
    refine (inop_sound h2 g2.sits (Rep.mono _ g2.le ra) r2).use fun w F3 s3 g3 r3 => ?_
    have sj3 := (sj1.step g2).step g3
    have hv3 := ((hv.grow g1).grow g2).grow g3
    have e3 := g3.keep _ _ (g2.keep _ _ e1')
    refine ki_setAt e3 h0 (by omega) (by omega) ?_
    have hne : F3 l = none := by
      obtain ⟨l', _, _, el, _, _, o3⟩ := id hv3
      cases el
      exact o3.1
    have gb : GrowBut l F3 s3 F3 { s3 with heap := s3.heap.update l (Obj.mapSeq (·.setIfInBounds j.toNat w)) } := GrowBut.same (tk := s3.toks) sj3.si.fi.sits hne (Heap.SameBut.update ..)
    have hup : (s3.heap.update l (Obj.mapSeq (·.setIfInBounds j.toNat w))).get? l = some (listOf (vs.setIfInBounds j.toNat w) _) := PySem.IsL.update e3 _
    have hoff : Off F3 env l := by
      obtain ⟨l', _, _, el, _, _, o3⟩ := id hv3
      cases el
      exact o3
    have hrl : RepL X.W.qc F3 (ps.set j.toNat r) (vs.setIfInBounds j.toNat w).toList := by
      have := (RepL.mono _ (g2.le.trans g3.le) rl1).set j.toNat r3
      simpa using this
    obtain ⟨sj4, st4⟩ := sj3.mut (sl' := .lst (ps.set j.toNat r)) hx rfl (((hb.keep g1.keep).keep g2.keep).keep g3.keep) hv3 gb ⟨l, _, _, rfl, hup, hrl, hoff⟩
    exact ⟨F3, sj4, (((Stp.of_grow g1).trans (Stp.of_grow g2)).trans (Stp.of_grow g3)).trans st4, rfl⟩
  · intro ov iv new
    have hpl := hi.1
    cases i <;> first | rfl | cases hpl⟩
theorem x_append {x : Str} {px apos cpos pos : Pos} {a : Expr} {ps : List PV} {p : PV} (hl0 : (okName x && apos.endLine == cpos.line) = true) (hx : ρ x = some (.lst ps)) (h1 : ev C.base n N ρ a p) (hsz : ps.length < sizeLine) :
    exec1 C N n go ρ (.Expr (.Call (.Attribute (.Name x px) "append" apos) [a] [] cpos) pos) (ρ.set x (.lst (ps ++ [p])), .next) := ⟨fun X F0 s0 env F s sj => by
  rw [Bool.and_eq_true] at hl0
  obtain ⟨hnm, hl⟩ := hl0
  have fi := sj.si.fi
  obtain ⟨v, hv, hb⟩ := fi.slots x _ hx
  obtain ⟨l, vs, nn, rfl, e1, rl, off⟩ := id hv
  have hs : evs (ev C.base n N ρ) [a] [p] := evs_cons h1 evs_nil
  have eb := (evs_flat (env := env) (pos := cpos) hs).1
  have ea := evs_sound (X := X.b) (pos := cpos) hs F s fi
  refine expr_plain fi.kind rfl (meth_call hl (show 1 < 30 by decide) rfl eb (name_bound fi.kind hb hnm ?_))
  refine getMethod_builtin (T := "list") ⟨_, e1, rfl⟩ PySem.F.plainAttrs_list PySem.F.slot_list_append type_list_append (fun a' h' => ⟨_, by cases h'; exact e1, rfl⟩) ?_
  refine callWith_of eb (callee_builtin _) (ea.use fun ws F1 s1 g1 r1 => ⟨fi.base.trans g1.keep, ?_⟩)
  obtain ⟨w, ws', rfl, r1, r2⟩ := r1
  cases r2
  have sj1 := sj.step g1
  have hv1 := hv.grow g1
  have e1' := g1.keep _ _ e1
  have en := rl.length
  rw [Array.length_toList] at en
  refine wpAny_list_append_plain ⟨nn, e1'⟩ (fun h' hp hsb => ?_) (by omega)
  obtain ⟨n', hp⟩ := hp
  have hoff : Off F1 env l := by
    obtain ⟨l', _, _, el, _, _, o3⟩ := id hv1
    cases el
    exact o3
  have gb : GrowBut l F1 s1 F1 { s1 with heap := h' } := GrowBut.same (tk := s1.toks) sj1.si.fi.sits hoff.1 hsb
  have hrl : RepL X.W.qc F1 (ps ++ [p]) (vs.push w).toList := by
    rw [Array.toList_push]
    exact (RepL.mono _ g1.le rl).append (RepL.one r1)
  obtain ⟨sj4, st4⟩ := sj1.mut (sl' := .lst (ps ++ [p])) hx rfl (hb.keep g1.keep) hv1 gb ⟨l, _, n', rfl, hp, hrl, hoff⟩
  exact ⟨F1, sj4, (Stp.of_grow g1).trans st4, rfl⟩⟩

theorem x_accm {x mn : Str} {px apos cpos pos : Pos} {as : List Expr} {hd : Int} {items items' ps : List PV} {r : PV} (hx : ρ x = some (.acc hd items)) (ho : (okName x && decide (as.length < 30)) = true) (hl : (apos.endLine == cpos.line) = true) (h1 : evs (ev C.base n N ρ) as ps) (h2 : C.mm mn hd items ps = some (r, items')) :
    exec1 C N n go ρ (.Expr (.Call (.Attribute (.Name x px) mn apos) as [] cpos) pos) (ρ.set x (.acc hd items'), .next) := ⟨fun X F0 s0 env F s sj =>
  expr_plain sj.si.fi.kind rfl (wpAny_mono ((m_acc hx ho hl h1 h2).2 X F0 s0 env F s sj) (fun _ _ ⟨F1, sj1, st1, _⟩ => ⟨F1, sj1, st1, rfl⟩) fun _ _ f => f)⟩
theorem x_if {test : Expr} {body orelse : List Stmt} {pos : Pos} {b : Bool} {r : Rho × FlowP} (ht : evt C N n ρ test (b, ρ1)) (h : if b then execs (exec C N n) body ρ1 r else execs (exec C N n) orelse ρ1 r) : exec1 C N n go ρ (.If test body orelse pos) r := ⟨fun X F0 s0 env F s sj => by
  refine wpAny_If (wpAny_mono (ht.run X F0 s0 env F s sj) (fun c s1 ⟨e, F1, sj1, st1⟩ => ?_) fun _ _ f => f)
  have e : c = b := e
  subst e
  cases c with
  | true => exact StOK.after st1 (execs_sound h F1 s1 sj1)
  | false => exact StOK.after st1 (execs_sound h F1 s1 sj1)⟩
theorem x_return {e : Expr} {pos : Pos} {p : PV} (h : evm C N n ρ e (p, ρ1)) : exec1 C N n go ρ (.Return (some e) pos) (ρ1, .ret p) := ⟨fun X F0 s0 env F s sj =>
  wpAny_Return_some (wpAny_mono (h.2 X F0 s0 env F s sj) (fun v _ ⟨F1, sj1, st1, r1⟩ => ⟨F1, sj1, st1, v, rfl, r1⟩) fun _ _ f => f)⟩
theorem x_break {pos : Pos} : exec1 C N n go ρ (.Break pos) (ρ, .brk) := ⟨fun _ _ _ _ F _ sj => wpAny_Break ⟨F, sj, .refl, rfl⟩⟩
theorem x_fori {target iter : Expr} {body : List Stmt} {pos : Pos} {its : List PV} {r : Rho × FlowP} (hs : notSetE iter = true) (hi : evi C N n ρ iter its) (h : forGo N (execs (exec C N n) body) target its ρ r) : exec1 C N n go ρ (.For target iter body [] pos) r := ⟨fun X F0 s0 env F s sj =>
  wpAny_For (wpAny_mono (hi.run X F0 s0 env F s sj) (fun rv s1 h1 => wpAny_mono h1 (fun v s2 ⟨I, F2, e, g2, hI, x2⟩ => by
    subst e
    exact for_sound hI (none_keep sj.si.grow.keep hI) (fun fv s' F' a b c => ⟨F', a, b, c⟩) h (sj.step g2) (Stp.of_grow g2) x2) fun _ _ f => f.elim) fun _ _ f => f.elim) fun _ => folded_plain hs⟩
theorem x_for {target iter : Expr} {body : List Stmt} {pos : Pos} {x : PV} {its : List PV} {r : Rho × FlowP} (hs : notSetE iter = true) (_ : (0 : Nat) = 0) (h1 : ev C.base n N ρ iter x) (h2 : itemsPV x = some its) (h : forGo N (execs (exec C N n) body) target its ρ r) : exec1 C N n go ρ (.For target iter body [] pos) r := x_fori hs (i_pure h1 h2) h
theorem x_while {test : Expr} {body : List Stmt} {pos : Pos} {k : Nat} {r : Rho × FlowP} (h : whileGo (evt C N n · test) (execs (exec C N n) body) k ρ r) : exec1 C N n go ρ (.While test body [] pos) r := ⟨fun X F0 s0 env F s sj =>
  wpAny_While (while_sound h sj fun fv s' F' a b c => ⟨F', a, b, c⟩)⟩

/-! lists of statements -/
noncomputable def stLine : Stmt → Nat
  | .Expr _ p => p.line
  | .Return _ p => p.line
  | .Assign _ _ p => p.line
  | .AugAssign _ _ _ p => p.line
  | .If _ _ _ p => p.line
  | .While _ _ _ p => p.line
  | .For _ _ _ _ p => p.line
  | _ => 0
theorem x_exec {st : Stmt} {r : Rho × FlowP} (_ : C.fz (stLine st) = []) (h : exec1 C N n (exec C N n) ρ st r) : exec C N (n + 1) ρ st r := ⟨h.run⟩
theorem x_execf {st : Stmt} {r : Rho × FlowP} {xs : List Str} {ρ' : Rho} (_ : C.fz (stLine st) = xs) (hρ : ρ.freeze xs = ρ') (h : exec1 C N n (exec C N n) ρ' st r) : exec C N (n + 1) ρ st r := ⟨fun X F0 s0 env F s sj => by
  obtain ⟨F1, sj1, st1⟩ := sj.freeze xs
  subst hρ
  exact StOK.after st1 (h.run X F0 s0 env F1 s sj1)⟩
variable {f : Rho → Stmt → Rho × FlowP → Prop}
theorem x_cons {st : Stmt} {sts : List Stmt} {r : Rho × FlowP} (h1 : f ρ st (ρ1, .next)) (h2 : execs f sts ρ1 r) : execs f (st :: sts) ρ r := ⟨ρ1, .next, h1, h2⟩
theorem x_ret {st : Stmt} {sts : List Stmt} {p : PV} (h1 : f ρ st (ρ1, .ret p)) : execs f (st :: sts) ρ (ρ1, .ret p) := ⟨ρ1, .ret p, h1, rfl⟩
theorem x_brk {st : Stmt} {sts : List Stmt} (h1 : f ρ st (ρ1, .brk)) : execs f (st :: sts) ρ (ρ1, .brk) := ⟨ρ1, .brk, h1, rfl⟩
end
end Nw

namespace Nw
set_option tactic.hygienic false

noncomputable def rho0 : List Str → List PV → Rho
  | x :: xs, p :: ps => fun y => if y = x then some (.imm p) else rho0 xs ps y
  | _, _ => fun _ => none

/-- a function of the text, run by the rules -/
noncomputable def runFn (C : CfgS) (N : Names) (n : Nat) (params : List Str) (body : List Stmt) (ps : List PV) (r : PV) : Prop :=
  ps.length = params.length ∧ ∃ ρ', execs (exec C N n) body (rho0 params ps) (ρ', .ret r)
theorem run_of {C : CfgS} {N : Names} {n : Nat} {ρ1 : Rho} {params : List Str} {body : List Stmt} {ps : List PV} {r : PV} (hl : ps.length = params.length) (h : execs (exec C N n) body (rho0 params ps) (ρ1, .ret r)) : runFn C N n params body ps r := ⟨hl, ρ1, h⟩

theorem rho0_spec {qc : Addr} {F : FM} : ∀ {params : List Str} {ps : List PV} {vs : List Value} {x : Str} {sl : Slot}, RepL qc F ps vs → rho0 params ps x = some sl → ∃ p v, sl = .imm p ∧ Rep qc F p v ∧ (x, v) ∈ params.zip vs
  | [], ps, vs, x, sl, r, h => by cases ps <;> cases h
  | y :: ys, [], vs, x, sl, r, h => by cases h
  | y :: ys, p :: ps, vs, x, sl, r, h => by
    obtain ⟨v, ws, rfl, r1, r2⟩ := r
    unfold rho0 at h
    split at h
    · rename_i e; cases h; subst e
      exact ⟨p, v, rfl, r1, .head _⟩
    · obtain ⟨q, u, e, r3, m⟩ := rho0_spec r2 h
      exact ⟨q, u, e, r3, .tail _ m⟩

theorem bindL_keep {kindOf : Str → Option NameKind} : ∀ (binds : List (Str × Value)) (m : Str → Option Value) (x : Str), x ∉ binds.map (·.1) → bindL kindOf binds m x = m x
  | [], _, _, _ => rfl
  | (n, v) :: r, m, x, h => by
    simp only [List.map_cons, List.mem_cons, not_or] at h
    unfold bindL
    rw [bindL_keep r _ x h.2]
    split
    · simp [h.1]
    · rfl
theorem bindL_mem {kindOf : Str → Option NameKind} : ∀ (binds : List (Str × Value)) (m : Str → Option Value) (x : Str) (v : Value), (binds.map (·.1)).Nodup → (x, v) ∈ binds → kindOf x = some .local → bindL kindOf binds m x = some v
  | (n, u) :: r, m, x, v, nd, h, hk => by
    simp only [List.map_cons, List.nodup_cons] at nd
    unfold bindL
    rcases List.mem_cons.mp h with e | h
    · cases e
      rw [bindL_keep r _ _ nd.1, if_pos hk]
      simp
    · exact bindL_mem r _ x v nd.2 h hk
theorem bindC_keep {kindOf : Str → Option NameKind} : ∀ (binds : List (Str × Value)) (m : Str → Option Value) (x : Str), x ∉ binds.map (·.1) → bindC kindOf binds m x = m x
  | [], _, _, _ => rfl
  | (n, v) :: r, m, x, h => by
    simp only [List.map_cons, List.mem_cons, not_or] at h
    unfold bindC
    rw [bindC_keep r _ x h.2]
    split
    · rfl
    · simp [h.1]
theorem bindC_mem {kindOf : Str → Option NameKind} : ∀ (binds : List (Str × Value)) (m : Str → Option Value) (x : Str) (v : Value), (binds.map (·.1)).Nodup → (x, v) ∈ binds → ¬ kindOf x = some .local → bindC kindOf binds m x = some v
  | (n, u) :: r, m, x, v, nd, h, hk => by
    simp only [List.map_cons, List.nodup_cons] at nd
    unfold bindC
    rcases List.mem_cons.mp h with e | h
    · cases e
      rw [bindC_keep r _ _ nd.1, if_neg hk]
      simp
    · exact bindC_mem r _ x v nd.2 h hk

theorem cellsFrom_keys : ∀ (names : Names) (n : Nat) (acc : List (Str × Addr)), (cellsFrom n names acc).map (·.1) = ((names.filter fun x => x.2 == .cell).map (·.1)).reverse ++ acc.map (·.1)
  | [], n, acc => by simp [cellsFrom]
  | (x, k) :: r, n, acc => by
    unfold cellsFrom
    by_cases hk : (k == .cell) = true
    · rw [if_pos hk, cellsFrom_keys r]
      simp [hk]
    · rw [if_neg hk, cellsFrom_keys r]
      simp [hk]

theorem lookup_mem_nodup {β : Type} : ∀ {l : List (Str × β)} {p : Str × β}, (l.map (·.1)).Nodup → p ∈ l → l.lookup p.1 = some p.2
  | (x, b) :: r, p, nd, h => by
    simp only [List.map_cons, List.nodup_cons] at nd
    rcases List.mem_cons.mp h with rfl | h
    · simp
    · have hne : p.1 ≠ x := fun e => nd.1 (e ▸ List.mem_map_of_mem h)
      have hb : (p.1 == x) = false := beq_eq_false_iff_ne.mpr hne
      rw [List.lookup_cons, hb]
      exact lookup_mem_nodup nd.2 h

/-- a function of the text -/
structure FnAt (W : Wd) (name : Str) (params : List Str) (body : List Stmt) (N : Names) (a : Addr) (o : Obj) (fd : FuncData) : Prop where
  glob : W.mg name = some (.ref a)
  at' : W.hB.get? a = some o
  data : o.data = .func fd
  body : fd.body = .stmts body
  names : fd.scope.names = N
  kind : fd.scope.kind = .function
  co : fd.scope.isCoroutine = false
  gen : fd.scope.isGenerator = false
  closure : fd.closure = []
  globals : fd.globals = mainGlobals
  builtins : fd.builtins = builtinsNs
  code : W.hB.CodeRec fd.code fd.qualname
  binds : ∀ vals : List Value, vals.length = params.length → bindArgs fd ⟨vals, []⟩ = pure (params.zip vals)

noncomputable def fnOk (N : Names) (params : List Str) : Bool :=
  nodupB (N.map (·.1)) && nodupB params && (N.all fun x => x.2 != .free) && params.all fun x => N.lookup x == some .local || N.lookup x == some .cell

theorem fn_sound {W : Wd} {C : CfgS} {k : Nat} (ok : WdOK W) (cok : CfgSOK W C k) {name : Str} {params : List Str} {body : List Stmt} {N : Names} {a : Addr} {o : Obj} {fd : FuncData} (hf : FnAt W name params body N a o fd) (hN : fnOk N params = true)
    {n : Nat} {ps : List PV} {r : PV} (h : runFn C N n params body ps r) :
    CallOK W (k + 1) name ps r := by
  refine ⟨.ref a, .inl hf.glob, callee_func hf.at' hf.data, fun A F s vs hA st base rs => ?_⟩
  obtain ⟨hlen, ρ', h1⟩ := h
  unfold fnOk at hN
  simp only [Bool.and_eq_true] at hN
  obtain ⟨⟨⟨hnd, hpd⟩, hnf⟩, hpk⟩ := hN
  have hnd' := nodupB_spec hnd
  have hvl : vs.length = params.length := by rw [rs.length, hlen]
  have hcd : (params.zip vs).map (·.1) = params := by
    rw [List.map_fst_zip]; lia
  have hkinds : ∀ x ∈ params.zip vs, fd.scope.names.lookup x.1 = some .local ∨ (fd.scope.names.lookup x.1 = some .cell ∧ ((cellsFrom (s.heap.objs.size + 1) fd.scope.names []).lookup x.1).isSome = true) := by
    intro x hx
    have hm : x.1 ∈ params := by rw [← hcd]; exact List.mem_map_of_mem hx
    have := List.all_eq_true.mp hpk _ hm
    rw [hf.names]
    rcases Bool.or_eq_true_iff.mp this with q | q
    · exact .inl (by simpa using q)
    · have q' : N.lookup x.1 = some .cell := by simpa using q
      exact .inr ⟨q', cellsFrom_some _ _ _ (.inl q')⟩
  refine wpAny_call (codeAny_call_cells (by have := hA.depth; lia) (base _ _ hf.at') hf.data (ok.nolimit.keeps base) (hf.code.keeps base) hf.body (hf.binds vs hvl) hf.closure hkinds (fun s1 X => ?_) hf.co hf.gen hf.kind)
  generalize henv : callEnvC fd s.heap.objs.size a = env at *
  obtain ⟨h1', tk, rfl⟩ := X.toInCall.same
  have eL : env.locals = s.heap.objs.size := by rw [← henv]; rfl
  have eC : env.cells = cellsFrom (s.heap.objs.size + 1) N [] := by rw [← henv, ← hf.names]; rfl
  have eK : ∀ x, env.kindOf x = N.lookup x := fun x => by rw [← henv, ← hf.names]; rfl
  have eS : env.scope.kind = .function := by rw [← henv]; exact hf.kind
  have eG : env.globals = mainGlobals := by rw [← henv]; exact hf.globals
  have eB : env.builtins = builtinsNs := by rw [← henv]; exact hf.builtins
  have keep : Keep s.heap h1' := X.toInCall.keep
  have st1 : Sits F h1' := fun b ob e => keep _ _ (st b ob e)
  have g1 : Grow F s F { s with heap := h1', toks := tk } := Grow.heap st keep
  have hckn : (env.cells.map (·.1)).Nodup := by
    rw [eC, cellsFrom_keys]
    simp only [List.map_nil, List.append_nil]
    refine List.pairwise_reverse.mpr ?_
    have : ((N.filter fun x => x.2 == .cell).map (·.1)).Nodup := (List.Sublist.map _ List.filter_sublist).nodup hnd'
    exact this.imp Ne.symm
  have hcell : ∀ p ∈ env.cells, h1'.IsCell p.2 (bindC env.kindOf (params.zip vs) (fun _ => none) p.1) := fun p hp => X.cell p.1 p.2 (lookup_mem_nodup hckn hp)
  have hnew : ∀ c, s.heap.objs.size ≤ c → s.heap.get? c = none := fun c hc => by
    cases q : s.heap.get? c with
    | none => rfl
    | some ob => exact absurd (Heap.lt_size q) (Nat.not_lt.mpr hc)
  have hnewF : ∀ c, s.heap.objs.size ≤ c → F c = none := fun c hc => by
    cases q : F c with
    | none => rfl
    | some ob => have := st _ _ q; rw [hnew c hc] at this; cases this
  have habove : ∀ p ∈ env.cells, s.heap.objs.size < p.2 := fun p hp => by
    have := X.above p.1 p.2 hp
    rwa [eL] at this
  have hslots : ∀ x sl, rho0 params ps x = some sl → ∃ v, SlotOK W F h1' env sl v ∧ Bound h1' env x v := by
    intro x sl e
    obtain ⟨p, v, rfl, rp, hm⟩ := rho0_spec rs e
    refine ⟨v, rp, ?_⟩
    have hxm : x ∈ params := by rw [← hcd]; exact List.mem_map_of_mem hm
    have hnd2 : ((params.zip vs).map (·.1)).Nodup := by rw [hcd]; exact nodupB_spec hpd
    have := List.all_eq_true.mp hpk _ hxm
    rcases Bool.or_eq_true_iff.mp this with q | q
    · have q' : env.kindOf x = some .local := by rw [eK]; simpa using q
      exact .inl ⟨q', _, X.toInCall.ns, bindL_mem _ _ x v hnd2 hm q'⟩
    · have q' : env.kindOf x = some .cell := by rw [eK]; simpa using q
      have hs : (env.cells.lookup x).isSome = true := by rw [eC]; exact cellsFrom_some _ _ _ (.inl (by simpa using q))
      obtain ⟨c, hc⟩ := Option.isSome_iff_exists.mp hs
      refine .inr ⟨.inl q', c, hc, ?_⟩
      have := X.cell x c hc
      rwa [bindC_mem _ _ x v hnd2 hm (by rw [q']; decide)] at this
  have sj : SJ W F s F { s with heap := h1', toks := tk } env N (rho0 params ps) := by
    refine ⟨⟨{ sits := st1, base := base.trans keep, kind := eS, globals := eG, blt := eB, ns := ⟨_, X.toInCall.ns⟩, cells := fun p hp => ⟨_, hcell p hp⟩, apart := X.apart, nl := fun p hp => ?_, privL := ?_, privF := fun p hp => hnewF _ (Nat.le_of_lt (habove p hp)), privC := fun x c _ hc => hnew _ (Nat.le_of_lt (habove _ (mem_of_lookup hc))), kindL := fun x hx => by rw [eK]; exact hx, kindC := fun x hx => ?_, kindF := fun x hx => ?_, kindG := fun x hx => by rw [eK]; exact hx, slots := hslots, muts := ?_ }, g1, base⟩, ?_⟩
    · rw [eL]; exact Nat.ne_of_gt (habove p hp)
    · rw [eL]; exact ⟨hnewF _ (Nat.le_refl _), hnew _ (Nat.le_refl _)⟩
    · refine ⟨by rw [eK]; exact hx, ?_⟩
      have hs : (env.cells.lookup x).isSome = true := by rw [eC]; exact cellsFrom_some _ _ _ (.inl hx)
      exact Option.isSome_iff_exists.mp hs
    · exact absurd (List.all_eq_true.mp hnf _ (mem_of_lookup hx)) (by simp)
    · intro x y sl sl' v e1 e2 m1
      obtain ⟨p, _, rfl, _⟩ := rho0_spec rs e1
      cases m1
    · intro x sl b e m
      obtain ⟨p, _, rfl, _⟩ := rho0_spec rs e
      cases m
  have hA' : Amb (A.deeper env) k := ⟨hA.handled, by have := hA.depth; rw [depth_deeper]; lia, by have := hA.units; rw [Around.deeper_units]; lia, hA.guards⟩
  refine wpAny_mono (execs_sound (X := ⟨W, A.deeper env, k, ok, cok, hA'⟩) h1 F _ sj) ?_ fun _ _ f => f.elim
  rintro fv s2 ⟨F2, sj2, st2, v, rfl, rv⟩
  exact ⟨F2, sj2.si.grow, rv⟩
end Nw

namespace Nw

/-- a primitive's contract -/
noncomputable def PrimOK (W : Wd) (g : List PV → Option PV) (fv : Value) : Prop :=
  ∀ ps r, g ps = some r → ∀ (A : Around) (F : FM) (s : Shared) (vs : List Value), Amb A 0 → Sits F s.heap → Keep W.hB s.heap → RepL W.qc F ps vs → Ev W.qc W.M A F s (PySem.call fv vs) r

noncomputable def lenPV : List PV → Option PV
  | [.str x] => if (x.length : Int) < 9223372036854775808 then some (.int x.length) else none
  | [.list xs] => if (xs.length : Int) < 2 ^ 63 then some (.int xs.length) else none
  | [.tup xs] => if (xs.length : Int) < 2 ^ 63 then some (.int xs.length) else none
  | _ => none
noncomputable def rangePV : List PV → Option PV
  | [.int n] => some (.rng 0 n)
  | [.int a, .int b] => some (.rng a b)
  | _ => none
noncomputable def divmodPV : List PV → Option PV
  | [.int a, .int b] => if b ≠ 0 ∧ Builtin.divisionGoesByPylong a b = false then some (.tup [.int (a.fdiv b), .int (a.fmod b)]) else none
  | _ => none
noncomputable def strsOf : List PV → Option (List Str)
  | [] => some []
  | .str x :: ps => (strsOf ps).map (x :: ·)
  | _ => none
noncomputable def intsOf : List PV → Option (List Int)
  | [] => some []
  | .int x :: ps => (intsOf ps).map (x :: ·)
  | _ => none
noncomputable def minL {α : Type} (lt : α → α → Bool) : α → List α → α
  | b, [] => b
  | b, x :: xs => minL lt (if lt x b then x else b) xs
noncomputable def minPV : List PV → Option PV
  | [.list ps] => match strsOf ps with
    | some (x :: xs) => some (.str (minL ltStr x xs))
    | _ => none
  | _ => none
theorem minL_snoc {α : Type} (lt : α → α → Bool) : ∀ (l : List α) (b y : α), minL lt b (l ++ [y]) = if lt y (minL lt b l) then y else minL lt b l
  | [], _, _ => rfl
  | _ :: l, _, _ => minL_snoc lt l _ _

theorem argBest_minL {α : Type} (lt : α → α → Bool) (d : α) (xs : List α) (bt : Nat → Nat → Bool) (hbt : ∀ i j a b, xs[i]? = some a → xs[j]? = some b → bt i j = lt a b) (x0 : α) (tl : List α) (hx : xs = x0 :: tl) : ∀ k, k ≤ tl.length → xs[argBest bt k]? = some (minL lt x0 (tl.take k)) ∧ argBest bt k < xs.length
  | 0, _ => by subst hx; exact ⟨rfl, by simp [argBest]⟩
  | k + 1, hk => by
    obtain ⟨ih, ihl⟩ := argBest_minL lt d xs bt hbt x0 tl hx k (by lia)
    have hlt : k < tl.length := hk
    have e1 : xs[k + 1]? = some tl[k] := by subst hx; simp [hlt]
    have e2 : tl.take (k + 1) = tl.take k ++ [tl[k]] := by rw [List.take_succ_eq_append_getElem hlt]
    have hb := hbt (k + 1) (argBest bt k) _ _ e1 ih
    rw [e2, minL_snoc]
    unfold argBest
    rw [hb]
    by_cases hc : lt tl[k] (minL lt x0 (tl.take k)) = true
    · rw [if_pos hc, if_pos hc]
      exact ⟨e1, by subst hx; simp [hlt]⟩
    · rw [if_neg hc, if_neg hc]
      exact ⟨ih, ihl⟩

section
variable {qc : Addr} {F : FM}
theorem strsOf_spec : ∀ {ps : List PV} {xs : List Str} {vs : List Value}, strsOf ps = some xs → RepL qc F ps vs → vs.length = xs.length ∧ ∀ (i : Nat) (v : Value), vs[i]? = some v → ∃ (x : Str) (t : Tok), xs[i]? = some x ∧ v = Value.str x t
  | [], xs, vs, h, r => by cases h; cases r; exact ⟨rfl, fun i v e => by simp at e⟩
  | p :: ps, xs, vs, h, r => by
    cases p <;> first | cases h | skip
    rename_i x
    unfold strsOf at h
    obtain ⟨ys, hy, rfl⟩ := Option.map_eq_some_iff.mp h
    obtain ⟨v, ws, rfl, ⟨t, rfl⟩, r2⟩ := r
    obtain ⟨h1, h2⟩ := strsOf_spec hy r2
    refine ⟨by simp [h1], fun i v e => ?_⟩
    cases i with
    | zero => simp at e; exact ⟨x, t, rfl, e.symm⟩
    | succ i => simpa using h2 i v (by simpa using e)
end

section
variable {W : Wd}

theorem prim_len : PrimOK W lenPV (.builtin "len") := by
  intro ps r h A F s vs hA st _ rs
  cases ps with
  | nil => cases h
  | cons p tl =>
  cases tl with
  | cons _ _ => cases p <;> cases h
  | nil =>
  obtain ⟨v, ws, rfl, rv, rfl⟩ := rs
  cases p with
  | str x =>
    replace h : (if (x.length : Int) < 9223372036854775808 then some (PV.int x.length) else none) = some r := h
    obtain ⟨hc, e⟩ := ite_some h
    cases e
    obtain ⟨t, rfl⟩ := rv
    exact P.len_str (by lia) ⟨F, .tok st, _, rfl⟩
  | list xs =>
    replace h : (if (xs.length : Int) < 2 ^ 63 then some (PV.int xs.length) else none) = some r := h
    obtain ⟨hc, e⟩ := ite_some h
    cases e
    obtain ⟨a, o, vs, n, rfl, e1, e2, e3, rl⟩ := rv
    have en := rl.length
    rw [Array.length_toList] at en
    refine PySem.Calls.call_len_list (isList_rep st e1 e2 e3) (by rw [en]; exact hc) ⟨F, .tok st, s.toks + 1, ?_⟩
    rw [en]
  | tup xs =>
    replace h : (if (xs.length : Int) < 2 ^ 63 then some (PV.int xs.length) else none) = some r := h
    obtain ⟨hc, e⟩ := ite_some h
    cases e
    obtain ⟨a, o, vs, n, rfl, e1, e2, e3, rl⟩ := rv
    have en := rl.length
    rw [Array.length_toList] at en
    refine PyProof.Rows.len_tuple (isTup_rep st e1 e2 e3) (by rw [en]; exact hc) ⟨F, .tok st, s.toks + 1, ?_⟩
    rw [en]
  | _ => cases h

theorem prim_range : PrimOK W rangePV (.type "range") := by
  intro ps r h A F s vs hA st _ rs
  cases ps with
  | nil => cases h
  | cons p tl =>
  cases p <;> first | (cases h; done) | skip
  cases tl with
  | nil =>
    cases h
    obtain ⟨v, ws, rfl, ⟨t, rfl⟩, rfl⟩ := rs
    refine PySem.call_range_1 ⟨F.put s.heap.objs.size _, Grow.put (tk := s.toks + 1 + 1) st (Keep.push _ _) (push_new _) (Heap.get?_push_size _ rfl), _, _, _, _, rfl, FM.put_self _ _ _⟩
  | cons q tl =>
    cases q <;> first | (cases h; done) | skip
    cases tl <;> first | (cases h; done) | skip
    cases h
    obtain ⟨v, ws, rfl, ⟨t, rfl⟩, v2, ws2, rfl, ⟨t2, rfl⟩, rfl⟩ := rs
    refine PySem.call_range_2 ⟨F.put s.heap.objs.size _, Grow.put (tk := s.toks + 1) st (Keep.push _ _) (push_new _) (Heap.get?_push_size _ rfl), _, _, _, _, rfl, FM.put_self _ _ _⟩

theorem prim_divmod : PrimOK W divmodPV (.builtin "divmod") := by
  intro ps r h A F s vs hA st _ rs
  cases ps with
  | nil => cases h
  | cons p tl =>
  cases p <;> first | (cases h; done) | skip
  cases tl with
  | nil => cases h
  | cons q tl =>
  cases q <;> first | (cases h; done) | skip
  cases tl <;> first | (cases h; done) | skip
  obtain ⟨hc, e⟩ := ite_some h
  cases e
  obtain ⟨v, ws, rfl, ⟨t, rfl⟩, v2, ws2, rfl, ⟨t2, rfl⟩, rfl⟩ := rs
  refine PyProof.Rows.divmod_int hc.1 ⟨F.put s.heap.objs.size _, Grow.put (tk := s.toks + 1 + 1) st (Keep.push _ _) (push_new _) (Heap.get?_push_size _ rfl), ?_⟩ (.inl hc.2)
  exact ⟨_, _, _, _, rfl, FM.put_self _ _ _, rfl, rfl, _, _, rfl, ⟨_, rfl⟩, _, _, rfl, ⟨_, rfl⟩, rfl⟩

theorem prim_min : PrimOK W minPV (.builtin "min") := by
  intro ps r h A F s vs hA st _ rs
  unfold minPV at h
  split at h
  · split at h
    · rename_i x xs hx
      cases h
      obtain ⟨v, ws, rfl, ⟨a, o, vs, n, rfl, e1, e2, e3, rl⟩, rfl⟩ := rs
      obtain ⟨hl, hv⟩ := strsOf_spec hx rl
      rw [Array.length_toList] at hl
      have hL := isList_rep st e1 e2 e3
      have hne : a ≠ s.heap.objs.size := by obtain ⟨ob, e, _⟩ := hL; exact Nat.ne_of_lt (Heap.lt_size e)
      refine call_min_walk (wpAny_pyIter_list hL ?_)
      have hlt : a < s.heap.objs.size := by obtain ⟨ob, e, _⟩ := hL; exact Heap.lt_size e
      refine ⟨_, _, _, _, _, _, fun i j => ltStr ((x :: xs).getD i x) ((x :: xs).getD j x), rfl, Walks.list (A := A.in1) hA.handled _ a hne vs, ⟨⟨_, Heap.get?_push_size _ rfl, rfl, rfl⟩, hL.push _⟩, fun b hb => ?_, ?_, ?_, fun v h' tk hP hk => ?_⟩
      · show b < (s.heap.push _).objs.size
        rw [Heap.size_push]
        simp only [List.mem_cons, List.not_mem_nil, or_false] at hb
        rcases hb with rfl | rfl
        · exact Nat.lt_succ_self _
        · exact Nat.lt_succ_of_lt hlt
      · rw [hl]; simp
      · intro i j vi vj s2 Q E hi hj hQ
        obtain ⟨y, t, e, rfl⟩ := hv i vi (by simpa using hi)
        obtain ⟨z, u, e', rfl⟩ := hv j vj (by simpa using hj)
        refine P.lt_str ?_
        have := hQ
        simp only [List.getD_eq_getElem?_getD, e, e', Option.getD_some] at this
        exact this
      · obtain ⟨hb, hbl⟩ := argBest_minL ltStr x (x :: xs) (fun i j => ltStr ((x :: xs).getD i x) ((x :: xs).getD j x)) (fun i j a b ha hb => by simp only [List.getD_eq_getElem?_getD, ha, hb, Option.getD_some]) x xs rfl xs.length (Nat.le_refl _)
        rw [List.take_length] at hb
        have hsz : vs.size - 1 = xs.length := by rw [hl]; rfl
        rw [hsz] at hP
        obtain ⟨y, t, e, rfl⟩ := hv _ v (by rw [Array.getElem?_toList]; exact hP)
        rw [hb] at e
        cases e
        exact ⟨F, Grow.heap st (old_kept hk), t, rfl⟩
    · cases h
  · cases h

end
end Nw

namespace Nw

theorem owner_reversed : Manifest.owners.lookup (String.ofList ['d', 'e', 's', 'r', 'e', 'v', 'e', 'r'].reverse) = some Manifest.sig_reversed := by kernel_rfl
theorem slot_reversed_init : PySem.Slot "reversed" "__init__" "object.__init__" :=
  .of (owner := "object") (n := "__init__") (by rw [typeLookup_type, builtinLookup_eq_fast]; kernel_rfl) (by decide +kernel) (by decide +kernel) (by decide +kernel)
    (by first | exact .inl (by decide +kernel) | exact .inr (by decide +kernel)) (by rw [isSubtype_type]; kernel_rfl)
theorem slot_reversed_next : PySem.Slot "reversed" "__next__" "reversed.__next__" :=
  .of (owner := "reversed") (n := "__next__") (by rw [typeLookup_type, builtinLookup_eq_fast]; kernel_rfl) (by decide +kernel) (by decide +kernel) (by decide +kernel)
    (by first | exact .inl (by decide +kernel) | exact .inr (by decide +kernel)) (by rw [isSubtype_type]; kernel_rfl)
theorem slot_reversed_iter : PySem.Slot "reversed" "__iter__" "reversed.__iter__" :=
  .of (owner := "reversed") (n := "__iter__") (by rw [typeLookup_type, builtinLookup_eq_fast]; kernel_rfl) (by decide +kernel) (by decide +kernel) (by decide +kernel)
    (by first | exact .inl (by decide +kernel) | exact .inr (by decide +kernel)) (by rw [isSubtype_type]; kernel_rfl)
theorem entry_reversed_next : entryFor table "reversed.__next__" = some Builtin.«reversed.__next__» := entryFor_of_tree (by kernel_rfl)
theorem entry_reversed_iter : entryFor table "reversed.__iter__" = some Builtin.«dict_keyiterator.__iter__» :=
  entryFor_alias (id' := "dict_keyiterator.__iter__") (by kernel_rfl) (by first | rfl | decide +kernel | (unfold String.splitOn; simp +decide [String.splitOnAux])) (by decide +kernel) (by kernel_rfl)
theorem args_reversed_next (a : Value) : argsOk "reversed.__next__" ⟨[a], []⟩ := by
  unfold argsOk; rw [signature?_of (id := "reversed.__next__") (n := ['_', '_', 't', 'x', 'e', 'n', '_', '_']) (o := ['d', 'e', 's', 'r', 'e', 'v', 'e', 'r']) (by kernel_rfl) owner_reversed]; kernel_rfl
theorem args_reversed_iter (a : Value) : argsOk "reversed.__iter__" ⟨[a], []⟩ := by
  unfold argsOk; rw [signature?_of (id := "reversed.__iter__") (n := ['_', '_', 'r', 'e', 't', 'i', '_', '_']) (o := ['d', 'e', 's', 'r', 'e', 'v', 'e', 'r']) (by kernel_rfl) owner_reversed]; kernel_rfl
theorem called_reversed : TypeCalled "reversed" "reversed.__new__" "object.__init__" :=
  ⟨by decide +kernel, PySem.F.create_reversed, ⟨_, _, PySem.F.mro_reversed⟩, PySem.F.made_reversed, PySem.F.plain_reversed_new, PySem.F.sub_reversed_self, slot_reversed_init⟩
theorem no_str_reversed : typeLookup (.type "str") "__reversed__" = pure none := by rw [typeLookup_type, builtinLookup_eq_fast]; kernel_rfl

theorem sub_str_dict : isSubtype (.type "str") (.type "dict") = pure false := by rw [isSubtype_type]; kernel_rfl

section
variable {prog : Program} {w : World} {A : Around} {E : Value → Shared → Prop} {s : Shared}

noncomputable def rstrObj (x : Str) (t : Tok) (i : Int) : Obj := { cls := .type "reversed", data := .fields #[.str x t, rawInt i] }

theorem newClass_rev (a : Value) : Builtin.SmallTypes.newClass "reversed" ⟨[.type "reversed", a], []⟩ = pure (.type "reversed", [a]) := by
  unfold Builtin.SmallTypes.newClass
  simp only [isType, PySem.F.sub_reversed_self, pure_bind, Bool.not_true, Bool.false_eq_true, if_false]

theorem meets_reversed_str {x : Str} {t : Tok} (hx : (x.length : Int) < 9223372036854775808) :
    Meets (Builtin.«reversed.__new__» ⟨[.type "reversed", .str x t], []⟩) (fun _ R s => R (.ok (.ret (.ref s.heap.objs.size))) { s with heap := s.heap.push (rstrObj x t ((x.length : Int) - 1)), toks := s.toks + 1 + 1 }) := by
  intro prog w A R s h
  unfold Builtin.«reversed.__new__»
  refine wpAny_bind (wpAny_of_eq (newClass_rev _) ?_)
  try dsimp only
  refine wpAny_bind (wpAny_of_eq (a := ()) (by first | rfl | kernel_rfl) ?_)
  refine wpAny_bind (wpAny_of_eq (a := ()) (by first | rfl | kernel_rfl) ?_)
  try dsimp only
  refine wpAny_bind (wpAny_specialOf (typeIs_str _ _ _) no_str_reversed ?_)
  try dsimp only
  refine wpAny_bind ?_
  show wpAny _ _ (isInstance (.str x t) (.type "dict") >>= _) _ _ s
  refine wpAny_bind (wpAny_isInstance (T := "str") (b := false) (typeIs_str _ _ _) sub_str_dict ?_)
  show wpAny _ _ (specialOf (.str x t) "__getitem__" >>= _) _ _ s
  refine wpAny_bind (wpAny_specialOf (typeIs_str _ _ _) PySem.F.slot_str_getitem.lookup ?_)
  show wpAny _ _ (if (["tuple.__getitem__", "str.__getitem__", "bytes.__getitem__", "bytearray.__getitem__", "memoryview.__getitem__", "numpy.ndarray.__getitem__", "sqlite3.Row.__getitem__"].contains "str.__getitem__") = true then _ else _) _ _ s
  rw [if_pos (by decide +kernel)]
  refine wpAny_pure ?_
  simp only [Bool.not_true, Bool.false_eq_true, if_false]
  refine wpAny_bind (P.len_str (by lia) ?_)
  show wpAny _ _ (asInt? (.int (x.length : Int) _) >>= _) _ _ _
  refine wpAny_bind (wpAny_pure ?_)
  try dsimp only
  show wpAny _ _ (Builtin.SmallTypes.newRecord (.type "reversed") [.str x t, rawInt ((x.length : Int) - 1)] >>= _) _ _ _
  refine wpAny_bind ?_
  unfold Builtin.SmallTypes.newRecord
  dsimp only
  exact wpAny_newObj_type (wpAny_pure h)

theorem call_reversed_str {x : Str} {t : Tok} {Q : Value → Shared → Prop} (hx : (x.length : Int) < 9223372036854775808)
    (h : Q (.ref s.heap.objs.size) { s with heap := s.heap.push (rstrObj x t ((x.length : Int) - 1)), toks := s.toks + 1 + 1 }) : wpAny (model prog w) A (call (.type "reversed") [.str x t]) Q E s := by
  exact callType_new called_reversed (by decide) (PySem.F.typeCall_reversed_1 _) (PySem.F.newCall_reversed_1 _) (fun obj => PySem.F.args_object_init_2 obj _) PySem.F.entry_reversed_new
    (meets_reversed_str hx) ⟨⟨_, Heap.get?_push_size _ rfl, rfl⟩, h⟩

noncomputable def IsRstr (h : Heap) (a : Addr) (x : Str) (t : Tok) (i : Int) : Prop := ∃ o, h.get? a = some o ∧ o.cls = .type "reversed" ∧ o.data = .fields #[.str x t, rawInt i]
theorem IsRstr.typeIs {a : Addr} {x : Str} {t : Tok} {i : Int} (y : IsRstr s.heap a x t i) : s.TypeIs (.ref a) "reversed" := let ⟨o, ho, hc, _⟩ := y; ⟨o, ho, hc⟩

theorem rstr_item {it : Addr} {x : Str} {t : Tok} {i : Nat} {c : Nat} {Q : Option Value → Shared → Prop} (hit : IsRstr s.heap it x t (i : Int)) (hx : x.cps[i]? = some c) (hfit : (i : Int) < 2 ^ 63)
    (hQ : ∀ h' tk u, IsRstr h' it x t ((i : Int) - 1) → Heap.ExtBut it s.heap h' → Q (some (.str ⟨#[c]⟩ u)) { s with heap := h', toks := tk }) : wpAny (model prog w) A (pyNext (.ref it)) Q E s := by
  obtain ⟨o, ho, hc, hd⟩ := id hit
  unfold pyNext
  refine wpAny_bind (wpAny_attempt (wpAny_callSpecial?_slot (name := Str.ofString "__next__") hit.typeIs slot_reversed_next
    (wpAny_call_entry slot_reversed_next hit.typeIs entry_reversed_next ?_ (args_reversed_next _))))
  unfold Builtin.«reversed.__next__»
  refine wpAny_bind (wpAny_of_eq (a := (Value.ref it, [])) rfl ?_)
  try dsimp only
  refine wpAny_bind (wpAny_field ho hd (x := .str x t) rfl ?_)
  refine wpAny_bind (wpAny_field ho hd (x := rawInt (i : Int)) rfl ?_)
  show wpAny _ _ (if (i : Int) < 0 then _ else _) _ _ s
  rw [if_neg (by lia)]
  show wpAny _ _ (specialOf (.str x t) (Str.ofString "__getitem__") >>= _) _ _ s
  refine wpAny_bind (wpAny_specialOf (typeIs_str _ _ _) PySem.F.slot_str_getitem.lookup ?_)
  try dsimp only
  simp only [Option.isNone_some, Bool.false_eq_true, if_false]
  refine wpAny_bind (wpAny_mkInt ?_)
  have hlt : i < x.cps.size := (Array.getElem?_eq_some_iff.mp hx).1
  have hc' : (seqIndex? (i : Int) x.length).bind (x.cps[·]?) = some c := by
    unfold seqIndex?
    have h0 : ¬ (i : Int) < 0 := by lia
    have h1 : (decide ((0 : Int) ≤ (i : Int)) && decide ((i : Int) < (x.length : Int))) = true := by
      have : x.length = x.cps.size := rfl
      simp; lia
    simp only [h0, if_false, h1, if_true, Int.toNat_natCast]
    exact hx
  refine wpAny_bind (wpAny_attempt (P.getItem_str (by simp; lia) hc' ?_))
  try dsimp only
  refine wpAny_bind (wpAny_field ho hd (x := rawInt (i : Int)) rfl ?_)
  try dsimp only [rawInt]
  refine wpAny_bind (wpAny_setField ho hd (by simp) ?_)
  first
  | refine wpAny_pure ⟨_, rfl, wpAny_pure (hQ _ _ _ ?_ (fun b ob hb e => (Heap.get?_update_other _ _ (Ne.symm hb)).trans e))⟩
  | refine wpAny_bind (wpAny_pure (wpAny_pure ⟨_, rfl, wpAny_pure (hQ _ _ _ ?_ (fun b ob hb e => (Heap.get?_update_other _ _ (Ne.symm hb)).trans e))⟩))
  exact ⟨_, Heap.get?_update_self _ ho (Obj.isFreed_of_fields (Obj.data_mapFields hd _)), (Obj.cls_mapFields ..).trans hc, by
    rw [Obj.data_mapFields hd]; simp [rawInt]⟩

theorem rstr_end {it : Addr} {x : Str} {t : Tok} {Q : Option Value → Shared → Prop} (hh : A.handled = none) (hit : IsRstr s.heap it x t (-1))
    (hQ : ∀ h', Heap.ExtBut it s.heap h' → Q none { s with heap := h' }) : wpAny (model prog w) A (pyNext (.ref it)) Q E s := by
  obtain ⟨o, ho, hc, hd⟩ := id hit
  unfold pyNext
  refine wpAny_bind (wpAny_attempt (wpAny_callSpecial?_slot (name := Str.ofString "__next__") hit.typeIs slot_reversed_next
    (wpAny_call_entry slot_reversed_next hit.typeIs entry_reversed_next ?_ (args_reversed_next _))))
  unfold Builtin.«reversed.__next__»
  refine wpAny_bind (wpAny_of_eq (a := (Value.ref it, [])) rfl ?_)
  try dsimp only
  refine wpAny_bind (wpAny_field ho hd (x := .str x t) rfl ?_)
  refine wpAny_bind (wpAny_field ho hd (x := rawInt (-1)) rfl ?_)
  show wpAny _ _ (if (-1 : Int) < 0 then _ else _) _ _ s
  rw [if_pos (by decide)]
  refine wpAny_bind (wpAny_rule ?_)
  refine wpAny_bind ?_
  show wpAny _ _ (setField (.ref it) 1 (rawInt (-1)) >>= fun _ => setField (.ref it) 0 .none) _ _ s
  refine wpAny_bind (wpAny_setField ho hd (by simp) ?_)
  have ho1 := Heap.get?_update_self (h := s.heap) (Obj.mapFields (·.setIfInBounds 1 (rawInt (-1)))) ho (Obj.isFreed_of_fields (Obj.data_mapFields hd _))
  refine wpAny_setField ho1 (Obj.data_mapFields hd _) (by simp) ?_
  show wpAny _ _ ((newExc (.type "StopIteration") [] >>= fun e => raiseNew e) >>= _) _ _ _
  refine wpAny_bind (wpAny_bind ?_)
  simp only [newExc, newTuple]
  refine wpAny_bind (wpAny_newObj_type ?_ (by size_fits))
  refine wpAny_bind (m := firstArgMember _ _) (wpAny_of_eq (a := Value.none) (by first | rfl | (simp only [firstArgMember]; rfl)) ?_)
  refine wpAny_newObj_type ?_ (by size_fits)
  simp only [raiseNew]
  refine wpAny_bind (wpAny_handled ?_)
  first | rw [show A.in1.handled = none from hh] | rw [hh]
  refine wpAny_bind (wpAny_pure (wpAny_throw ?_))
  refine wpAny_bind (wpAny_isInstance (T := "StopIteration") (b := true) ⟨_, Heap.get?_push_size _ rfl, rfl⟩ isSubtype_stop ?_)
  exact wpAny_pure (hQ _ (fun b ob hb e => Heap.get?_push_of_some _ (Heap.get?_push_of_some _ ((Heap.get?_update_other _ _ (Ne.symm hb)).trans ((Heap.get?_update_other _ _ (Ne.symm hb)).trans e)))))

theorem rstr_self {it : Addr} {x : Str} {t : Tok} {i : Int} {Q : Value → Shared → Prop} (hit : IsRstr s.heap it x t i) (h : Q (.ref it) s) : wpAny (model prog w) A (pyIter (.ref it)) Q E s := by
  refine wpAny_pyIter_slot hit.typeIs slot_reversed_iter (wpAny_call_entry slot_reversed_iter hit.typeIs entry_reversed_iter ?_ (args_reversed_iter _))
  show wpAny _ _ (ret (.ref it)) _ _ s
  exact wpAny_pure ⟨_, rfl, "reversed", _, hit.typeIs, slot_reversed_next.lookup, h⟩
end

theorem walks_rstr {prog : Program} {w : World} {A : Around} (hh : A.handled = none) (I : Addr) (x : Str) (t : Tok) (hfit : (x.length : Int) < 2 ^ 63) :
    Walks prog w A I [I] [I] x.cps.size (fun i v => ∃ c u, x.cps[x.cps.size - 1 - i]? = some c ∧ v = .str ⟨#[c]⟩ u) (fun i h => i ≤ x.cps.size ∧ IsRstr h I x t ((x.cps.size : Int) - 1 - (i : Int))) where
  sub := fun b hb => hb
  frame := fun _ _ _ y hk => ⟨y.1, let ⟨o, e, r⟩ := y.2; ⟨o, hk I (by simp) o e, r⟩⟩
  item := fun i s Q E hi y hQ => by
    have e : (x.cps.size : Int) - 1 - (i : Int) = ((x.cps.size - 1 - i : Nat) : Int) := by lia
    have hit := y.2
    rw [e] at hit
    have hx : x.cps[x.cps.size - 1 - i]? = some (x.cps[x.cps.size - 1 - i]'(by lia)) := Array.getElem?_eq_getElem (by lia)
    have hl : x.length = x.cps.size := rfl
    refine rstr_item hit hx (by lia) fun h' tk u hit' hs' => ?_
    have e2 : ((x.cps.size - 1 - i : Nat) : Int) - 1 = (x.cps.size : Int) - 1 - ((i + 1 : Nat) : Int) := by lia
    rw [e2] at hit'
    exact hQ _ h' tk ⟨_, u, hx, rfl⟩ ⟨hi, hit'⟩ fun b o hb eo => hs' b o (fun h => hb (by simp [h])) eo
  done := fun s Q E y hQ => by
    have e : (x.cps.size : Int) - 1 - (x.cps.size : Int) = -1 := by lia
    have hit := y.2
    rw [e] at hit
    exact rstr_end hh hit fun h' he' => hQ h' s.toks fun b o hb eo => he' b o (fun h => hb (by simp [h])) eo
  self := fun _ _ _ _ y hQ => rstr_self y.2 hQ

/-- `reversed` of a text: what it walks -/
noncomputable def revPV : List PV → Option (List PV)
  | [.str x] => if (x.length : Int) < 9223372036854775808 then some (x.cps.toList.reverse.map fun c => .str ⟨#[c]⟩) else none
  | _ => none

theorem itc_reversed {W : Wd} : ∀ ps items, revPV ps = some items → ∀ (A : Around) (F : FM) (s : Shared) (vs : List Value), Amb A 0 → Sits F s.heap → Keep W.hB s.heap → RepL W.qc F ps vs →
    wpAny W.M A (call (.type "reversed") vs) (fun r s1 => wpAny W.M A (pyIter r) (NewIter W F s items) NoE s1) NoE s := by
  intro ps items h A F s vs hA st _ rs
  unfold revPV at h
  split at h
  · split at h
    · rename_i x hx
      cases h
      obtain ⟨v, ws, rfl, ⟨t, rfl⟩, rfl⟩ := rs
      refine call_reversed_str hx (rstr_self ⟨_, Heap.get?_push_size _ rfl, rfl, rfl⟩ ?_)
      have hn : F s.heap.objs.size = none := by
        cases q : F s.heap.objs.size with
        | none => rfl
        | some o => have := st _ _ q; rw [push_new] at this; cases this
      have hlen : (x.cps.toList.reverse.map fun c => PV.str ⟨#[c]⟩).length = x.cps.size := by simp
      refine ⟨_, F, rfl, Grow.heap st (Keep.push _ _), push_new _, _, _, _, ⟨fun A hA => hlen ▸ walks_rstr hA s.heap.objs.size x t (by lia), ?_, ?_, ?_⟩, ?_, hn⟩
      · rintro i h ⟨_, o, e, c, fd⟩
        exact ⟨o, _, _, e, c, by decide, fd⟩
      · intro b hb hne
        exact absurd (by simpa using hb) hne
      · rintro j v hj ⟨c, u, e, rfl⟩
        refine ⟨.str ⟨#[c]⟩, ?_, u, rfl⟩
        rw [hlen] at hj e
        rw [List.getElem?_map, List.getElem?_reverse (by simpa using hj), Array.length_toList, Array.getElem?_toList, e]
        rfl
      · refine ⟨Nat.zero_le _, _, Heap.get?_push_size _ rfl, rfl, ?_⟩
        show Data.fields #[.str x t, rawInt ((x.length : Int) - 1)] = _
        have : x.length = x.cps.size := rfl
        rw [this]; simp
    · cases h
  · cases h
end Nw

namespace Nw

/-- a built-in method's contract -/
structure MethOK (W : Wd) (m : Str) (g : PV → List PV → Option PV) (T : String) (id : String) : Prop where
  plain : PlainAttrs T
  slot : PySem.Slot T m id
  ty : typeOf (.builtin id) = pure (.type "method_descriptor")
  is : ∀ p ps r, g p ps = some r → ∀ (F : FM) (s : Shared) (v : Value), Sits F s.heap → Rep W.qc F p v → s.TypeIs v T ∧ ∀ a, v = .ref a → ∃ ob, s.heap.get? a = some ob ∧ ob.dict = none
  call : ∀ p ps r, g p ps = some r → ∀ (A : Around) (F : FM) (s : Shared) (v : Value) (vs : List Value), Amb A 0 → Sits F s.heap → Keep W.hB s.heap → Rep W.qc F p v → RepL W.qc F ps vs → Ev W.qc W.M A F s (PySem.call (.builtin id) (v :: vs)) r

noncomputable def joinPV : PV → List PV → Option PV
  | .str x, [.list ps] => (strsOf ps).bind fun ys => if (ys.map (·.length)).sum + ys.length * x.length ≤ 16777216 then some (.str (Txt.join x ys)) else none
  | .str x, [.tup ps] => (strsOf ps).bind fun ys => if (ys.map (·.length)).sum + ys.length * x.length ≤ 16777216 then some (.str (Txt.join x ys)) else none
  | _, _ => none
noncomputable def countPV : PV → List PV → Option PV
  | .str x, [.str y] => some (.int (Txt.count x y))
  | _, _ => none
noncomputable def isspacePV : PV → List PV → Option PV
  | .str x, [] => some (.bool (Txt.isspace x))
  | _, _ => none
noncomputable def zfillPV : PV → List PV → Option PV
  | .str x, [.int i] => if PadOk i then some (.str (Txt.zfill x i)) else none
  | _, _ => none
noncomputable def bitlenPV : PV → List PV → Option PV
  | .int a, [] => some (.int (Builtin.Int.intBits a))
  | _, _ => none
noncomputable def strPV : List PV → Option PV
  | [.int a] => if a.natAbs.log2 < 1920 then some (.str (toString a)) else none
  | [.list xs] => if isDatas xs && (toPy (.list xs)).showable && !(toPy (.list xs)).hasDict && decide ((toPy (.list xs)).depth ≤ 60) && decide ((toPy (.list xs)).shown.length ≤ sizeLine) then some (.str (toPy (.list xs)).shown) else none
  | _ => none

theorem strsAre_of {qc : Addr} {F : FM} : ∀ {ps : List PV} {xs : List Str} {vs : List Value}, strsOf ps = some xs → RepL qc F ps vs → StrsAre vs xs
  | [], xs, vs, h, r => by cases h; cases r; exact .nil
  | p :: ps, xs, vs, h, r => by
    cases p <;> first | cases h | skip
    rename_i x
    unfold strsOf at h
    obtain ⟨ys, hy, rfl⟩ := Option.map_eq_some_iff.mp h
    obtain ⟨v, ws, rfl, ⟨t, rfl⟩, r2⟩ := r
    exact .cons x t (strsAre_of hy r2)

section
variable {W : Wd}
theorem str_is {F : FM} {s : Shared} {v : Value} {x : Str} (r : Rep W.qc F (.str x) v) : s.TypeIs v "str" ∧ ∀ a, v = .ref a → ∃ ob, s.heap.get? a = some ob ∧ ob.dict = none := by
  obtain ⟨t, rfl⟩ := r
  exact ⟨typeIs_str _ _ _, fun a h => by cases h⟩

theorem meth_join : MethOK W "join" joinPV "str" "str.join" where
  plain := PySem.F.plainAttrs_str
  slot := PySem.F.slot_str_join
  ty := PySem.F.type_str_join
  is := fun p ps r h F s v _ rp => by
    cases p <;> first | exact str_is rp | cases h
  call := fun p ps r h A F s v vs hA st _ rp rs => by
    cases p <;> first | (cases h; done) | skip
    obtain ⟨t, rfl⟩ := rp
    cases ps with
    | nil => cases h
    | cons q tl =>
    obtain ⟨u, ws, rfl, rq, rw⟩ := rs
    cases q <;> first | (cases h; done) | skip
    · cases tl <;> first | (cases h; done) | skip
      obtain ⟨ys, hy, h⟩ := Option.bind_eq_some_iff.mp h
      obtain ⟨hok, e⟩ := ite_some h
      cases e; cases rw
      obtain ⟨a, o, us, n, rfl, e1, e2, e3, rl⟩ := rq
      exact PyProof.Rows.join_tuple (isTup_rep st e1 e2 e3) (strsAre_of hy rl) hok fun t' k => ⟨F, .tok st, t', rfl⟩
    · cases tl <;> first | (cases h; done) | skip
      obtain ⟨ys, hy, h⟩ := Option.bind_eq_some_iff.mp h
      obtain ⟨hok, e⟩ := ite_some h
      cases e; cases rw
      obtain ⟨a, o, us, n, rfl, e1, e2, e3, rl⟩ := rq
      exact PyProof.Rows.join_list (isList_rep st e1 e2 e3) (strsAre_of hy rl) hok fun t' k => ⟨F, .tok st, t', rfl⟩

theorem meth_count : MethOK W "count" countPV "str" "str.count" where
  plain := PySem.F.plainAttrs_str
  slot := PySem.F.slot_str_count
  ty := PySem.F.type_str_count
  is := fun p ps r h F s v _ rp => by
    cases p <;> first | exact str_is rp | cases h
  call := fun p ps r h A F s v vs hA st _ rp rs => by
    cases p <;> first | (cases h; done) | skip
    cases ps with
    | nil => cases h
    | cons q tl =>
    cases q <;> first | (cases h; done) | skip
    cases tl <;> first | (cases h; done) | skip
    cases h
    obtain ⟨t, rfl⟩ := rp
    obtain ⟨u, ws, rfl, ⟨t2, rfl⟩, rfl⟩ := rs
    exact SC.count ⟨F, .tok st, _, rfl⟩

theorem meth_isspace : MethOK W "isspace" isspacePV "str" "str.isspace" where
  plain := PySem.F.plainAttrs_str
  slot := PySem.F.slot_str_isspace
  ty := PySem.F.type_str_isspace
  is := fun p ps r h F s v _ rp => by
    cases p <;> first | exact str_is rp | cases h
  call := fun p ps r h A F s v vs hA st _ rp rs => by
    cases p <;> first | (cases h; done) | skip
    cases ps <;> first | (cases h; done) | skip
    cases h
    obtain ⟨t, rfl⟩ := rp
    cases rs
    exact SC.isspace ⟨F, .refl st, rfl⟩

theorem meth_zfill : MethOK W "zfill" zfillPV "str" "str.zfill" where
  plain := PySem.F.plainAttrs_str
  slot := PySem.F.slot_str_zfill
  ty := PySem.F.type_str_zfill
  is := fun p ps r h F s v _ rp => by
    cases p <;> first | exact str_is rp | cases h
  call := fun p ps r h A F s v vs hA st _ rp rs => by
    cases p <;> first | (cases h; done) | skip
    rename_i x
    cases ps with
    | nil => cases h
    | cons q tl =>
    cases q <;> first | (cases h; done) | skip
    rename_i i
    cases tl <;> first | (cases h; done) | skip
    replace h : (if PadOk i then some (PV.str (Txt.zfill x i)) else none) = some r := h
    obtain ⟨hok, e⟩ := ite_some h
    cases e
    obtain ⟨t, rfl⟩ := rp
    obtain ⟨u, ws, rfl, ⟨t2, rfl⟩, rfl⟩ := rs
    exact SC.zfill hok fun t' k => ⟨F, .tok st, t', rfl⟩

theorem meth_bitlen : MethOK W "bit_length" bitlenPV "int" "int.bit_length" where
  plain := PySem.F.plainAttrs_int
  slot := PySem.F.slot_int_bit_length
  ty := PySem.F.type_int_bit_length
  is := fun p ps r h F s v _ rp => by
    cases p <;> first | (cases h; done) | skip
    obtain ⟨t, rfl⟩ := rp
    exact ⟨typeIs_int _ _ _, fun a h => by cases h⟩
  call := fun p ps r h A F s v vs hA st _ rp rs => by
    cases p <;> first | (cases h; done) | skip
    cases ps <;> first | (cases h; done) | skip
    cases h
    obtain ⟨t, rfl⟩ := rp
    cases rs
    exact call_int_bit_length ⟨F, .tok st, _, rfl⟩

theorem prim_str : PrimOK W strPV (.type "str") := by
  intro ps r h A F s vs hA st _ rs
  unfold strPV at h
  split at h
  · split at h
    · rename_i hc
      cases h
      obtain ⟨v, ws, rfl, ⟨t, rfl⟩, rfl⟩ := rs
      exact P.str_of_int hc ⟨F, .tok st, _, rfl⟩
    · cases h
  · split at h
    · rename_i xs hc
      cases h
      simp only [Bool.and_eq_true, Bool.not_eq_true', decide_eq_true_eq] at hc
      obtain ⟨⟨⟨⟨h1, h2⟩, h3⟩, h4⟩, h5⟩ := hc
      obtain ⟨v, ws, rfl, rp, rfl⟩ := rs
      obtain ⟨as, rd⟩ := Rep.reads (p := .list xs) st h1 rp
      obtain ⟨a, o, us, n, rfl, e1, e2, e3, rl⟩ := rp
      refine str_of_reads rd h2 (fun h => by rw [h3] at h; cases h) hA.guards (by have := hA.units; lia) (fun _ _ e => e) (fun h' u tk hk => ⟨F, Grow.heap st hk, u, rfl⟩) h5
    · cases h
  · cases h
end
end Nw

namespace Nw

/-! making an instance of a class below `list` -/
noncomputable def makesLIn (K : Frag) (C : Addr) : Bool := match K.lookup C with
  | some ⟨_, _, .cls cd, sl⟩ => !cd.hasDel && (sl.toList[4]?).join == some (.builtin "list.__new__") && !cd.mro.isEmpty && cd.mro.contains (.ref C) && cd.mro.contains (.type "list") &&
      specialIn K (.ref C) "__call__" == some (some (.builtin "type.__call__")) && instIn K (.ref C) (.type "type") == some true
  | _ => false
structure MakesL (M : Model) (h : Heap) (C : Addr) : Prop where
  obj : ∃ oc od cd sl, h.get? C = some ⟨oc, od, .cls cd, sl⟩ ∧ cd.hasDel = false ∧ cd.mro.isEmpty = false
  made : Looks M h (Bind.madeBy (.ref C)) (some "list.__new__")
  base : Looks M h (Bind.staticBase (.ref C)) (.ref C)
  self : Looks M h (isSubtype (.ref C) (.ref C)) true
  top : Looks M h (isSubtype (.ref C) (.type "list")) true
  call : Looks M h (specialOf (.ref C) "__call__") (some (.builtin "type.__call__"))
  typ : Looks M h (isInstance (.ref C) (.type "type")) true
theorem makesL_of {K : Frag} {M : Model} {h : Heap} (X : K.In h) {C : Addr} (e : makesLIn K C = true) : MakesL M h C := by
  unfold makesLIn at e
  split at e
  · rename_i oc od cd sl ho
    simp only [Bool.and_eq_true, Bool.not_eq_true', beq_iff_eq] at e
    obtain ⟨⟨⟨⟨⟨⟨e2, e3⟩, e4⟩, e5⟩, e6⟩, e7⟩, e8⟩ := e
    have hc : clsIn K C = some cd := by unfold clsIn; rw [ho]
    have hm : Looks M h (mroOf (.ref C)) cd.mro := (looks_clsIn X hc).andThen .now
    obtain ⟨c, l, hl⟩ : ∃ c l, cd.mro = c :: l := by cases q : cd.mro with | nil => rw [q] at e4; cases e4 | cons c l => exact ⟨c, l, rfl⟩
    have made : Looks M h (Bind.madeBy (.ref C)) (some "list.__new__") := by
      intro A Q E s k q
      unfold Bind.madeBy
      refine wpAny_bind (hm A _ E s k ?_)
      rw [hl, List.forIn_cons]
      refine wpAny_bind (wpAny_bind (wpAny_bind (wpAny_bind (wpAny_loadPart (k _ _ (X _ _ ho)) (wpAny_pure ?_)))))
      dsimp only
      rw [← Array.getElem?_toList, e3]
      exact wpAny_pure (wpAny_pure (wpAny_pure q))
    refine ⟨⟨oc, od, cd, sl, X _ _ ho, e2, e4⟩, made, ?_, looks_mroIn X ?_, looks_mroIn X ?_, looks_specialIn X e7, looks_instIn X e8⟩
    · intro A Q E s k q
      unfold Bind.staticBase
      refine wpAny_bind (hm A _ E s k ?_)
      rw [hl, List.forIn_cons]
      exact wpAny_bind (wpAny_bind (wpAny_bind (made A _ E s k (wpAny_pure (wpAny_pure (wpAny_pure q))))))
    · unfold mroIn; rw [hc, Option.bind_some, if_neg (by rw [e4]; decide), e5]
    · unfold mroIn; rw [hc, Option.bind_some, if_neg (by rw [e4]; decide), e6]
  · cases e

noncomputable abbrev listInst (C dx : Addr) : Obj := { cls := .ref C, dict := some dx, data := .seq #[] }

theorem split_list_new : splitId "list.__new__" = some ("list", "__new__") := by decide +kernel
theorem kind_list_new : builtinKind "list.__new__" = some .builtinFn := by decide +kernel

noncomputable def sigLN : Manifest.Signature := { machinery := .any, full := "list", short := "list", receiver := .cls, params := [{ name := "args", kind := .varPos, required := false }, { name := "kwargs", kind := .varKw, required := false }] }
theorem sig_list_new : Manifest.signature? "list.__new__" = some sigLN := by kernel_rfl

section
variable {prog : Program} {w : World} {A : Around} {C : Addr} {R : Result → Shared → Prop} {h : Heap} {g : Array GenState} {d : Drawn} {t : Nat} {os : OsState}

theorem newL_K {rest : List Value} (Y : MakesL (model prog w) h C)
    (hq : R (.ok (.ret (.ref (h.objs.size + 1)))) ⟨(h.push emptyDict).push (listInst C h.objs.size), g, d, t, os⟩) :
    codeAny (model prog w) A (.call (.builtin "list.__new__") ⟨.ref C :: rest, []⟩) R ⟨h, g, d, t, os⟩ := by
  obtain ⟨⟨oc, od, cd, sl, hC, e2, e4⟩, made, base, self, top, call, typ⟩ := Y
  refine codeAny_call_builtin_code (Code.quiet_builtin _ (by decide +kernel)) ?_
  simp only [checkBuiltinCall, kind_list_new, split_list_new]
  have args : Bind.checkArgs "list.__new__" sigLN ⟨.ref C :: rest, []⟩ = pure () := by kernel_rfl
  rw [sig_list_new]
  dsimp only
  rw [args]
  repeat (first | simp only [bne_self_eq_false, Bool.false_eq_true, if_false] | lk)
  refine codeAny_builtin_stack PySem.F.entry_list_new rfl fun p st => ?_
  rw [Around.under_plainId PySem.F.plain_list_new _]
  have hown := owner_list_new
  simp only [hown]
  repeat (first | simp only [Bool.not_true, Bool.false_eq_true, if_false] | lk)
  refine nd_load (Heap.get?_push_of_some _ (Heap.get?_push_of_some _ hC)) (wpAny_pure ?_)
  dsimp only
  rw [e2]
  refine wpAny_pure ?_
  simp only [Bool.false_eq_true, if_false]
  refine wpAny_pure (wpAny_pure ?_)
  show R _ _
  rw [Heap.size_push]
  exact hq

theorem makeL_core {rest : List Value} {init : Value} (Y : MakesL (model prog w) h C) (hi : Looks (model prog w) h (typeLookup (.ref C) "__init__") (some init))
    (hb : ∀ self, Looks (model prog w) h (bindSpecial init self) (init, [self]))
    (hq : codeAny (model prog w) (A.under (.builtin "type.__call__" ⟨.ref C :: rest, []⟩)) (.call init ⟨.ref (h.objs.size + 1) :: rest, []⟩) (InitBack (h.objs.size + 1) R) ⟨(h.push emptyDict).push (listInst C h.objs.size), g, d, t, os⟩) :
    codeAny (model prog w) A (.call (.ref C) ⟨rest, []⟩) R ⟨h, g, d, t, os⟩ := by
  have Y' := Y
  obtain ⟨⟨oc, od, cd, sl, hC, e2, e4⟩, made, base, self, top, call, typ⟩ := Y
  refine codeAny_of_tree ?_
  show wpAny _ _ (callAny (.ref C) _) _ _ _
  refine nd_load hC ?_
  show wpAny _ _ (callAny.viaDunder (.ref C) _) _ _ _
  unfold callAny.viaDunder
  refine wpAny_bind (call.at ?_)
  dsimp only
  rw [tc_bind]
  refine wpAny_bind (wpAny_pure (wpAny_bind (wpAny_pure ?_)))
  refine wpAny_pure (a := Fin.again (.call (.builtin "type.__call__") ⟨.ref C :: rest, []⟩)) (And.intro rfl ?_)
  refine codeAny_call_builtin_at (Code.quiet_builtin _ (by decide +kernel)) entry_typeCall (check_slot tc_kind tc_split typ (tc_args _ _ _) ?_)
  unfold Builtin.«type.__call__»
  have hm : Looks (model prog w) h (mroOf (.ref C)) cd.mro := ((Looks.ld (part := none) hC).andThen .now).andThen .now
  repeat (first | simp only [e4, Bool.false_eq_true, if_false] | with_reducible refine wpAny_call ?_ | lk)
  refine newL_K Y' ?_
  have k : ∀ b o, h.get? b = some o → ((h.push emptyDict).push (listInst C h.objs.size)).get? b = some o := fun b o e => Heap.get?_push_of_some _ (Heap.get?_push_of_some _ e)
  have hx : ((h.push emptyDict).push (listInst C h.objs.size)).get? (h.objs.size + 1) = some (listInst C h.objs.size) := by heap_get
  have t1 : Looks (model prog w) ((h.push emptyDict).push (listInst C h.objs.size)) (typeOf (.ref (h.objs.size + 1))) (.ref C) := (Looks.ld hx).andThen .now
  have s1 := self.keeps k
  have i1 := hi.keeps k
  have b1 := (hb (.ref (h.objs.size + 1))).keeps k
  unfold isInstance callSpecial? specialOf
  repeat (first | with_reducible refine wpAny_call ?_ | lk)
  refine codeAny_mono hq fun r s' z => ?_
  rcases r with e | (v | _ | _ | _) <;> first | exact z | exact z.elim | skip
  obtain ⟨rfl, z⟩ := z
  exact wpAny_pure (wpAny_pure z)
end
end Nw

namespace Nw
set_option tactic.hygienic false

/-! a built-in method of `list` by way of `super()` -/
theorem slot_md_get : PySem.Slot "method_descriptor" "__get__" "method_descriptor.__get__" := .of (owner := "method_descriptor") (n := "__get__") (by rw [typeLookup_type, builtinLookup_eq_fast]; kernel_rfl) (by decide +kernel) (by decide +kernel) (by decide +kernel)
  (by first | exact .inl (by decide +kernel) | exact .inr (by decide +kernel)) (by rw [isSubtype_type]; kernel_rfl)
theorem entry_md_get : entryFor table "method_descriptor.__get__" = some Builtin.«method_descriptor.__get__» := entryFor_of_tree (by kernel_rfl)
theorem args_md_get (a b c : Value) : argsOk "method_descriptor.__get__" ⟨[a, b, c], []⟩ := by unfold argsOk; kernel_rfl
theorem slot_wd_get : PySem.Slot "wrapper_descriptor" "__get__" "wrapper_descriptor.__get__" := .of (owner := "wrapper_descriptor") (n := "__get__") (by rw [typeLookup_type, builtinLookup_eq_fast]; kernel_rfl) (by decide +kernel) (by decide +kernel) (by decide +kernel)
  (by first | exact .inl (by decide +kernel) | exact .inr (by decide +kernel)) (by rw [isSubtype_type]; kernel_rfl)
theorem entry_wd_get : entryFor table "wrapper_descriptor.__get__" = some Builtin.«wrapper_descriptor.__get__» := entryFor_of_tree (by kernel_rfl)
theorem args_wd_get (a b c : Value) : argsOk "wrapper_descriptor.__get__" ⟨[a, b, c], []⟩ := by unfold argsOk; kernel_rfl
theorem type_list_len : typeOf (.builtin "list.__len__") = pure (.type "wrapper_descriptor") := by show builtinType _ = _; rw [builtinType_eq_fast]; kernel_rfl
theorem type_list_init : typeOf (.builtin "list.__init__") = pure (.type "wrapper_descriptor") := by show builtinType _ = _; rw [builtinType_eq_fast]; kernel_rfl

noncomputable abbrev boundObj (T id : String) (x : Addr) : Obj := { cls := .type T, dict := none, data := .fields #[.builtin id, .ref x], slots := #[] }
noncomputable abbrev superObj (D x C : Addr) : Obj := { cls := .type "super", dict := none, data := .fields #[.ref D, .ref x, .ref C], slots := #[] }

section
variable {prog : Program} {w : World} {A : Around} {E : Value → Shared → Prop} {h : Heap} {g : Array GenState} {d : Drawn} {t : Nat} {os : OsState}

/-- binding a method of list to an instance -/
theorem md_get {id : String} {x C : Addr} {Q : Value → Shared → Prop} {s : Shared} (hty : s.TypeIs (.builtin id) "method_descriptor") (htold : Manifest.toldItsClass.contains id = false) (hcut : (let parts := id.cutAt '.'; (".".intercalate parts.dropLast, parts.getLastD "")).1 = "list")
    (hin : Looks (model prog w) s.heap (isInstance (.ref x) (.type "list")) true)
    (hq : Q (.ref s.heap.objs.size) { s with heap := s.heap.push (boundObj "builtin_function_or_method" id x) }) :
    wpAny (model prog w) A (call (.builtin "method_descriptor.__get__") [.builtin id, .ref x, .ref C]) Q E s := by
  refine wpAny_call_entry slot_md_get hty entry_md_get ?_ (args_md_get _ _ _)
  unfold Builtin.«method_descriptor.__get__»
  refine wpAny_bind (wpAny_pure (a := (Value.builtin id, some (Value.ref x), some (Value.ref C))) ?_)
  dsimp only
  rw [htold]
  simp only [Bool.false_eq_true, if_false]
  show wpAny _ _ (_ >>= fun _ => newFields "builtin_function_or_method" [.builtin id, .ref x] >>= ret) _ _ _
  refine wpAny_bind ?_
  show wpAny _ _ ((_ : Sem (Str × Value)) >>= _) _ _ _
  refine wpAny_bind ?_
  show wpAny _ _ (pure (Str.ofString (let parts := id.cutAt '.'; (".".intercalate parts.dropLast, parts.getLastD "")).2, Value.type (let parts := id.cutAt '.'; (".".intercalate parts.dropLast, parts.getLastD "")).1)) _ _ _
  refine wpAny_pure ?_
  dsimp only at hcut ⊢
  rw [hcut]
  refine wpAny_bind (hin.here ?_)
  simp only [Bool.not_true, Bool.false_eq_true, if_false]
  refine wpAny_pure (wpAny_bind ?_)
  exact wpAny_newObj_type (wpAny_pure ⟨_, rfl, hq⟩)

theorem wd_get {id : String} {x C : Addr} {Q : Value → Shared → Prop} {s : Shared} (hty : s.TypeIs (.builtin id) "wrapper_descriptor") (hcut : (let parts := id.cutAt '.'; (".".intercalate parts.dropLast, parts.getLastD "")).1 = "list")
    (hin : Looks (model prog w) s.heap (isInstance (.ref x) (.type "list")) true)
    (hq : Q (.ref s.heap.objs.size) { s with heap := s.heap.push (boundObj "method-wrapper" id x) }) :
    wpAny (model prog w) A (call (.builtin "wrapper_descriptor.__get__") [.builtin id, .ref x, .ref C]) Q E s := by
  refine wpAny_call_entry slot_wd_get hty entry_wd_get ?_ (args_wd_get _ _ _)
  unfold Builtin.«wrapper_descriptor.__get__»
  refine wpAny_bind (wpAny_pure (a := (Value.builtin id, some (Value.ref x), some (Value.ref C))) ?_)
  dsimp only
  show wpAny _ _ (_ >>= fun _ => newFields "method-wrapper" [.builtin id, .ref x] >>= ret) _ _ _
  refine wpAny_bind ?_
  show wpAny _ _ ((_ : Sem (Str × Value)) >>= _) _ _ _
  refine wpAny_bind ?_
  show wpAny _ _ (pure (Str.ofString (let parts := id.cutAt '.'; (".".intercalate parts.dropLast, parts.getLastD "")).2, Value.type (let parts := id.cutAt '.'; (".".intercalate parts.dropLast, parts.getLastD "")).1)) _ _ _
  refine wpAny_pure ?_
  dsimp only at hcut ⊢
  rw [hcut]
  refine wpAny_bind (hin.here ?_)
  simp only [Bool.not_true, Bool.false_eq_true, if_false]
  refine wpAny_pure (wpAny_bind ?_)
  exact wpAny_newObj_type (wpAny_pure ⟨_, rfl, hq⟩)

theorem super_ga_b {so D x C : Addr} {id T gid BT : String} {l₀ l : List Value} {K : Frag} {name : Str} {tk : Tok} {Q : Fin → Shared → Prop}
    (hso : h.get? so = some (superObj D x C)) (hno : Looks (model prog w) h (opaqueClassAbove (.ref C)) none)
    (hC : Looks (model prog w) h (mroOf (.ref C)) l₀) (hl : (l₀.dropWhile (· != .ref D)).drop 1 = l) (X : K.In h)
    (hf : alongIn K name l = some (some (.builtin id))) (hty : typeOf (.builtin id) = pure (.type T)) (hget : typeLookup (.type T) "__get__" = pure (some (.builtin gid))) (hxC : x ≠ C) (hn : (name == ("__class__" : Str)) = false)
    (hg : ∀ (A : Around) (Q' : Value → Shared → Prop) (E' : Value → Shared → Prop), Q' (.ref h.objs.size) ⟨h.push (boundObj BT id x), g, d, t, os⟩ → wpAny (model prog w) A (call (.builtin gid) [.builtin id, .ref x, .ref C]) Q' E' ⟨h, g, d, t, os⟩)
    (hq : Q (.done (.ret (.ref h.objs.size))) ⟨h.push (boundObj BT id x), g, d, t, os⟩) :
    wpAny (model prog w) A (Builtin.«super.__getattribute__» ⟨[.ref so, .str name tk], []⟩) Q E ⟨h, g, d, t, os⟩ := by
  have hne : (Value.ref x == Value.ref C) = false := by simp [hxC]
  have hdt : (superObj D x C).data = .fields #[.ref D, .ref x, .ref C] := rfl
  have f0 : (#[.ref D, .ref x, .ref C] : Array Value)[0]? = some (.ref D) := rfl
  have f1 : (#[.ref D, .ref x, .ref C] : Array Value)[1]? = some (.ref x) := rfl
  have f2 : (#[.ref D, .ref x, .ref C] : Array Value)[2]? = some (.ref C) := rfl
  unfold Builtin.«super.__getattribute__»
  repeat (first
    | (with_reducible refine wpAny_field hso hdt f0 ?_) | (with_reducible refine wpAny_field hso hdt f1 ?_) | (with_reducible refine wpAny_field hso hdt f2 ?_)
    | (with_reducible refine ks_wpAny_notOpaque hno ?_)
    | (with_reducible refine Looks.at hC ?_; rw [hl])
    | (refine ks_forIn_along X (fun _ _ => rfl) rfl ?_ hf)
    | (rw [hty])
    | (with_reducible refine wpAny_of_eq hget ?_)
    | (with_reducible refine hg _ _ _ ?_)
    | (with_reducible refine ⟨_, rfl, ?_⟩)
    | (simp only [hn, hne, Bool.or_false, Bool.false_eq_true, if_false])
    | wp_step
    | dsimp only)
  all_goals exact hq

theorem getMethod_super_b {so D x C : Addr} {id T gid BT : String} {l₀ l : List Value} {K : Frag} {name : Str} {pl : Sem Bool} {Q : Value × List Value → Shared → Prop}
    (hso : h.get? so = some (superObj D x C)) (hno : Looks (model prog w) h (opaqueClassAbove (.ref C)) none)
    (hC : Looks (model prog w) h (mroOf (.ref C)) l₀) (hl : (l₀.dropWhile (· != .ref D)).drop 1 = l) (X : K.In h)
    (hf : alongIn K name l = some (some (.builtin id))) (hty : typeOf (.builtin id) = pure (.type T)) (hget : typeLookup (.type T) "__get__" = pure (some (.builtin gid))) (hxC : x ≠ C) (hn : (name == ("__class__" : Str)) = false)
    (hg : ∀ (A : Around) (t : Nat) (Q' : Value → Shared → Prop) (E' : Value → Shared → Prop), Q' (.ref h.objs.size) ⟨h.push (boundObj BT id x), g, d, t, os⟩ → wpAny (model prog w) A (call (.builtin gid) [.builtin id, .ref x, .ref C]) Q' E' ⟨h, g, d, t, os⟩)
    (hq : Q (.ref h.objs.size, []) ⟨h.push (boundObj BT id x), g, d, t + 1, os⟩) :
    wpAny (model prog w) A (getMethod (.ref so) name pl) Q E ⟨h, g, d, t, os⟩ := by
  have hlk := PySem.F.ks_slot_super_ga.lookup
  have hcan := PySem.F.ks_canon_super_ga
  have hT : ∀ t', (⟨h, g, d, t', os⟩ : Shared).TypeIs (.ref so) "super" := fun _ => ⟨_, hso, rfl⟩
  unfold getMethod
  refine wpAny_bind (wpAny_specialOf (hT _) hlk ?_)
  show wpAny _ _ (if (Manifest.canonical "super.__getattribute__" != "object.__getattribute__") = true then _ else _) _ _ _
  rw [if_pos hcan]
  unfold getAttr getAttrBy
  refine wpAny_bind (wpAny_bind (wpAny_mkText (wpAny_holding (wpAny_bind (wpAny_typeOf (hT _) (wpAny_bind (wpAny_of_eq hlk ?_)))))))
  show wpAny _ _ (getAttrByItsOwn (.ref so) (.str name t) (.type "super") (.builtin "super.__getattribute__") true false) _ _ _
  unfold getAttrByItsOwn hookBefore callGetattribute boundAndCalled
  refine wpAny_bind (wpAny_of_eq (show (if onTheHeap (.type "super") then typeLookup (.type "super") "__getattr__" else pure none) = pure none from rfl) ?_)
  refine wpAny_bind (wpAny_attempt (wpAny_holding ?_))
  show wpAny _ _ (bindSpecial (.builtin "super.__getattribute__") (.ref so) >>= _) _ _ _
  refine wpAny_bind (wpAny_of_eq (PySem.F.ks_slot_super_ga.bind _) ?_)
  refine wpAny_mono (Q := fun v s' => v = .ref h.objs.size ∧ s' = ⟨h.push (boundObj BT id x), g, d, t + 1, os⟩) (E := fun _ _ => False)
    (wpAny_call_entry PySem.F.ks_slot_super_ga (hT _) PySem.F.ks_entry_super_ga (super_ga_b hso hno hC hl X hf hty hget hxC hn (fun A Q' E' h' => hg A _ Q' E' h') ⟨_, rfl, rfl, rfl⟩) (PySem.F.ks_gaArgs_super _ _)) (fun v s' hv => ?_) fun _ _ z => z.elim
  obtain ⟨rfl, rfl⟩ := hv
  exact wpAny_pure (wpAny_pure hq)

/-- calling a bound built-in -/
theorem call_bound_b {b x : Addr} {id T : String} {args : List Value} {B : Builtin} {Q : Value → Shared → Prop} {s : Shared} (hb : s.heap.get? b = some (boundObj T id x)) (hT : (Value.type T == .type "method" || Value.type T == .type "builtin_function_or_method" || Value.type T == .type "method-wrapper") = true) (hT2 : (Value.type T != .type "method") = true)
    (hp : plainId id = true) (entry : entryFor table id = some B) (hchk : ∀ (A : Around) (Q' : Unit → Shared → Prop) (E' : Value → Shared → Prop), Q' () s → wpAny (model prog w) A (checkBoundCall id ⟨.ref x :: args, []⟩) Q' E' s)
    (hB : wpAny (model prog w) A.in1 (B ⟨.ref x :: args, []⟩) (fun fin s' => ∃ v, fin = .done (.ret v) ∧ Q v s') E s) :
    wpAny (model prog w) A (call (.ref b) args) Q E s := by
  refine wpAny_call (codeAny_of_tree ?_)
  show wpAny _ A.in1 (callAny (.ref b) ⟨args, []⟩) _ _ _
  unfold callAny
  refine wpAny_bind (wpAny_load hb ?_)
  dsimp only
  rw [if_pos hT]
  simp only [List.getElem?_toArray, List.getElem?_cons_zero, List.getElem?_cons_succ]
  rw [if_pos hT2]
  refine wpAny_bind (hchk _ _ _ ?_)
  refine wpAny_pure ⟨plainId_quiet hp _, codeAny_builtin entry ?_⟩
  rw [Around.under_plainId hp _]
  refine wpAny_mono hB (fun fin s' z => ?_) fun _ _ z => z
  obtain ⟨v, rfl, hv⟩ := z
  exact hv
end
end Nw

namespace Nw
set_option tactic.hygienic false

/-! list's own methods at an instance of a class below list -/
theorem check_meth {M : Model} {A : Around} {E : Value → Shared → Prop} {s : Shared} {i owner n : String} {self : Value} {rest : List Value} {Q : Unit → Shared → Prop}
    (hk : builtinKind i = some .method) (hs : splitId i = some (owner, n)) (hi : Looks M s.heap (isInstance self (.type owner)) true) (ha : argsOk i ⟨self :: rest, []⟩) (q : Q () s) :
    wpAny M A (checkBuiltinCall i ⟨self :: rest, []⟩) Q E s := by
  simp only [checkBuiltinCall, hk, hs]
  refine wpAny_bind (hi.here ?_)
  simp only [Bool.not_true, Bool.false_eq_true, if_false]
  cases hsig : Manifest.signature? i with
  | none => exact wpAny_pure q
  | some sig =>
    simp only [argsOk, hsig] at ha
    have h2 : Bind.checkArgs i sig ⟨self :: rest, []⟩ = pure () := ha
    show wpAny M A (Bind.checkArgs i sig ⟨self :: rest, []⟩) Q E s
    rw [h2]; exact wpAny_pure q

section
variable {prog : Program} {w : World} {A : Around} {E : Value → Shared → Prop} {s : Shared} {x : Addr} {c : Value} {d : Option Addr} {vs : Array Value} {n : Nat} {sl : Array (Option Value)}

theorem body_len {Q : Fin → Shared → Prop} (hx : s.heap.get? x = some ⟨c, d, .seq vs n, sl⟩) (h : Q (.done (.ret (.int vs.size s.toks))) { s with toks := s.toks + 1 }) :
    wpAny (model prog w) A (Builtin.«list.__len__» ⟨[.ref x], []⟩) Q E s := by
  unfold Builtin.«list.__len__»
  refine wpAny_bind (wpAny_pure (a := (Value.ref x, [])) ?_)
  dsimp only
  refine wpAny_bind ?_
  unfold seqSize
  refine wpAny_bind (wpAny_loadPart hx (wpAny_pure ?_))
  exact wpAny_bind (wpAny_mkInt (wpAny_pure h))

theorem body_pop {v : Value} {Q : Fin → Shared → Prop} (hx : s.heap.get? x = some ⟨c, d, .seq vs n, sl⟩) (hsz : vs.size ≤ sizeLine) (hv : vs[vs.size - 1]? = some v)
    (h : Q (.done (.ret v)) { s with heap := s.heap.update x (Obj.mapSeq (·.eraseIdxIfInBounds (vs.size - 1))) }) :
    wpAny (model prog w) A (Builtin.«list.pop» ⟨[.ref x], []⟩) Q E s := by
  have hpos : vs.size - 1 < vs.size := (Array.getElem?_eq_some_iff.mp hv).1
  unfold Builtin.«list.pop»
  refine wpAny_bind (wpAny_of_eq (a := (Value.ref x, [])) rfl ?_)
  dsimp only
  refine wpAny_bind (wpAny_pure ?_)
  rw [if_neg (by decide)]
  refine wpAny_bind (wpAny_listItems hx rfl ?_)
  have he : vs.isEmpty = false := by
    show decide (vs.size = 0) = false
    exact decide_eq_false (by lia)
  rw [he]
  simp only [Bool.false_eq_true, if_false]
  have hi : seqIndex? (-1) vs.size = some (vs.size - 1) := by
    unfold seqIndex?
    have h1 : (decide ((0 : Int) ≤ -1 + (vs.size : Int)) && decide (-1 + (vs.size : Int) < (vs.size : Int))) = true := by
      simp; lia
    simp only [show (-1 : Int) < 0 by decide, if_true, h1]
    congr 1
    lia
  rw [hi]
  simp only [Option.bind_some, hv, Option.map_some]
  refine wpAny_bind ?_
  show wpAny _ _ (updateSeq x _) _ _ _
  refine wpAny_updateSeq hx rfl ?_ hsz ?_
  · exact wpAny_pure h
  · unfold Array.eraseIdxIfInBounds
    rw [dif_pos hpos, Array.size_eraseIdx]
    lia

theorem body_init {Q : Fin → Shared → Prop} (hx : s.heap.get? x = some ⟨c, d, .seq vs n, sl⟩) (hsz : vs.size ≤ sizeLine)
    (h : Q (.done (.ret .none)) { s with heap := s.heap.update x (Obj.mapSeq fun _ => #[]) }) :
    wpAny (model prog w) A (Builtin.«list.__init__» ⟨[.ref x], []⟩) Q E s := by
  unfold Builtin.«list.__init__»
  dsimp only
  rw [if_neg (by decide), if_neg (by simp)]
  refine wpAny_bind (wpAny_listItems hx rfl ?_)
  refine wpAny_bind ?_
  show wpAny _ _ (updateSeq x _) _ _ _
  refine wpAny_updateSeq hx rfl ?_ hsz (by simp)
  exact wpAny_bind (wpAny_letGo (wpAny_pure h))

theorem call_append_at {v : Value} {Q : Value → Shared → Prop} (hx : s.heap.get? x = some ⟨c, d, .seq vs n, sl⟩) (hsz : vs.size ≤ sizeLine) (hin : Looks (model prog w) s.heap (isInstance (.ref x) (.type "list")) true)
    (h : Q .none { s with heap := s.heap.update x (Obj.mapSeq (·.push v)) }) : wpAny (model prog w) A (call (.builtin "list.append") [.ref x, v]) Q E s := by
  refine wpAny_call (codeAny_call_builtin (by decide +kernel) PySem.F.entry_list_append (check_meth (owner := "list") (n := "append") (by decide +kernel) (by decide +kernel) hin (PySem.F.args_list_append_2 _ _) ?_))
  unfold Builtin.«list.append»
  refine wpAny_bind (wpAny_of_eq (a := (Value.ref x, v)) rfl ?_)
  dsimp only
  refine wpAny_bind ?_
  show wpAny _ _ (updateSeq x _) _ _ _
  refine wpAny_updateSeq hx rfl ?_ hsz (by simp; lia)
  exact wpAny_pure h
end
end Nw

namespace Nw
set_option tactic.hygienic false

section
variable {prog : Program} {w : World} {A : Around} {E : Value → Shared → Prop} {s : Shared} {K : Frag} {x C : Addr} {ox : Obj} {od : Option Obj} {name : Str} {pl : Sem Bool} {Q : Value × List Value → Shared → Prop}

/-- a built-in method found along the class -/
theorem method_bi {id : String} (X : K.In s.heap) (I : InstAt s.heap x ox C od) (hga : findIn K (.ref C) "__getattribute__" = some (some (.builtin "list.__getattribute__"))) (hk : findIn K (.ref C) "__getattr__" = some none)
    (hf : findIn K (.ref C) name = some (some (.builtin id))) (ht : typeIn K (.builtin id) = some (.type "method_descriptor")) (hs : shadowIn od name = some false) (h : Q (.builtin id, [.ref x]) s) :
    wpAny (model prog w) A (getMethod (.ref x) name pl) Q E s := by
  have hcan := PySem.canon_list_getattribute
  unfold getMethod specialOf
  refine wpAny_bind (wpAny_bind (I.type.here ((looks_findIn X hga).here ?_)))
  dsimp only
  rw [hcan, if_neg (by decide)]
  refine wpAny_bind (wpAny_bind (I.type.here ((looks_findIn X hk).here ?_)))
  refine wpAny_bind (wpAny_bind (I.type.here ((looks_findIn X hf).here (wpAny_bind ((looks_typeIn X ht).here ?_)))))
  rw [if_neg (by decide +kernel)]
  refine wpAny_bind (wpAny_loadPart I.at_ ?_)
  have hd := I.dict
  cases e : ox.dict with
  | none => exact wpAny_bind (wpAny_rule (wpAny_pure h))
  | some dx =>
    cases od with
    | none => rw [e] at hd; exact hd.elim
    | some o =>
      rw [e] at hd
      obtain ⟨r, a, b⟩ := Option.map_eq_some_iff.mp hs
      refine wpAny_bind (wpAny_bind (wpAny_loadPart hd ?_))
      rw [nsLook_of a]
      refine wpAny_pure ?_
      rw [b]
      exact wpAny_bind (wpAny_rule (wpAny_pure h))
theorem method_fnL {f : Addr} (X : K.In s.heap) (I : InstAt s.heap x ox C od) (hga : findIn K (.ref C) "__getattribute__" = some (some (.builtin "list.__getattribute__"))) (hk : findIn K (.ref C) "__getattr__" = some none)
    (hf : findIn K (.ref C) name = some (some (.ref f))) (ht : typeIn K (.ref f) = some (.type "function")) (hs : shadowIn od name = some false) (h : Q (.ref f, [.ref x]) s) :
    wpAny (model prog w) A (getMethod (.ref x) name pl) Q E s := by
  have hcan := PySem.canon_list_getattribute
  unfold getMethod specialOf
  refine wpAny_bind (wpAny_bind (I.type.here ((looks_findIn X hga).here ?_)))
  dsimp only
  rw [hcan, if_neg (by decide)]
  refine wpAny_bind (wpAny_bind (I.type.here ((looks_findIn X hk).here ?_)))
  refine wpAny_bind (wpAny_bind (I.type.here ((looks_findIn X hf).here (wpAny_bind ((looks_typeIn X ht).here ?_)))))
  rw [if_neg (by decide +kernel)]
  refine wpAny_bind (wpAny_loadPart I.at_ ?_)
  have hd := I.dict
  cases e : ox.dict with
  | none => exact wpAny_bind (wpAny_rule (wpAny_pure h))
  | some dx =>
    cases od with
    | none => rw [e] at hd; exact hd.elim
    | some o =>
      rw [e] at hd
      obtain ⟨r, a, b⟩ := Option.map_eq_some_iff.mp hs
      refine wpAny_bind (wpAny_bind (wpAny_loadPart hd ?_))
      rw [nsLook_of a]
      refine wpAny_pure ?_
      rw [b]
      exact wpAny_bind (wpAny_rule (wpAny_pure h))

theorem get_valueL {v : Value} {expr : Bool} {Q : Value → Shared → Prop} (X : K.In s.heap) (I : InstAt s.heap x ox C od) (hga : findIn K (.ref C) "__getattribute__" = some (some (.builtin "list.__getattribute__"))) (hk : findIn K (.ref C) "__getattr__" = some none)
    (hin : Looks (model prog w) s.heap (isInstance (.ref x) (.type "list")) true) (hf : findObj K C od name = some (.value v)) (hh : handedIn v = true) (h : Q v { s with toks := s.toks + 1 }) : wpAny (model prog w) A (getAttr (.ref x) name expr) Q E s := by
  obtain ⟨hh', g, d, t, os⟩ := s
  have L0 := I.type (M := model prog w)
  have L1 := looks_findIn (M := model prog w) X hga
  have L2 := looks_findIn (M := model prog w) X hk
  have L3 := looks_find (M := model prog w) X I hf
  unfold getAttr getAttrBy
  refine wpAny_bind (wpAny_mkText (wpAny_holding (wpAny_bind (L0.at (wpAny_bind (L1.at ?_))))))
  show wpAny _ _ (getAttrByItsOwn _ _ _ _ _ _) _ _ _
  unfold getAttrByItsOwn
  refine wpAny_bind (L2.at ?_)
  refine wpAny_bind (wpAny_attempt (wpAny_holding ?_))
  unfold callGetattribute
  rw [if_neg (by simp [onTheHeap])]
  unfold boundAndCalled
  refine wpAny_bind (wpAny_of_eq (PySem.F.slot_list_getattribute.bind (.ref x)) ?_)
  refine wpAny_call (codeAny_call_builtin (id := "list.__getattribute__") (by decide +kernel) am_entry_list_getattribute (check_slot (i := "list.__getattribute__") (owner := "list") (n := "__getattribute__") (rest := [.str name t]) (kw := []) (by decide +kernel) (by decide +kernel) hin (PySem.F.args_list_getattribute_2 _ _) ?_))
  unfold Builtin.«object.__getattribute__»
  refine wpAny_bind (wpAny_pure ?_)
  refine wpAny_bind (wpAny_pure (wpAny_bind (L0.at (wpAny_bind (L3.at ?_)))))
  refine wpAny_pure ?_
  show wpAny _ _ (handedOut v) _ _ _
  rw [handedOut_of hh]; exact wpAny_pure h
end

/-- a method of the text, in the heap before the call -/
structure MethAt (W : Wd) (f : Addr) (o : Obj) (fd : FuncData) (params : List Str) (body : List Stmt) (names : Names) : Prop where
  at' : W.hB.get? f = some o
  cls : o.cls = .type "function"
  data : o.data = .func fd
  body : fd.body = .stmts body
  names : fd.scope.names = names
  kind : fd.scope.kind = .function
  co : fd.scope.isCoroutine = false
  gen : fd.scope.isGenerator = false
  globals : fd.globals = mainGlobals
  builtins : fd.builtins = builtinsNs
  code : W.hB.CodeRec fd.code fd.qualname

/-- the frame of a method's call -/
structure FrameIs (W : Wd) (s : Shared) (f : Addr) (fd : FuncData) (names : Names) (env : Env) : Prop where
  kind : env.scope.kind = .function
  kindOf : ∀ x, env.kindOf x = names.lookup x
  globals : env.globals = mainGlobals
  builtins : env.builtins = builtinsNs
  func : env.func = some f
  code : env.code = fd.code
  cells : env.cells = fd.closure
  new : s.heap.get? env.locals = none

theorem meth_frame {W : Wd} (ok : WdOK W) {f : Addr} {o : Obj} {fd : FuncData} {params : List Str} {body : List Stmt} {names : Names} (M : MethAt W f o fd params body names) {A : Around} {s : Shared} (base : Keep W.hB s.heap) (hroom : A.depth < recursionLimit) {args : Args} {binds : List (Str × Value)}
    (hbind : BindsTo s fd args binds) (hcell : ∀ x ∈ names, x.2 ≠ .cell) (hloc : ∀ x ∈ binds, names.lookup x.1 = some .local) {R : Result → Shared → Prop}
    (h : ∀ env h₀ tk, FrameIs W s f fd names env → h₀.Ns env.locals (fun x => binds.reverse.lookup x) → Keep s.heap h₀ →
      _root_.PySem.wpAt W.M (A.deeper env) (.func body env) (PySem.execs body env) (fun fl s' => R (.ok (.ret (match fl with | .ret v => v | _ => .none))) s') NoE { s with heap := h₀, toks := tk }) :
    codeAny W.M A (.call (.ref f) args) R s := by
  refine ks_codeAny_call_defAt hroom (base _ _ M.at') M.data (ok.nolimit.keeps base) (M.code.keeps base) M.body hbind (by rw [M.names]; exact hcell) (by rw [M.names]; exact hloc) (fun h₀ hns hk => ?_) M.co M.gen M.kind
  refine ks_wpAt_mono (h _ h₀ _ ⟨M.kind, fun x => ?_, M.globals, M.builtins, rfl, rfl, rfl, push_new _⟩ hns hk) (fun _ _ z => z) fun _ _ z => z.elim
  rw [← M.names]; rfl
end Nw

namespace Nw
set_option tactic.hygienic false

/-- what stands of the pile's class -/
structure AccK (W : Wd) (K : Frag) : Prop where
  x : K.In W.hB
  makes : makesLIn K W.ac = true
  ga : findIn K (.ref W.ac) "__getattribute__" = some (some (.builtin "list.__getattribute__"))
  gat : findIn K (.ref W.ac) "__getattr__" = some none
  append : findIn K (.ref W.ac) "append" = some (some (.builtin "list.append"))

theorem acc_inst {W : Wd} {F : FM} {s : Shared} {a dx : Addr} {vs : Array Value} {n : Nat} {hh : Int} {kk t : Tok} {hd : Int} {m : Nat} (st : Sits F s.heap) (e : s.heap.get? a = some (accObj W.ac dx vs n)) (ed : F dx = some (sizeDict hh kk t hd m)) :
    InstAt s.heap a (accObj W.ac dx vs n) W.ac (some (sizeDict hh kk t hd m)) := ⟨e, rfl, rfl, st _ _ ed⟩

theorem acc_in {W : Wd} {K : Frag} (AK : AccK W K) {s : Shared} {a dx : Addr} {vs : Array Value} {n : Nat} (base : Keep W.hB s.heap) (e : s.heap.get? a = some (accObj W.ac dx vs n)) : Looks W.M s.heap (isInstance (.ref a) (.type "list")) true := by
  have Y := (makesL_of (M := W.M) AK.x AK.makes).top.keeps (fun b ob e => base b ob e)
  exact ((Looks.ld e).andThen .now).andThen Y

theorem frame_name {W : Wd} {s s1 : Shared} {f : Addr} {fd : FuncData} {names : Names} {env : Env} {A : Around} {x : Str} {pos : Pos} {v : Value} {m : Str → Option Value} {Q : Value → Shared → Prop} {E : Value → Shared → Prop} (fr : FrameIs W s f fd names env)
    (hn : names.lookup x = some .local) (ns : s1.heap.Ns env.locals m) (hv : m x = some v) (hd : (x == ("__debug__" : Str)) = false) (h : Q v s1) : wpAny W.M A (eval (.Name x pos) env) Q E s1 :=
  wpAny_Name (wpAny_loadName_local fr.kind ((fr.kindOf x).trans hn) ns hv h) hd

noncomputable def pushNames : Names := [("self", .local), ("fws", .local), ("string", .local)]

theorem push_sound {W : Wd} {K : Frag} (ok : WdOK W) (AK : AccK W K) {f : Addr} {o : Obj} {fd : FuncData} {p1 p2 p3 p4 p5 p6 p7 : Pos} {kq : Nat}
    (M : MethAt W f o fd ["self", "fws", "string"] [Stmt.Expr (.Call (.Attribute (.Name "self" p1) "append" p2) [.Tuple [.Name "fws" p3, .Name "string" p4] kq p5] [] p6) p7] pushNames) (hl : (p2.endLine == p6.line) = true)
    (hbind : ∀ a b c : Value, bindArgs fd ⟨[a, b, c], []⟩ = pure ([("self", a), ("fws", b), ("string", c)] : List (Str × Value)))
    {A : Around} {F : FM} {s : Shared} {env0 : Env} {a : Addr} {v1 v2 : Value} {hd : Int} {items : List PV} {q1 q2 : PV} (hA : Amb A 0) (st : Sits F s.heap) (base : Keep W.hB s.heap) (hsl : SlotOK W F s.heap env0 (.acc hd items) (.ref a)) (r1 : Rep W.qc F q1 v1) (r2 : Rep W.qc F q2 v2) (hsz : items.length < sizeLine) :
    wpAny W.M A (call (.ref f) [.ref a, v1, v2]) (fun rv s' => ∃ F', GrowBut a F s F' s' ∧ SlotOK W F' s'.heap env0 (.acc hd (items ++ [.tup [q1, q2]])) (.ref a) ∧ rv = .none) NoE s := by
  refine wpAny_call (meth_frame ok M base (by have := hA.depth; omega) (binds := [("self", .ref a), ("fws", v1), ("string", v2)]) (.of_eq (hbind _ _ _)) (by decide) (by intro x hx; simp only [List.mem_cons, List.not_mem_nil, or_false] at hx; rcases hx with rfl | rfl | rfl <;> rfl) fun env h₀ tk fr ns keep => wpAt_of_wpAny ?_)
  obtain ⟨a', dx, vs, n, hh, kk, t, m, ea, e1, e2, rl, off⟩ := hsl
  cases ea
  rw [arm_execs_cons]
  have hm : ∀ y v, ([("self", Value.ref a), ("fws", v1), ("string", v2)] : List (Str × Value)).reverse.lookup y = some v → (fun x => ([("self", Value.ref a), ("fws", v1), ("string", v2)] : List (Str × Value)).reverse.lookup x) y = some v := fun _ _ h => h
  have st1 : Sits F h₀ := fun b ob e => keep _ _ (st b ob e)
  have e1' := keep _ _ e1
  have en := rl.length
  rw [Array.length_toList] at en
  refine wpAny_bind (expr_plain fr.kind rfl ?_)
  refine meth_call hl (show 1 < 30 by decide) rfl rfl ?_
  refine frame_name fr (by decide) ns (hm "self" (.ref a) (by rfl)) (by decide) ?_
  refine method_bi (K := K) (fun b ob e => keep _ _ (base _ _ (AK.x b ob e))) (acc_inst (s := { s with heap := h₀, toks := tk }) st1 e1' e2) AK.ga AK.gat AK.append (by kernel_rfl) (by kernel_rfl) ?_
  refine callWith_of (trees := backTo p6 (starEach [.Tuple [.Name "fws" p3, .Name "string" p4] kq p5] env)) rfl (callee_builtin _) ?_
  refine wpAny_items_cons ?_ rfl
  rw [arm_eval_Tuple]
  refine wpAny_bind (wpAny_standAt (wpAny_bind ?_))
  refine wpAny_items_cons (frame_name fr (by decide) ns (hm "fws" v1 (by rfl)) (by decide) (wpAny_items_cons (frame_name fr (by decide) ns (hm "string" v2 (by rfl)) (by decide) (wpAny_items_nil ?_)) rfl)) rfl
  refine wpAny_newObj_type ?_
  refine wpAny_items_nil ⟨fun b ob e => Heap.get?_push_of_some _ (keep _ _ (base b ob e)), ?_⟩
  have hpt : Keep s.heap (h₀.push { cls := .type "tuple", data := .seq [v1, v2].toArray }) := fun b ob e => Heap.get?_push_of_some _ (keep _ _ e)
  have hF0 : F h₀.objs.size = none := by
    cases q : F h₀.objs.size with
    | none => rfl
    | some ob => have := st1 _ _ q; rw [push_new] at this; cases this
  have hat : a ≠ h₀.objs.size := Nat.ne_of_lt (Heap.lt_size e1')
  have e1t : (h₀.push { cls := .type "tuple", data := .seq [v1, v2].toArray }).get? a = some (accObj W.ac dx vs n) := Heap.get?_push_of_some _ e1'
  have hin : Looks W.M (h₀.push { cls := .type "tuple", data := .seq [v1, v2].toArray }) (isInstance (.ref a) (.type "list")) true := by
    have Y := (makesL_of (M := W.M) AK.x AK.makes).top.keeps (fun b ob e => hpt _ _ (base b ob e))
    have tl : Looks W.M (h₀.push { cls := .type "tuple", data := .seq [v1, v2].toArray }) (typeOf (.ref a)) (.ref W.ac) := (Looks.ld e1t).andThen .now
    exact tl.andThen Y
  refine call_append_at (s := { s with heap := h₀.push { cls := .type "tuple", data := .seq [v1, v2].toArray }, toks := tk }) e1t (by rw [en]; exact Nat.le_of_lt hsz) hin ?_
  rw [arm_execs_nil]
  refine wpAny_pure ?_
  have hup : ((h₀.push { cls := .type "tuple", data := .seq [v1, v2].toArray }).update a (Obj.mapSeq (·.push (.ref h₀.objs.size)))).get? a = some (accObj W.ac dx (vs.push (.ref h₀.objs.size)) (n + 1)) := by
    rw [Heap.get?_update_self _ e1t (by simp [Obj.mapSeq, Obj.isFreed])]
    simp [Obj.mapSeq]
  have sb : Heap.SameBut a (h₀.push { cls := .type "tuple", data := .seq [v1, v2].toArray }) ((h₀.push { cls := .type "tuple", data := .seq [v1, v2].toArray }).update a (Obj.mapSeq (·.push (.ref h₀.objs.size)))) := Heap.SameBut.update ..
  have g1 : Grow F s (F.put h₀.objs.size { cls := .type "tuple", data := .seq [v1, v2].toArray }) { s with heap := h₀.push { cls := .type "tuple", data := .seq [v1, v2].toArray }, toks := tk } :=
    Grow.put st hpt (none_keep keep (push_new _)) (Heap.get?_push_size _ rfl)
  have hFa : (F.put h₀.objs.size { cls := .type "tuple", data := .seq [v1, v2].toArray }) a = none := by
    unfold FM.put; rw [if_neg hat]; exact off.1
  have g2 := GrowBut.same (s := { s with heap := h₀.push { cls := .type "tuple", data := .seq [v1, v2].toArray }, toks := tk }) (tk := tk) g1.sits hFa sb
  refine ⟨_, (GrowBut.of_grow g1).trans g2 ⟨_, e1⟩ hFa, ⟨a, dx, _, n + 1, hh, kk, t, m, rfl, hup, g1.le _ _ e2, ?_, hFa, off.2⟩, rfl⟩
  rw [Array.toList_push]
  exact (RepL.mono _ g1.le rl).append (RepL.one ⟨_, _, [v1, v2].toArray, 0, rfl, FM.put_self _ _ _, rfl, rfl, v1, [v2], rfl, r1.mono _ g1.le, v2, [], rfl, r2.mono _ g1.le, rfl⟩)
end Nw

namespace Nw
set_option tactic.hygienic false

theorem meth_call_at {W : Wd} {A : Around} {cde : Code} {o : Expr} {m : Str} {apos pos : Pos} {as : List Expr} {env : Env} {s : Shared} {Q : Value → Shared → Prop} {E : Value → Shared → Prop} (hl : (apos.endLine == pos.line) = true) (hn : as.length < 30)
    (hst : (backTo pos (starEach as env)).any (·.1) = false)
    (h : _root_.PySem.wpAt W.M A cde (attributeBase o m env (eval o env)) (fun ov s1 => wpAny W.M A (getMethod ov m (do return (← importBound o env).getD true)) (fun r s2 => wpAny W.M A (callWith pos r.1 r.2 (backTo pos (starEach as env)) []) Q E s2) E s1) E s) :
    _root_.PySem.wpAt W.M A cde (eval (.Call (.Attribute o m apos) as [] pos) env) Q E s := by
  rw [arm_eval_Call]
  refine _root_.PySem.wpAt_bind (_root_.PySem.wpAt_mono h (fun ov s₁ h₁ => wpAt_of_wpAny (wpAny_bind (wpAny_standAt ?_))) fun _ _ e => e)
  have hpos : methodCallPos true o env apos pos = pure pos := by unfold methodCallPos; simp [hl]
  unfold methodCall
  rw [few_ok hst hn]
  refine wpAny_bind (wpAny_holding (wpAny_mono h₁ (fun r s2 h2 => ?_) fun _ _ e => e))
  obtain ⟨f, first⟩ := r
  exact wpAny_bind (wpAny_of_eq hpos h2)

theorem callWith_nil {W : Wd} {A : Around} {pos : Pos} {fv : Value} {first : List Value} {Q : Value → Shared → Prop} {E : Value → Shared → Prop} {s : Shared}
    (hc : ∀ (Q' : Keeper → Shared → Prop) (E' : Value → Shared → Prop), (∀ kp, Q' kp s) → wpAny W.M A (keeperOf fv) Q' E' s)
    (h : wpAny W.M A (call fv first) Q E s) : wpAny W.M A (callWith pos fv first [] []) Q E s := by
  unfold callWith
  refine wpAny_bind (wpAny_holding (evalArgs_of rfl ?_))
  show wpAny W.M A (spliced []) _ _ s
  refine wpAny_pure (wpAny_bind (wpAny_standAt ?_))
  have tail : ∀ {t : Sem Value}, wpAny W.M A t Q E s → wpAny W.M A (t >>= fun r => holding [r] point >>= fun _ => pure r) Q E s :=
    fun ht => wpAny_bind (wpAny_mono ht (fun r s₂ hr => wpAny_bind (wpAny_holding (wpAny_point (wpAny_pure hr)))) fun _ _ x => x)
  have h' : wpAny W.M A (call fv (first ++ [])) Q E s := by rw [List.append_nil]; exact h
  simp only [List.any_nil, Bool.or_false]
  refine wpAny_bind (m := keeperOf fv) (hc _ _ fun kp => ?_)
  cases kp with
  | frame =>
    dsimp only
    refine wpAny_ite ?_
    split
    · exact tail h'
    · exact tail (by unfold callMarked; exact PySem.Calls.wpAny_keep h')
  | boundFrame =>
    dsimp only
    refine wpAny_ite ?_
    split
    · exact tail h'
    · exact tail (by unfold callMarked; exact PySem.Calls.wpAny_keep h')
  | machine => exact tail h'
  | caller => exact tail (wpAny_operating h')

inductive FdCode (W : Wd) (fd : FuncData) : Prop
  | mk (cda : Addr) (oc : Obj) (vs : Array Value) (file : Str) (tf : Tok) (e1 : fd.code = .ref cda) (e2 : W.hB.get? cda = some oc) (e3 : oc.data = .fields vs) (e4 : vs[2]? = some (.str file tf)) (e5 : ((W.prog.main.file : Str) == file) = true)
/-- what `super()` needs in a method -/
structure SupAt (W : Wd) (K : Frag) (fd : FuncData) (names : Names) : Prop where
  sup : names.lookup ("super" : Str) = some .globalImplicit
  cls : names.lookup ("__class__" : Str) = some .free
  self : names.lookup ("self" : Str) = some .local
  par : ∃ ar, (fd.params.posonlyargs ++ fd.params.args).head? = some ar ∧ ar.arg = "self"
  clo : ∃ cc, fd.closure = ([("__class__", cc)] : List (Str × Addr)) ∧ W.hB.IsCell cc (some (.ref W.ac))
  code : FdCode W fd
  top : (W.prog.main.scope.names.lookup ("super" : Str)).isSome = false
  glob : W.glob "super" (.type "super")
  opq : nsIn K cStatics "thirdparty.any" = some none

theorem super_b {W : Wd} {K : Frag} (ok : WdOK W) (AK : AccK W K) {fd : FuncData} {names : Names} (SA : SupAt W K fd names) {f : Addr} {o : Obj} (hfo : W.hB.get? f = some o) (hfd : o.data = .func fd) {s s1 : Shared} {env : Env} (fr : FrameIs W s f fd names env) {A : Around} {body : List Stmt} {p0 p1 apos pos : Pos} {m : Str} {mm : Str → Option Value}
    (hl : (apos.endLine == pos.line) = true) (hat : (m == ("__class__" : Str)) = false) (ns : s1.heap.Ns env.locals mm) {a dx : Addr} {vs : Array Value} {n : Nat} (hself : mm "self" = some (.ref a)) (base : Keep W.hB s1.heap) (e1 : s1.heap.get? a = some (accObj W.ac dx vs n)) (hne : a ≠ W.ac)
    {id T gid BT : String} {l₀ l : List Value} (hC : Looks W.M W.hB (mroOf (.ref W.ac)) l₀) (hlm : (l₀.dropWhile (· != .ref W.ac)).drop 1 = l) (hf : alongIn K m l = some (some (.builtin id))) (hty : typeOf (.builtin id) = pure (.type T)) (hget : typeLookup (.type T) "__get__" = pure (some (.builtin gid)))
    (hg : ∀ (s : Shared) (A : Around) (Q' : Value → Shared → Prop) (E' : Value → Shared → Prop), Looks W.M s.heap (isInstance (.ref a) (.type "list")) true → Q' (.ref s.heap.objs.size) { s with heap := s.heap.push (boundObj BT id a) } → wpAny W.M A (call (.builtin gid) [.builtin id, .ref a, .ref W.ac]) Q' E' s)
    {Q : Value → Shared → Prop} (hBT : (Value.type BT != .type "method") = true)
    (h : ∀ h' tk b, Keep s1.heap h' → h'.get? b = some (boundObj BT id a) → wpAny W.M A (call (.ref b) []) Q NoE { s1 with heap := h', toks := tk }) :
    _root_.PySem.wpAt W.M A (.func body env) (eval (.Call (.Attribute (.Call (.Name "super" p0) [] [] p1) m apos) [] [] pos) env) Q NoE s1 := by
  obtain ⟨ar, hp, har⟩ := SA.par
  obtain ⟨cc, hclo, hcell⟩ := SA.clo
  obtain ⟨cda, oc, cvs, file, tf, hcode, hcda, hocd, hcv, hfile⟩ := SA.code
  obtain ⟨⟨occ, od, cd, sl, hac, e2, e4⟩, made, bas, self, top, callL, typ⟩ := makesL_of (M := W.M) AK.x AK.makes
  refine meth_call_at hl (show 0 < 30 by decide) rfl ?_
  refine ks_wpAt_super_base ((fr.kindOf _).trans SA.sup) ((fr.kindOf _).trans SA.cls) hat fr.func (base _ _ hfo) hfd hp (fr.code.trans hcode) (base _ _ hcda) hocd hcv hfile SA.top ?_
  refine ks_loadName_global fr.kind ((fr.kindOf _).trans SA.sup) ?_
  have hglob : ∀ (Q' : Value → Shared → Prop) (E' : Value → Shared → Prop), Q' (.type "super") s1 → wpAny W.M A (loadGlobal env "super") Q' E' s1 := by
    intro Q' E' hq
    rcases SA.glob with hv | ⟨hm, hv⟩
    · exact PySem.Calls.loadGlobal_global (by rw [fr.globals]; exact ok.g.keeps base) hv hq
    · exact PySem.Calls.loadGlobal_builtin (by rw [fr.globals]; exact ok.g.keeps base) hm (by rw [fr.builtins]; exact ok.b.keeps base) hv hq
  refine hglob _ _ ⟨rfl, ?_⟩
  refine wpAny_loadName_free fr.kind ((fr.kindOf _).trans SA.cls) (c := cc) (by rw [fr.cells, hclo]; rfl) (hcell.keeps base) ?_
  rw [har]
  refine wpAny_loadName_local fr.kind ((fr.kindOf _).trans SA.self) ns hself ?_
  obtain ⟨hh, g, d, t, os⟩ := s1
  refine ks_wpAny_isType_cls (base _ _ hac) rfl ⟨rfl, ?_⟩
  refine ks_wpAny_call_super (base _ _ hac) rfl e1 rfl (fun c e => by cases e) (self.keeps fun b o e => base b o e) (fun h' hso k => ?_)
  have kb : Keep W.hB h' := fun b o e => k _ _ (base b o e)
  have inst : Looks W.M h' (isInstance (.ref a) (.type "list")) true := by
    have tl : Looks W.M h' (typeOf (.ref a)) (.ref W.ac) := (Looks.ld (k _ _ e1)).andThen .now
    exact tl.andThen (top.keeps fun b o e => kb b o e)
  refine getMethod_super_b hso ((looks_opaque AK.x SA.opq).keeps fun b o e => kb b o e) (hC.keeps fun b o e => kb b o e) hlm (fun b o e => kb b o (AK.x b o e)) hf hty hget hne hat (fun A t Q' E' h'' => hg ⟨h', g, d, t, os⟩ A Q' E' inst h'') ?_
  have hb : (h'.push (boundObj BT id a)).get? h'.objs.size = some (boundObj BT id a) := Heap.get?_push_size _ rfl
  refine callWith_nil (fun Q E hq => ?_) (h _ _ _ (fun b o e => Heap.get?_push_of_some _ (k b o e)) hb)
  unfold keeperOf
  refine wpAny_bind (wpAny_load hb ?_)
  dsimp only
  rw [if_pos hBT]
  exact wpAny_pure (hq _)
end Nw

namespace Nw
set_option tactic.hygienic false

theorem check_bound_slot {M : Model} {A : Around} {E : Value → Shared → Prop} {s : Shared} {i : String} {self : Value} {rest : List Value} {Q : Unit → Shared → Prop}
    (hk : builtinKind i = some .slot) (ha : argsOk i ⟨self :: rest, []⟩) (q : Q () s) : wpAny M A (checkBoundCall i ⟨self :: rest, []⟩) Q E s := by
  unfold checkBoundCall
  cases hsig : Manifest.signature? i with
  | none => exact wpAny_pure q
  | some sig =>
    simp only [argsOk, hsig] at ha
    have h2 : Bind.checkArgs i sig ⟨self :: rest, []⟩ = pure () := ha
    simp only [hk]
    rw [if_pos (by decide)]
    rw [h2]
    exact wpAny_pure q

/-- what stands of the pile's class, for its methods -/
structure AccL (W : Wd) (K : Frag) (l₀ : List Value) : Prop where
  k : AccK W K
  mro : Looks W.M W.hB (mroOf (.ref W.ac)) l₀
  after : (l₀.dropWhile (· != .ref W.ac)).drop 1 = [.type "list", .type "object"]
  len : alongIn K "__len__" [.type "list", .type "object"] = some (some (.builtin "list.__len__"))
  pop : alongIn K "pop" [.type "list", .type "object"] = some (some (.builtin "list.pop"))
  init : alongIn K "__init__" [.type "list", .type "object"] = some (some (.builtin "list.__init__"))

theorem ac_ne {W : Wd} {K : Frag} (AK : AccK W K) {F : FM} {s : Shared} {env : Env} {hd : Int} {items : List PV} {a : Addr} (base : Keep W.hB s.heap) (hsl : SlotOK W F s.heap env (.acc hd items) (.ref a)) : a ≠ W.ac := by
  rintro rfl
  obtain ⟨a', dx, vs, n, hh, kk, t, m, ea, e1, _⟩ := hsl
  cases ea
  obtain ⟨⟨oc, od, cd, sl, hac, _⟩, _⟩ := makesL_of (M := W.M) AK.x AK.makes
  have := base _ _ hac
  rw [e1] at this
  cases this

noncomputable def countNames : Names := [("self", .local), ("__class__", .free), ("super", .globalImplicit)]

theorem count_sound {W : Wd} {K : Frag} {l₀ : List Value} (ok : WdOK W) (AL : AccL W K l₀) {f : Addr} {o : Obj} {fd : FuncData} {p0 p1 p2 p3 p4 : Pos}
    (M : MethAt W f o fd ["self"] [Stmt.Return (some (.Call (.Attribute (.Call (.Name "super" p0) [] [] p1) "__len__" p2) [] [] p3)) p4] countNames) (SA : SupAt W K fd countNames) (hl : (p2.endLine == p3.line) = true)
    (hbind : ∀ a : Value, bindArgs fd ⟨[a], []⟩ = pure ([("self", a)] : List (Str × Value)))
    {A : Around} {F : FM} {s : Shared} {env0 : Env} {a : Addr} {hd : Int} {items : List PV} (hroom : A.depth < recursionLimit) (st : Sits F s.heap) (base : Keep W.hB s.heap) (hsl : SlotOK W F s.heap env0 (.acc hd items) (.ref a)) :
    Ev W.qc W.M A F s (call (.ref f) [.ref a]) (.int items.length) := by
  have hne := ac_ne AL.k base hsl
  refine wpAny_call (meth_frame ok M base hroom (binds := [("self", .ref a)]) (.of_eq (hbind _)) (by decide) (by intro x hx; simp only [List.mem_cons, List.not_mem_nil, or_false] at hx; subst hx; rfl) fun env h₀ tk fr ns keep => ?_)
  obtain ⟨a', dx, vs, n, hh, kk, t, m, ea, e1, e2, rl, off⟩ := hsl
  cases ea
  have en := rl.length
  rw [Array.length_toList] at en
  refine ks_wpAt_execs_cons (ks_wpAt_Return_some ?_)
  refine super_b ok AL.k SA M.at' M.data fr hl (by decide) ns (a := a) (by rfl) (fun b o e => keep _ _ (base b o e)) (keep _ _ e1) hne AL.mro AL.after AL.len type_list_len slot_wd_get.lookup
    (fun s A Q' E' hin hq => wd_get type_list_len (by decide +kernel) hin hq) (by decide) ?_
  intro h' tk' b k hb
  refine call_bound_b hb (by decide) (by decide) (by decide +kernel) entry_list_len (fun A Q' E' hq => check_bound_slot (by decide +kernel) (args_list_len _) hq) ?_
  refine body_len (k _ _ (keep _ _ e1)) ⟨_, rfl, F, Grow.heap st (fun b o e => k _ _ (keep _ _ e)), tk', by rw [en]⟩
end Nw

namespace Nw
set_option tactic.hygienic false

noncomputable def sigLP : Manifest.Signature := { machinery := .positional, full := "list.pop", short := "pop", receiver := .self, params := [{ name := "index", kind := .posOnly, required := false }] }
theorem sig_list_pop : Manifest.signature? "list.pop" = some sigLP := by kernel_rfl

structure AccP (W : Wd) (K : Frag) (l₀ : List Value) (cd : ClassData) : Prop where
  l : AccL W K l₀
  modn : mroIn K W.ac (.type "module") = some false
  typ : typeIn K (.ref W.ac) = some (.type "type")
  cls : clsIn K W.ac = some cd
  chk : ∀ a : Addr, Bind.checkArgs "list.pop" { sigLP with full := s!"{cd.qualname.toString}.{Bind.lastOf "list.pop"}" } ⟨[.ref a], []⟩ = pure ()

theorem looks_clsData {K : Frag} {M : Model} {h : Heap} (X : K.In h) {C : Addr} {cd : ClassData} (hc : clsIn K C = some cd) : Looks M h (classData C) cd := looks_clsIn X hc

theorem check_bound_pop {W : Wd} {K : Frag} {l₀ : List Value} {cd : ClassData} (AP : AccP W K l₀ cd) {A : Around} {E : Value → Shared → Prop} {s : Shared} {a dx : Addr} {vs : Array Value} {n : Nat} {Q : Unit → Shared → Prop} (base : Keep W.hB s.heap) (e1 : s.heap.get? a = some (accObj W.ac dx vs n)) (q : Q () s) :
    wpAny W.M A (checkBoundCall "list.pop" ⟨[.ref a], []⟩) Q E s := by
  have X : K.In s.heap := fun b o e => base b o (AP.l.k.x b o e)
  have tl : Looks W.M s.heap (typeOf (.ref a)) (.ref W.ac) := (Looks.ld e1).andThen .now
  have im : Looks W.M s.heap (isInstance (.ref a) (.type "module")) false := tl.andThen (looks_mroIn X AP.modn)
  obtain ⟨h, g, d, t, os⟩ := s
  unfold checkBoundCall
  rw [sig_list_pop]
  dsimp only
  rw [show builtinKind "list.pop" = some .method by decide +kernel]
  dsimp only
  rw [if_neg (by decide)]
  refine wpAny_bind (im.here ?_)
  rw [if_neg (by decide +kernel)]
  refine wpAny_bind (ks_wpAny_isType_inst e1 (fun c e => by cases e) ?_)
  simp only [Bool.false_eq_true, if_false]
  refine wpAny_bind (tl.here ?_)
  dsimp only
  refine wpAny_bind ((looks_clsData X AP.cls).here ?_)
  refine wpAny_bind ((looks_typeIn X AP.typ).here ?_)
  rw [if_pos (by decide)]
  exact wpAny_of_eq (AP.chk a) q

noncomputable def popNames : Names := [("self", .local), ("__class__", .free), ("super", .globalImplicit)]

/-- what stands of the method that counts -/
structure CountAt (W : Wd) (K : Frag) (fc : Addr) : Prop where
  find : findIn K (.ref W.ac) "part_count" = some (some (.ref fc))
  fn : typeIn K (.ref fc) = some (.type "function")
  call : ∀ {A : Around} {F : FM} {s : Shared} {env0 : Env} {a : Addr} {hd : Int} {items : List PV}, A.depth < recursionLimit → Sits F s.heap → Keep W.hB s.heap → SlotOK W F s.heap env0 (.acc hd items) (.ref a) → Ev W.qc W.M A F s (call (.ref fc) [.ref a]) (.int items.length)
  func : ∃ o fd, W.hB.get? fc = some o ∧ o.data = .func fd

theorem Off.envs {F : FM} {env env' : Env} {a : Addr} (h : Off F env a) (h1 : a ≠ env'.locals) (h2 : ∀ p ∈ env'.cells, a ≠ p.2) : Off F env' a := ⟨h.1, h1, h2⟩

theorem pop_frame {W : Wd} {K : Frag} {l₀ : List Value} {cd : ClassData} (ok : WdOK W) (AP : AccP W K l₀ cd) {fc : Addr} (CA : CountAt W K fc) {f : Addr} {o : Obj} {fd : FuncData} {p1 p2 p3 p4 p5 p6 p7 p8 p9 q0 q1 q2 q3 q4 q5 : Pos} {k1 k2 k3 k4 : Nat}
    (M : MethAt W f o fd ["self"] [Stmt.If (.Compare (.Call (.Attribute (.Name "self" p1) "part_count" p2) [] [] p3) [.Eq] [.Constant (.int 0) k1 p4] p5) [.Return (some (.Tuple [.Constant (.str "") k2 p6, .Constant (.str "") k3 p7] k4 p8)) p9] [] q5,
      Stmt.Return (some (.Call (.Attribute (.Call (.Name "super" q0) [] [] q1) "pop" q2) [] [] q3)) q4] popNames) (SA : SupAt W K fd popNames) (hl : (p2.endLine == p3.line) = true) (hl2 : (q2.endLine == q3.line) = true)
    (hbind : ∀ a : Value, bindArgs fd ⟨[a], []⟩ = pure ([("self", a)] : List (Str × Value)))
    {A : Around} {F : FM} {s : Shared} {env0 : Env} {a dx : Addr} {vs : Array Value} {n : Nat} {hh : Int} {kk t : Tok} {hd : Int} {m : Nat} {items : List PV} (hA : Amb A 2) (st : Sits F s.heap) (base : Keep W.hB s.heap)
    (e1 : s.heap.get? a = some (accObj W.ac dx vs n)) (e2 : F dx = some (sizeDict hh kk t hd m)) (rl : RepL W.qc F items vs.toList) (off : Off F env0 a) {Q : Value → Shared → Prop}
    (h0 : items = [] → ∀ v F' s', Grow F s F' s' → Rep W.qc F' (.tup [.str "", .str ""]) v → Q v s')
    (h1 : ∀ v s1, vs[vs.size - 1]? = some v → items ≠ [] → Grow F s F s1 → Q v { s1 with heap := s1.heap.update a (Obj.mapSeq (·.eraseIdxIfInBounds (vs.size - 1))) }) (hsz : items.length ≤ sizeLine) :
    wpAny W.M A (call (.ref f) [.ref a]) Q NoE s := by
  have hsl : SlotOK W F s.heap env0 (.acc hd items) (.ref a) := ⟨a, dx, vs, n, hh, kk, t, m, rfl, e1, e2, rl, off⟩
  have hne := ac_ne AP.l.k base hsl
  have hdep := hA.depth
  refine wpAny_call (meth_frame ok M base (by lia) (binds := [("self", .ref a)]) (.of_eq (hbind _)) (by decide) (by intro x hx; simp only [List.mem_cons, List.not_mem_nil, or_false] at hx; subst hx; rfl) fun env h₀ tk fr ns keep => ?_)
  have en := rl.length
  rw [Array.length_toList] at en
  have st1 : Sits F h₀ := fun b ob e => keep _ _ (st b ob e)
  have base1 : Keep W.hB h₀ := fun b ob e => keep _ _ (base b ob e)
  have hcells : ∀ p ∈ env.cells, a ≠ p.2 := by
    obtain ⟨cc, hclo, hcell⟩ := SA.clo
    intro p hp
    rw [fr.cells, hclo] at hp
    simp only [List.mem_cons, List.not_mem_nil, or_false] at hp
    subst hp
    rintro rfl
    obtain ⟨oc, f1, f2⟩ := hcell
    have := base _ _ f1
    rw [e1] at this
    cases this
    cases f2
  have hloc : a ≠ env.locals := by
    rintro rfl
    have := fr.new
    rw [e1] at this; cases this
  have hsl1 : SlotOK W F h₀ env (.acc hd items) (.ref a) := ⟨a, dx, vs, n, hh, kk, t, m, rfl, keep _ _ e1, e2, rl, off.envs hloc hcells⟩
  refine ks_wpAt_execs_cons (ks_wpAt_If (wpAt_of_wpAny ?_))
  refine wpAny_isTrue_Compare1 ?_ rfl
  -- self.part_count()
  refine meth_call hl (show 0 < 30 by decide) rfl rfl ?_
  refine frame_name fr (by decide) ns (v := .ref a) (by rfl) (by decide) ?_
  refine method_fnL (K := K) (fun b ob e => base1 _ _ (AP.l.k.x b ob e)) (acc_inst (s := { s with heap := h₀, toks := tk }) st1 (keep _ _ e1) e2) AP.l.k.ga AP.l.k.gat CA.find CA.fn (by kernel_rfl) ?_
  obtain ⟨of, fdf, hof, hofd⟩ := CA.func
  refine callWith_of (trees := backTo p3 (starEach [] env)) rfl (callee_func hof hofd) (wpAny_items_nil ⟨base1, ?_⟩)
  refine (CA.call (A := A.deeper env) (env0 := env) (s := { s with heap := h₀, toks := tk }) (by rw [depth_deeper]; lia) st1 base1 hsl1).use fun v F2 s2 g2 r2 => ?_
  obtain ⟨tv, rfl⟩ := r2
  refine wpAny_Constant_int ?_
  refine P.eq_int ?_
  refine wpAny_truthy_bool ?_
  have gk : Keep s.heap s2.heap := fun b ob e => g2.keep _ _ (keep _ _ e)
  by_cases hz : items = []
  · subst hz
    rw [if_pos (by decide)]
    refine ks_wpAt_execs_cons (ks_wpAt_Return_some (wpAt_of_wpAny ?_))
    rw [arm_eval_Tuple]
    refine wpAny_bind (wpAny_standAt (wpAny_bind ?_))
    refine wpAny_items_cons (wpAny_Constant_str (wpAny_items_cons (wpAny_Constant_str (wpAny_items_nil ?_)) rfl)) rfl
    have gs : Grow F s F { s2 with toks := s2.toks + 1 + 1 + 1 } := by
      have ga : Grow F s F { s with heap := h₀, toks := tk } := Grow.heap st keep
      have gb : Grow F2 s2 F2 { s2 with toks := s2.toks + 1 + 1 + 1 } := Grow.tok g2.sits
      have gc := (ga.trans g2).trans gb
      exact ⟨.refl _, fun b ob e => gc.keep _ _ (st b ob e), gc.keep, fun _ _ e => .inl e, gc.os, gc.gens⟩
    have := ev_newTuple (prog := W.prog) (w := W.w) (A := A.deeper env) (qc := W.qc) (ps := [.str "", .str ""]) (vs := [.str "" (s2.toks + 1), .str "" (s2.toks + 1 + 1)]) (s := { s2 with toks := s2.toks + 1 + 1 + 1 }) (F := F) ⟨_, _, rfl, ⟨_, rfl⟩, _, _, rfl, ⟨_, rfl⟩, rfl⟩ gs.sits (by decide)
    exact this.use fun v F3 s3 g3 r3 => h0 rfl v F3 s3 (gs.trans g3) r3
  · have hzl : ((items.length : Int) == 0) = false := by
      cases items with
      | nil => exact absurd rfl hz
      | cons _ _ => simp; lia
    rw [if_neg (by rw [hzl]; decide)]
    rw [arm_execs_nil]
    refine wpAt_of_wpAny (wpAny_pure ?_)
    dsimp only
    refine ks_wpAt_execs_cons (ks_wpAt_Return_some ?_)
    have ns2 : s2.heap.Ns env.locals (fun x => ([("self", Value.ref a)] : List (Str × Value)).reverse.lookup x) := ns.keeps g2.keep
    refine super_b (s1 := { s2 with toks := s2.toks + 1 }) ok AP.l.k SA M.at' M.data fr hl2 (by decide) ns2 (a := a) (by rfl) (fun b o e => gk _ _ (base b o e)) (gk _ _ e1) hne AP.l.mro AP.l.after AP.l.pop PySem.F.type_list_pop slot_md_get.lookup
      (fun s A Q' E' hin hq => md_get PySem.F.type_list_pop (by decide +kernel) (by decide +kernel) hin hq) (by decide) ?_
    intro h' tk' b k hb
    have hlast : ∃ v, vs[vs.size - 1]? = some v := by
      have : vs.size ≠ 0 := by rw [en]; intro q; exact hz (List.length_eq_zero_iff.mp q)
      exact ⟨_, Array.getElem?_eq_getElem (by lia)⟩
    obtain ⟨v, hv⟩ := hlast
    have e1' : h'.get? a = some (accObj W.ac dx vs n) := k _ _ (gk _ _ e1)
    refine call_bound_b hb (by decide) (by decide) (by decide +kernel) PySem.F.entry_list_pop (fun A Q' E' hq => check_bound_pop AP (fun b o e => k _ _ (gk _ _ (base b o e))) e1' hq) ?_
    refine body_pop e1' (by rw [en]; exact hsz) hv ⟨_, rfl, ?_⟩
    have gs : Grow F s F { s2 with heap := h', toks := tk' } := by
      have ga : Grow F s F { s with heap := h₀, toks := tk } := Grow.heap st keep
      have gb : Grow F2 s2 F2 { s2 with heap := h', toks := tk' } := Grow.heap g2.sits k
      have gc := (ga.trans g2).trans gb
      exact ⟨.refl _, fun b ob e => gc.keep _ _ (st b ob e), gc.keep, fun _ _ e => .inl e, gc.os, gc.gens⟩
    exact h1 v _ hv hz gs
end Nw

namespace Nw
set_option tactic.hygienic false

theorem gi_plain : plainId "list.__getitem__" = true := by decide +kernel
theorem gi_kind : builtinKind "list.__getitem__" = some .method := by decide +kernel
theorem gi_split : splitId "list.__getitem__" = some ("list", "__getitem__") := by decide +kernel
theorem si_plain : plainId "list.__setitem__" = true := by decide +kernel
theorem si_kind : builtinKind "list.__setitem__" = some .slot := by decide +kernel
theorem si_split : splitId "list.__setitem__" = some ("list", "__setitem__") := by decide +kernel

section
variable {prog : Program} {w : World} {A : Around} {E : Value → Shared → Prop} {s : Shared} {K : Frag} {x C : Addr} {ox : Obj} {od : Option Obj} {name : Str}

theorem special_bi {T id : String} {args : List Value} {Q : Option Value → Shared → Prop} (X : K.In s.heap) (I : InstAt s.heap x ox C od) (slot : PySem.Slot T name id)
    (hs : findIn K (.ref C) name = some (some (.builtin id))) (h : wpAny (model prog w) A (call (.builtin id) (.ref x :: args)) (fun v => Q (some v)) E s) : wpAny (model prog w) A (callSpecial? (.ref x) name args) Q E s :=
  wpAny_bind (wpAny_bind (I.type.here ((looks_findIn X hs).here (wpAny_holding (wpAny_bind (wpAny_of_eq (slot.bind _) (wpAny_bind (wpAny_mono h (fun _ _ z => wpAny_pure z) fun _ _ z => z))))))))

theorem seqKey_inst {k : Value} {Q : Value → Shared → Prop} (X : K.In s.heap) (I : InstAt s.heap x ox C od) (hd : mroIn K C (.type "collections.deque") = some false) (h : Q k s) : wpAny (model prog w) A (sequenceKey (.ref x) k name) Q E s := by
  unfold sequenceKey
  refine wpAny_bind (I.type.here ?_)
  refine wpAny_bind ?_
  unfold seqItemTypes
  rw [List.anyM_cons]
  refine wpAny_bind ((looks_mroIn X hd).here ?_)
  dsimp only
  rw [List.anyM_nil]
  refine wpAny_pure ?_
  simp only [Bool.not_false, if_true]
  exact wpAny_pure h

/-- the inner part of a slice's taking -/
theorem sub_slice_parts {sl : Addr} {vl vu : Value} {lo hi : Option Int} {Q : Value × Value × Value → Shared → Prop} (hs : s.heap.IsSliceOf sl vl vu .none) (pl : IsPart vl lo) (pu : IsPart vu hi) (h : Q (rawPart lo, rawPart hi, rawPart none) s) :
    wpAny (model prog w) A (Builtin.List.listSliceParts (.ref sl)) Q E s := by
  obtain ⟨os, hos, hcs, hds⟩ := id hs
  rw [listSliceParts_eq]
  refine wpAny_bind (wpAny_field hos hds (x := .none) rfl (wpAny_bind (wpAny_listPart .none ?_)))
  rw [if_neg (show ¬ ((rawPart none == rawInt 0) = true) from Bool.false_ne_true)]
  refine wpAny_bind (wpAny_field hos hds (x := vl) rfl (wpAny_bind (wpAny_listPart pl ?_)))
  exact wpAny_bind (wpAny_field hos hds (x := vu) rfl (wpAny_bind (wpAny_listPart pu (wpAny_pure h))))

theorem no_subscript {sl : Addr} {Q : Option Int → Shared → Prop} (hT : s.TypeIs (.ref sl) "slice") (h : Q none s) : wpAny (model prog w) A (Builtin.List.listSubscript? (.ref sl)) Q E s := by
  unfold Builtin.List.listSubscript?
  refine wpAny_bind (wpAny_specialOf hT slice_no_index ?_)
  simp only [Option.isNone_none, if_true]
  exact wpAny_pure h

set_option maxHeartbeats 2000000 in
theorem call_getitem_slice {sl : Addr} {c : Value} {d : Option Addr} {vs : Array Value} {n : Nat} {ss : Array (Option Value)} {vl vu : Value} {lo hi : Option Int} {Q : Value → Shared → Prop} (hx : s.heap.get? x = some ⟨c, d, .seq vs n, ss⟩)
    (hin : Looks (model prog w) s.heap (isInstance (.ref x) (.type "list")) true)
    (hs : s.heap.IsSliceOf sl vl vu .none) (pl : IsPart vl lo) (pu : IsPart vu hi) (hsz : vs.size ≤ sizeLine)
    (h : Q (.ref s.heap.objs.size) { s with heap := s.heap.push { cls := .type "list", data := .seq (slicePick vs lo hi none) } }) : wpAny (model prog w) A (call (.builtin "list.__getitem__") [.ref x, .ref sl]) Q E s := by
  obtain ⟨os, hos, hcs, hds⟩ := id hs
  have hT : s.TypeIs (.ref sl) "slice" := ⟨os, hos, hcs⟩
  refine wpAny_call (codeAny_call_builtin (id := "list.__getitem__") gi_plain entry_list_getitem (check_meth (i := "list.__getitem__") (owner := "list") (n := "__getitem__") (rest := [.ref sl]) gi_kind gi_split hin (args_list_getitem (.ref x) (.ref sl)) ?_))
  unfold Builtin.«list.__getitem__»
  refine wpAny_bind (wpAny_of_eq (a := (Value.ref x, Value.ref sl)) rfl ?_)
  dsimp only
  refine wpAny_bind (no_subscript hT ?_)
  dsimp only
  refine wpAny_bind (wpAny_typeOf hT ?_)
  rw [if_neg (by decide)]
  refine wpAny_bind (sub_slice_parts hs pl pu ?_)
  dsimp only
  refine wpAny_bind (wpAny_listItems hx rfl ?_)
  refine wpAny_bind (wpAny_of_eq (sliceIndices_raw lo hi none vs.size (by simp)) ?_)
  exact wpAny_bind (wpAny_newObj_type (wpAny_pure h) (Nat.le_trans (slicePick_size_le vs lo hi none) hsz))

set_option maxHeartbeats 2000000 in
theorem call_setitem_slice {sl l2 : Addr} {c : Value} {d : Option Addr} {vs us : Array Value} {n : Nat} {ss : Array (Option Value)} {vl vu : Value} {lo hi : Option Int} {Q : Value → Shared → Prop} (hx : s.heap.get? x = some ⟨c, d, .seq vs n, ss⟩)
    (hin : Looks (model prog w) s.heap (isInstance (.ref x) (.type "list")) true) (hl2 : s.heap.IsList l2 us) (hne : x ≠ l2)
    (hs : s.heap.IsSliceOf sl vl vu .none) (pl : IsPart vl lo) (pu : IsPart vu hi) (hsz : vs.size + us.size ≤ sizeLine)
    (hlen : (vs.extract 0 (sliceBounds lo hi none vs.size).1.toNat ++ us ++ vs.extract (max (sliceBounds lo hi none vs.size).1 (sliceBounds lo hi none vs.size).2.1).toNat vs.size).size ≤ sizeLine + 1)
    (h : Q .none { s with heap := s.heap.update x (Obj.mapSeq fun xs => xs.extract 0 (sliceBounds lo hi none vs.size).1.toNat ++ us ++ xs.extract (max (sliceBounds lo hi none vs.size).1 (sliceBounds lo hi none vs.size).2.1).toNat xs.size) }) :
    wpAny (model prog w) A (call (.builtin "list.__setitem__") [.ref x, .ref sl, .ref l2]) Q E s := by
  obtain ⟨os, hos, hcs, hds⟩ := id hs
  have hT : s.TypeIs (.ref sl) "slice" := ⟨os, hos, hcs⟩
  obtain ⟨o2, ho2, hc2, n2, hd2⟩ := id hl2
  refine wpAny_call (codeAny_call_builtin (id := "list.__setitem__") si_plain entry_list_setitem (check_slot (i := "list.__setitem__") (owner := "list") (n := "__setitem__") (rest := [.ref sl, .ref l2]) (kw := []) si_kind si_split hin (args_list_setitem (.ref x) (.ref sl) (.ref l2)) ?_))
  unfold Builtin.«list.__setitem__»
  refine wpAny_bind (wpAny_of_eq (a := (Value.ref x, [Value.ref sl, Value.ref l2])) rfl ?_)
  dsimp only
  refine wpAny_bind (no_subscript hT ?_)
  dsimp only
  refine wpAny_bind (wpAny_typeOf hT ?_)
  rw [if_neg (by decide)]
  refine wpAny_bind (sub_slice_parts hs pl pu ?_)
  dsimp only
  have hsame : Builtin.List.listSameRef (.ref x) (.ref l2) = false := by simp [Builtin.List.listSameRef, hne]
  rw [hsame]
  simp only [Bool.false_eq_true, if_false]
  refine wpAny_bind (m := Builtin.List.listAllItems _ _) ?_
  unfold Builtin.List.listAllItems
  refine wpAny_bind (wpAny_typeOf (T := "list") ⟨_, ho2, hc2⟩ ?_)
  rw [if_pos (by decide)]
  first
  | refine wpAny_bind (wpAny_seqItems ho2 hd2 (wpAny_pure ?_))
  | refine wpAny_bind (wpAny_bind (wpAny_seqItems ho2 hd2 (wpAny_pure ?_)))
  refine wpAny_bind (wpAny_listItems hx rfl ?_)
  refine wpAny_bind (wpAny_of_eq (sliceIndices_raw lo hi none vs.size (by simp)) ?_)
  rw [if_pos (by rfl)]
  refine wpAny_bind (wpAny_rule ?_)
  have htl : Builtin.List.listTooLong (vs.size + us.size) = false := by unfold Builtin.List.listTooLong; simp; lia
  rw [htl]
  simp only [Bool.false_eq_true, if_false]
  refine wpAny_bind ?_
  show wpAny _ _ (updateSeq x _) _ _ _
  refine wpAny_updateSeq hx rfl ?_ (by lia) hlen
  exact wpAny_bind (wpAny_letGo (wpAny_pure h))

theorem getItem_inst {sl : Addr} {c : Value} {d : Option Addr} {vs : Array Value} {n : Nat} {ss : Array (Option Value)} {vl vu : Value} {lo hi : Option Int} {Q : Value → Shared → Prop} (X : K.In s.heap) (I : InstAt s.heap x ox C od) (hx : s.heap.get? x = some ⟨c, d, .seq vs n, ss⟩)
    (hd : mroIn K C (.type "collections.deque") = some false) (hg : findIn K (.ref C) "__getitem__" = some (some (.builtin "list.__getitem__"))) (hin : Looks (model prog w) s.heap (isInstance (.ref x) (.type "list")) true)
    (hs : s.heap.IsSliceOf sl vl vu .none) (pl : IsPart vl lo) (pu : IsPart vu hi) (hsz : vs.size ≤ sizeLine)
    (h : Q (.ref s.heap.objs.size) { s with heap := s.heap.push { cls := .type "list", data := .seq (slicePick vs lo hi none) } }) : wpAny (model prog w) A (getItem (.ref x) (.ref sl)) Q E s := by
  unfold getItem
  refine wpAny_holding (wpAny_bind (seqKey_inst X I hd ?_))
  exact wpAny_bind (special_bi X I PySem.F.slot_list_getitem hg (call_getitem_slice hx hin hs pl pu hsz (wpAny_pure h)))

theorem setItem_inst {sl l2 : Addr} {c : Value} {d : Option Addr} {vs us : Array Value} {n : Nat} {ss : Array (Option Value)} {vl vu : Value} {lo hi : Option Int} {Q : Unit → Shared → Prop} (X : K.In s.heap) (I : InstAt s.heap x ox C od) (hx : s.heap.get? x = some ⟨c, d, .seq vs n, ss⟩)
    (hd : mroIn K C (.type "collections.deque") = some false) (hg : findIn K (.ref C) "__setitem__" = some (some (.builtin "list.__setitem__"))) (hin : Looks (model prog w) s.heap (isInstance (.ref x) (.type "list")) true) (hl2 : s.heap.IsList l2 us) (hne : x ≠ l2)
    (hs : s.heap.IsSliceOf sl vl vu .none) (pl : IsPart vl lo) (pu : IsPart vu hi) (hsz : vs.size + us.size ≤ sizeLine)
    (hlen : (vs.extract 0 (sliceBounds lo hi none vs.size).1.toNat ++ us ++ vs.extract (max (sliceBounds lo hi none vs.size).1 (sliceBounds lo hi none vs.size).2.1).toNat vs.size).size ≤ sizeLine + 1)
    (h : Q () { s with heap := s.heap.update x (Obj.mapSeq fun xs => xs.extract 0 (sliceBounds lo hi none vs.size).1.toNat ++ us ++ xs.extract (max (sliceBounds lo hi none vs.size).1 (sliceBounds lo hi none vs.size).2.1).toNat xs.size) }) :
    wpAny (model prog w) A (setItem (.ref x) (.ref sl) (.ref l2)) Q E s := by
  unfold setItem
  refine wpAny_holding (wpAny_bind (seqKey_inst X I hd ?_))
  exact wpAny_bind (special_bi X I PySem.F.slot_list_setitem hg (call_setitem_slice hx hin hl2 hne hs pl pu hsz hlen (wpAny_pure h)))
end
end Nw

namespace Nw
set_option tactic.hygienic false

/-- what stands of the pile's class, for slices -/
structure AccS (W : Wd) (K : Frag) : Prop where
  k : AccK W K
  deq : mroIn K W.ac (.type "collections.deque") = some false
  geti : findIn K (.ref W.ac) "__getitem__" = some (some (.builtin "list.__getitem__"))
  seti : findIn K (.ref W.ac) "__setitem__" = some (some (.builtin "list.__setitem__"))

theorem subscriptTail_inst {W : Wd} {K : Frag} {A : Around} {E : Value → Shared → Prop} {s : Shared} {x C : Addr} {ox : Obj} {od : Option Obj} {value slice : Expr} {i : Value} {Q : Value → Shared → Prop} {id : String} (X : K.In s.heap) (I : InstAt s.heap x ox C od)
    (hg : findIn K (.ref C) "__getitem__" = some (some (.builtin id))) (h : wpAny W.M A (getItem (.ref x) i) Q E s) : wpAny W.M A (subscriptTail value slice (.ref x) i) Q E s := by
  obtain ⟨ops, hs⟩ := subscripted_ops slice (.ref x) i
  unfold subscriptTail
  refine wpAny_bind ?_
  rw [getitemInPython_of_ne (by simp)]
  refine wpAny_bind (wpAny_bind (I.type.here ((looks_findIn X hg).here ?_)))
  have fin : wpAny W.M A (subscripted slice false (.ref x) i) (fun r s₃ => wpAny W.M A (letTemporaryGo value (.ref x) r >>= fun _ => pure r) Q E s₃) E s := by
    rw [hs]
    exact wpAny_operating (wpAny_mono h (fun r s₃ h₃ => wpAny_bind (wpAny_letTemporaryGo (wpAny_pure h₃))) fun _ _ x => x)
  first
    | exact wpAny_pure (wpAny_bind fin)
    | exact wpAny_pure fin

noncomputable def pfNames : Names := [("self", .local), ("i", .local), ("popped", .local)]

theorem bounds_from {j : Int} {n : Nat} (h0 : 0 ≤ j) (h1 : j ≤ n) : sliceBounds (some j) none none n = (j, (n : Int), 1) := by
  unfold sliceBounds
  simp only [Option.getD_none, show (1 : Int) > 0 by decide, if_true]
  have : ¬ j < 0 := by lia
  simp only [this, if_false]
  congr 1
  lia

theorem popfrom_sound {W : Wd} {K : Frag} (ok : WdOK W) (AS : AccS W K) {f : Addr} {o : Obj} {fd : FuncData} {p1 p2 p3 p4 p5 p6 q1 q2 q3 q4 q5 q6 r1 r2 : Pos}
    (M : MethAt W f o fd ["self", "i"] [Stmt.Assign [.Name "popped" p1] (.Subscript (.Name "self" p2) (.Slice (some (.Name "i" p3)) none none p4) p5) p6,
      Stmt.Assign [.Subscript (.Name "self" q1) (.Slice (some (.Name "i" q2)) none none q3) q4] (.List [] q5) q6, Stmt.Return (some (.Name "popped" r1)) r2] pfNames)
    {args : List Value} {A : Around} {F : FM} {s : Shared} {env0 : Env} {a : Addr} {j : Int} {ti : Tok} {hd : Int} {items : List PV} (hbind : BindsTo s fd ⟨args, []⟩ [("self", .ref a), ("i", .int j ti)]) (hA : Amb A 2) (st : Sits F s.heap) (base : Keep W.hB s.heap)
    (hsl : SlotOK W F s.heap env0 (.acc hd items) (.ref a)) (hj0 : 0 ≤ j) (hj1 : j ≤ items.length) (hsz : items.length ≤ sizeLine) :
    wpAny W.M A (call (.ref f) args) (fun rv s' => ∃ F', GrowBut a F s F' s' ∧ SlotOK W F' s'.heap env0 (.acc hd (items.take j.toNat)) (.ref a) ∧ Rep W.qc F' (.list (items.drop j.toNat)) rv) NoE s := by
  have hdep := hA.depth
  refine wpAny_call (meth_frame ok M base (by lia) (binds := [("self", .ref a), ("i", .int j ti)]) hbind (by decide) (by intro x hx; simp only [List.mem_cons, List.not_mem_nil, or_false] at hx; rcases hx with rfl | rfl <;> rfl) fun env h₀ tk fr ns keep => wpAt_of_wpAny ?_)
  obtain ⟨a', dx, vs, n, hh, kk, t, m, ea, e1, e2, rl, off⟩ := hsl
  cases ea
  have en := rl.length
  rw [Array.length_toList] at en
  have st1 : Sits F h₀ := fun b ob e => keep _ _ (st b ob e)
  have base1 : Keep W.hB h₀ := fun b ob e => keep _ _ (base b ob e)
  have e1' := keep _ _ e1
  have hX : ∀ h' : Heap, Keep h₀ h' → K.In h' := fun h' k b ob e => k _ _ (base1 b ob (AS.k.x b ob e))
  have hI : ∀ (s' : Shared), Keep h₀ s'.heap → InstAt s'.heap a (accObj W.ac dx vs n) W.ac (some (sizeDict hh kk t hd m)) := fun s' k => acc_inst (s := s') (F := F) (fun b ob e => k _ _ (st1 b ob e)) (k _ _ e1') e2
  have hin : ∀ h' : Heap, Keep h₀ h' → Looks W.M h' (isInstance (.ref a) (.type "list")) true := fun h' k => by
    have Y := (makesL_of (M := W.M) AS.k.x AS.k.makes).top.keeps (fun b ob e => k _ _ (base1 b ob e))
    have tl : Looks W.M h' (typeOf (.ref a)) (.ref W.ac) := (Looks.ld (k _ _ e1')).andThen .now
    exact tl.andThen Y
  have hloc : a ≠ env.locals := by
    rintro rfl
    have := fr.new
    rw [e1] at this; cases this
  have hej : j = (j.toNat : Int) := by lia
  rw [arm_execs_cons]
  refine wpAny_bind (assign_plain rfl (Subscript_ ?_))
  refine frame_name fr (by decide) ns (v := .ref a) (by rfl) (by decide) ?_
  refine wpAny_Slice ?_
  rw [evalPart_some]
  refine frame_name fr (by decide) ns (v := .int j ti) (by rfl) (by decide) ?_
  rw [evalPart_none]
  refine wpAny_pure (wpAny_pure ?_)
  have k1 : Keep h₀ (h₀.push (sliceObj (.int j ti) .none)) := Keep.push _ _
  refine subscriptTail_inst (hX _ k1) (hI { s with heap := h₀.push (sliceObj (.int j ti) .none), toks := tk } k1) AS.geti ?_
  refine getItem_inst (s := { s with heap := h₀.push (sliceObj (.int j ti) .none), toks := tk }) (hX _ k1) (hI { s with heap := h₀.push (sliceObj (.int j ti) .none), toks := tk } k1) (k1 _ _ e1') AS.deq AS.geti (hin _ k1) (Heap.IsSliceOf.new ..) (.int j ti) .none (by rw [en]; exact hsz) ?_
  -- popped stored
  generalize hp1 : h₀.push (sliceObj (.int j ti) .none) = h1 at *
  have k2 : Keep h₀ (h1.push { cls := .type "list", data := .seq (slicePick vs (some j) none none) }) := fun b ob e => Heap.get?_push_of_some _ (k1 b ob e)
  have hl2 : (h1.push { cls := .type "list", data := .seq (slicePick vs (some j) none none) }).get? h1.objs.size = some { cls := .type "list", data := .seq (slicePick vs (some j) none none) } := Heap.get?_push_size _ rfl
  have hnew : s.heap.get? h1.objs.size = none := none_keep keep (none_keep k1 (push_new _))
  have ns2 := ns.keeps k2
  refine wpAny_storeName_local ((fr.kindOf _).trans (by decide)) ns2 (fun h2 ns3 sb => ?_) (by rw [fr.kind]; rfl)
  have hne2 : h1.objs.size ≠ env.locals := by
    rintro e
    obtain ⟨ob, es, ep, f1, _⟩ := ns.keeps k1
    exact Nat.lt_irrefl _ (e ▸ Heap.lt_size f1)
  have k3 : ∀ b ob, b ≠ env.locals → (h1.push { cls := .type "list", data := .seq (slicePick vs (some j) none none) }).get? b = some ob → h2.get? b = some ob := fun b ob hb e => (sb.2 b hb).trans e
  have keep3 : Keep s.heap h2 := fun b ob e => k3 b ob (by rintro rfl; have := fr.new; rw [e] at this; cases this) (k2 _ _ (keep _ _ e))
  have e3 : h2.get? a = some (accObj W.ac dx vs n) := keep3 _ _ e1
  have hX3 : K.In h2 := fun b ob e => keep3 _ _ (base b ob (AS.k.x b ob e))
  dsimp only
  rw [arm_execs_cons]
  refine wpAny_bind (wpAny_Assign_Subscript ?_ rfl)
  rw [arm_eval_List]
  refine wpAny_bind (wpAny_standAt (wpAny_bind (wpAny_items_nil (wpAny_newObj_type ?_))))
  have ns4 : (h2.push { cls := .type "list", data := .seq ([] : List Value).toArray }).Ns env.locals _ := ns3.keeps (Keep.push _ _)
  refine frame_name fr (by decide) ns4 (v := .ref a) (by rfl) (by decide) ?_
  refine wpAny_Slice ?_
  rw [evalPart_some]
  refine frame_name fr (by decide) ns4 (v := .int j ti) (by rfl) (by decide) ?_
  rw [evalPart_none]
  refine wpAny_pure (wpAny_pure ?_)
  generalize hp3 : h2.push { cls := .type "list", data := .seq ([] : List Value).toArray } = h3 at *
  have hl3 : h3.get? h2.objs.size = some { cls := .type "list", data := .seq ([] : List Value).toArray } := by rw [← hp3]; exact Heap.get?_push_size _ rfl
  have k4 : Keep h2 (h3.push (sliceObj (.int j ti) .none)) := fun b ob e => Heap.get?_push_of_some _ (by rw [← hp3]; exact Heap.get?_push_of_some _ e)
  have hin4 : Looks W.M (h3.push (sliceObj (.int j ti) .none)) (isInstance (.ref a) (.type "list")) true := by
    have Y := (makesL_of (M := W.M) AS.k.x AS.k.makes).top.keeps (fun b ob e => k4 _ _ (keep3 _ _ (base b ob e)))
    have tl : Looks W.M (h3.push (sliceObj (.int j ti) .none)) (typeOf (.ref a)) (.ref W.ac) := (Looks.ld (k4 _ _ e3)).andThen .now
    exact tl.andThen Y
  have e4 : (h3.push (sliceObj (.int j ti) .none)).get? a = some (accObj W.ac dx vs n) := k4 _ _ e3
  have st3 : Sits F h2 := fun b ob e => keep3 _ _ (st b ob e)
  have hI4 : InstAt (h3.push (sliceObj (.int j ti) .none)) a (accObj W.ac dx vs n) W.ac (some (sizeDict hh kk t hd m)) := ⟨e4, rfl, rfl, k4 _ _ (st3 _ _ e2)⟩
  have hb : sliceBounds (some j) none none vs.size = (j, (vs.size : Int), 1) := bounds_from hj0 (by rw [en]; exact hj1)
  have hane : a ≠ h2.objs.size := Nat.ne_of_lt (Heap.lt_size e3)
  have hext : ∀ xs : Array Value, xs.size = vs.size → (xs.extract 0 (sliceBounds (some j) none none vs.size).1.toNat ++ #[] ++ xs.extract (max (sliceBounds (some j) none none vs.size).1 (sliceBounds (some j) none none vs.size).2.1).toNat xs.size) = (xs.toList.take j.toNat).toArray := by
    intro xs hxs
    rw [hb]
    have hmx : (max j (vs.size : Int)).toNat = vs.size := by lia
    simp only [hmx]
    rw [← hxs]
    apply Array.toList_inj.mp
    simp
  refine setItem_inst (s := { s with heap := h3.push (sliceObj (.int j ti) .none), toks := tk + 1 }) (us := #[]) (fun b ob e => k4 _ _ (hX3 b ob e)) hI4 e4 AS.deq AS.seti hin4 ⟨_, Heap.get?_push_of_some _ hl3, rfl, 0, rfl⟩ hane (Heap.IsSliceOf.new ..) (.int j ti) .none (by simp; lia) ?_ ?_
  · rw [hext vs rfl]
    simp; lia
  · dsimp only
    rw [arm_execs_cons]
    have hup : ((h3.push (sliceObj (.int j ti) .none)).update a (Obj.mapSeq fun xs => xs.extract 0 (sliceBounds (some j) none none vs.size).1.toNat ++ #[] ++ xs.extract (max (sliceBounds (some j) none none vs.size).1 (sliceBounds (some j) none none vs.size).2.1).toNat xs.size)).get? a = some (accObj W.ac dx (vs.toList.take j.toNat).toArray (if (vs.toList.take j.toNat).toArray.size == vs.size then n else n + 1)) := by
      rw [Heap.get?_update_self _ e4 (by simp [Obj.mapSeq, Obj.isFreed])]
      simp only [Obj.mapSeq, hext vs rfl]
    generalize hp5 : (h3.push (sliceObj (.int j ti) .none)).update a (Obj.mapSeq fun xs => xs.extract 0 (sliceBounds (some j) none none vs.size).1.toNat ++ #[] ++ xs.extract (max (sliceBounds (some j) none none vs.size).1 (sliceBounds (some j) none none vs.size).2.1).toNat xs.size) = h5 at *
    have sb5 : Heap.SameBut a (h3.push (sliceObj (.int j ti) .none)) h5 := by rw [← hp5]; exact Heap.SameBut.update ..
    have ns5 : h5.Ns env.locals _ := ns4.keeps (fun b ob e => Heap.get?_push_of_some _ e) |>.sameBut sb5 (Ne.symm hloc)
    refine wpAny_bind (wpAny_Return_some ?_)
    refine frame_name fr (by decide) ns5 (v := .ref h1.objs.size) (by rfl) (by decide) ?_
    refine wpAny_pure ?_
    dsimp only
    have hnea : a ≠ h1.objs.size := Nat.ne_of_lt (Heap.lt_size (k1 _ _ e1'))
    have hlist5 : h5.get? h1.objs.size = some { cls := .type "list", data := .seq (slicePick vs (some j) none none) } := (sb5.2 _ (Ne.symm hnea)).trans (k4 _ _ (k3 _ _ hne2 hl2))
    have keep5 : ∀ b ob, b ≠ a → s.heap.get? b = some ob → h5.get? b = some ob := fun b ob hb' e => (sb5.2 b hb').trans (k4 _ _ (keep3 _ _ e))
    have le : F.le (F.put h1.objs.size { cls := .type "list", data := .seq (slicePick vs (some j) none none) }) := fun b ob e => by
      unfold FM.put
      rw [if_neg]
      · exact e
      · rintro rfl; rw [st _ _ e] at hnew; cases hnew
    have hFa : (F.put h1.objs.size { cls := .type "list", data := .seq (slicePick vs (some j) none none) }) a = none := by
      unfold FM.put; rw [if_neg hnea]; exact off.1
    refine ⟨F.put h1.objs.size { cls := .type "list", data := .seq (slicePick vs (some j) none none) }, ⟨le, fun b ob e => ?_, keep5, fun b ob e => ?_, rfl, id⟩, ⟨a, dx, _, _, hh, kk, t, m, rfl, hup, le _ _ e2, ?_, hFa, off.2⟩, _, _, slicePick vs (some j) none none, 0, rfl, FM.put_self _ _ _, rfl, rfl, ?_⟩
    · unfold FM.put at e
      split at e
      · rename_i q; cases e; subst q; exact hlist5
      · exact keep5 _ _ (by rintro rfl; rw [off.1] at e; cases e) (st _ _ e)
    · unfold FM.put at e
      split at e
      · rename_i q; subst q; exact .inr hnew
      · exact .inl e
    · simpa using RepL.mono _ le (rl.take j.toNat)
    · have hsp : (slicePick vs (some j) none none).toList = vs.toList.drop j.toNat := by
        conv => lhs; rw [hej]
        rw [slicePick_from']
      rw [hsp]
      exact RepL.mono _ le (rl.drop j.toNat)
end Nw

namespace Nw
section
open PySem.Builtin PySem.Builtin.ObjectAttr
set_option tactic.hygienic false

/-- an instance's first own attribute -/
theorem set_first {prog : Program} {w : World} {A : Around} {E : Value → Shared → Prop} {s : Shared} {K : Frag} {x C dx : Addr} {ox : Obj} {cd : ClassData} {name : Str} {v : Value} {Q : Unit → Shared → Prop} (X : K.In s.heap) (I : InstAt s.heap x ox C (some (dictOf [] 0))) (hd : ox.dict = some dx)
    (hs : findIn K (.ref C) "__setattr__" = some (some (.builtin "object.__setattr__"))) (ht : takerIn K C name = some none) (hc : clsIn K C = some cd) (hdict : cd.hasDict = true) (hpass : refuseLoop (.ref x) "__setattr__" cd.mro = pure ()) (hobj : cd.mro.contains (.type "object") = true)
    (h : Q () { s with heap := s.heap.update dx (Obj.putName name (PyData.keyHash w.params name) (.str name (s.toks + 1)) v), toks := s.toks + 2 }) :
    wpAny (model prog w) A (setAttr (.ref x) name v) Q E s := by
  have SF := PySem.F.store_object
  refine set_plain X I hs ?_
  obtain ⟨hh, g, d, t, os⟩ := s
  have ne : cd.mro.isEmpty = false := by cases q : cd.mro with | nil => rw [q] at hobj; cases hobj | cons _ _ => rfl
  have sub : Looks (model prog w) hh (isInstance (.ref x) (.type "object")) true := I.type.andThen (looks_mroIn X (by unfold mroIn; rw [hc, Option.bind_some, if_neg (by rw [ne]; decide), hobj]))
  refine codeAny_call_builtin SF.slot.plain SF.entry (@check_slot (model prog w) _ _ ⟨hh, g, d, t + 1, os⟩ "object.__setattr__" "object" "__setattr__" (.ref x) [.str name t, v] [] _ SF.kind SF.split sub (SF.args (.ref x) (.str name t) v) ?_)
  obtain ⟨attr, ha, hr⟩ := Option.bind_eq_some_iff.mp ht
  have hm : Looks (model prog w) hh (mroOf (.ref C)) cd.mro := (looks_clsIn X hc).andThen .now
  have L3 : Looks (model prog w) hh (storeTaker? attr) none := by
    cases attr with
    | none => exact .now
    | some a =>
      obtain ⟨b, hb, hr⟩ := Option.map_eq_some_iff.mp hr
      refine (looks_takesIn X hb).andThen ?_
      cases b
      · exact .now
      · cases hr
  rw [osa_eq, refuse_eq]
  have L1 : Looks (model prog w) hh (typeOf (.ref x)) (.ref C) := I.type
  have L2 : Looks (model prog w) hh (typeLookup (.ref C) name) attr := looks_findIn X ha
  refine wpAny_bind (wpAny_bind (L1.at (wpAny_bind (hm.at ?_))))
  rw [hpass]
  refine wpAny_pure (wpAny_bind (L1.at (wpAny_bind (L2.at (wpAny_bind (L3.at ?_))))))
  have L4 : Looks (model prog w) hh (classData C) cd := looks_clsIn X hc
  obtain ⟨hx, hcl, hn, hdd⟩ := I
  obtain ⟨oc, odi, oda, osl⟩ := ox
  dsimp only at hcl hd hdd
  subst hcl hd
  refine wpAny_bind (wpAny_pure (wpAny_bind (wpAny_bind (wpAny_loadPart hx (wpAny_bind (L4.at ?_))))))
  rw [hdict]
  refine wpAny_pure (a := some dx) (wpAny_bind (wpAny_pure (wpAny_bind ?_)))
  unfold nsSet
  refine wpAny_bind (wpAny_bind (wpAny_askSetting (wpAny_pure (wpAny_bind (wpAny_mkText (wpAny_bind (wpAny_loadPart hdd ?_)))))))
  have c : (!(([] : List DictEntry).toArray).any (·.key.isStr name) && (([] : List DictEntry).toArray).any (·.refKey)) = false := by simp
  dsimp only
  rw [aRefKeyMayBeTheName_at, c]
  refine wpAny_updatePart hdd ?_
  have D' : (hh.update dx (Obj.putName name (PyData.keyHash w.params name) (.str name (t + 1)) v)).get? dx = some (dictOf [⟨PyData.keyHash w.params name, .str name (t + 1), v⟩] 1) := by
    rw [Heap.get?_update_self _ hdd (by rw [putName_dict]; rfl), putName_dict]
    rfl
  refine wpAny_bind (wpAny_lookBehind D' (pastItsLine_dict (by rw [List.size_toArray, sizeLine_eq]; simp)) ?_)
  exact wpAny_pure h
end
end Nw

namespace Nw
set_option tactic.hygienic false

structure AccI (W : Wd) (K : Frag) (l₀ : List Value) (cd : ClassData) (fI : Addr) : Prop where
  l : AccL W K l₀
  cls : clsIn K W.ac = some cd
  find : findIn K (.ref W.ac) "__init__" = some (some (.ref fI))
  fn : typeIn K (.ref fI) = some (.type "function")
  seta : findIn K (.ref W.ac) "__setattr__" = some (some (.builtin "object.__setattr__"))
  taker : takerIn K W.ac "_initial_size" = some none
  dict : cd.hasDict = true
  pass : ∀ x, refuseLoop (.ref x) "__setattr__" cd.mro = pure ()
  obj : cd.mro.contains (.type "object") = true

noncomputable def initNames : Names := [("self", .local), ("initial_size", .local), ("__class__", .free), ("super", .globalImplicit)]

theorem li_plain : plainId "list.__init__" = true := by decide +kernel
theorem li_kind : builtinKind "list.__init__" = some .slot := by decide +kernel
theorem mw_ok : (Value.type "method-wrapper" == .type "method" || Value.type "method-wrapper" == .type "builtin_function_or_method" || Value.type "method-wrapper" == .type "method-wrapper") = true := by decide
theorem mw_ok2 : (Value.type "method-wrapper" != .type "method") = true := by decide

set_option maxHeartbeats 1000000 in
theorem acc_make {W : Wd} {K : Frag} {l₀ : List Value} {cd : ClassData} {fI : Addr} (ok : WdOK W) (AI : AccI W K l₀ cd fI) {o : Obj} {fd : FuncData} {p1 p2 p3 p4 q0 q1 q2 q3 q4 : Pos}
    (M : MethAt W fI o fd ["self", "initial_size"] [Stmt.Assign [.Attribute (.Name "self" p1) "_initial_size" p2] (.Name "initial_size" p3) p4, Stmt.Expr (.Call (.Attribute (.Call (.Name "super" q0) [] [] q1) "__init__" q2) [] [] q3) q4] initNames)
    (SA : SupAt W K fd initNames) (hl : (q2.endLine == q3.line) = true) (hbind : ∀ (s : Shared) (a b : Value), Keep W.hB s.heap → BindsTo s fd ⟨[a, b], []⟩ [("self", a), ("initial_size", b)])
    {A : Around} {F : FM} {s : Shared} {hd : Int} {t : Tok} (hA : Amb A 2) (st : Sits F s.heap) (base : Keep W.hB s.heap) :
    wpAny W.M A (call (.ref W.ac) [.int hd t]) (fun v s' => NewAcc W F s hd v s') NoE s := by
  have hdep := hA.depth
  obtain ⟨h, g, d, tk, os⟩ := s
  have X : K.In h := fun b ob e => base b ob (AI.l.k.x b ob e)
  refine wpAny_call (makeL_core (makesL_of X AI.l.k.makes) (looks_findIn X AI.find) (fun self => bind_fn X self AI.fn) ?_)
  have k1 : Keep h ((h.push emptyDict).push (listInst W.ac h.objs.size)) := fun b ob e => Heap.get?_push_of_some _ (Heap.get?_push_of_some _ e)
  have hx : ((h.push emptyDict).push (listInst W.ac h.objs.size)).get? (h.objs.size + 1) = some (listInst W.ac h.objs.size) := by heap_get
  have hdx : ((h.push emptyDict).push (listInst W.ac h.objs.size)).get? h.objs.size = some emptyDict := Heap.get?_push_of_some _ (Heap.get?_push_size _ rfl)
  generalize hp : (h.push emptyDict).push (listInst W.ac h.objs.size) = h1 at *
  refine meth_frame (s := ⟨h1, g, d, tk, os⟩) ok M (fun b ob e => k1 _ _ (base b ob e)) ?_ (hbind _ _ _ (fun b ob e => k1 _ _ (base b ob e))) (by decide) (by intro x hx; simp only [List.mem_cons, List.not_mem_nil, or_false] at hx; rcases hx with rfl | rfl <;> rfl) fun env h₀ tk2 fr ns keep => ?_
  · show A.depth + (Code.builtin "type.__call__" ⟨[.ref W.ac, .int hd t], []⟩).weight < recursionLimit
    have hw : (Code.builtin "type.__call__" ⟨[.ref W.ac, .int hd t], []⟩).weight ≤ 1 := by first | exact Nat.le_refl 1 | exact Nat.zero_le 1
    lia
  have k2 : Keep h h₀ := fun b ob e => keep _ _ (k1 _ _ e)
  refine ks_wpAt_execs_cons (ks_wpAt_Assign_Attr (wpAt_of_wpAny ?_) rfl)
  refine frame_name fr (by decide) ns (v := .int hd t) (by rfl) (by decide) ?_
  refine frame_name fr (by decide) ns (v := .ref (h.objs.size + 1)) (by rfl) (by decide) ?_
  refine set_first (s := { heap := h₀, gens := g, drawn := d, toks := tk2, os := os }) (fun b ob e => k2 _ _ (X b ob e)) ⟨keep _ _ hx, rfl, rfl, keep _ _ hdx⟩ rfl AI.seta AI.taker AI.cls AI.dict (AI.pass _) AI.obj ?_
  dsimp only
  have hdx0 := keep _ _ hdx
  have hx0 := keep _ _ hx
  generalize hkk : PyData.keyHash W.w.params (Str.ofString "_initial_size") = hash
  have hdne : h.objs.size ≠ h.objs.size + 1 := Nat.ne_of_lt (Nat.lt_succ_self _)
  have hup : (h₀.update h.objs.size (Obj.putName (Str.ofString "_initial_size") hash (.str (Str.ofString "_initial_size") (tk2 + 1)) (.int hd t))).get? h.objs.size = some (sizeDict hash (tk2 + 1) t hd 1) := by
    rw [Heap.get?_update_self _ hdx0 (by rw [show emptyDict = dictOf [] 0 from rfl, putName_dict]; rfl), show emptyDict = dictOf [] 0 from rfl, putName_dict]
    rfl
  have sb : Heap.SameBut h.objs.size h₀ (h₀.update h.objs.size (Obj.putName (Str.ofString "_initial_size") hash (.str (Str.ofString "_initial_size") (tk2 + 1)) (.int hd t))) := Heap.SameBut.update ..
  generalize hp2 : h₀.update h.objs.size (Obj.putName (Str.ofString "_initial_size") hash (.str (Str.ofString "_initial_size") (tk2 + 1)) (.int hd t)) = h2 at *
  have hfr : h.get? h.objs.size = none := push_new _
  have hfr1 : h.get? (h.objs.size + 1) = none := by
    cases q : h.get? (h.objs.size + 1) with
    | none => rfl
    | some ob => exact absurd (Heap.lt_size q) (Nat.not_lt.mpr (Nat.le_succ _))
  have k3 : Keep h h2 := fun b ob e => (sb.2 b (by rintro rfl; rw [hfr] at e; cases e)).trans (k2 _ _ e)
  have hx2 : h2.get? (h.objs.size + 1) = some (accObj W.ac h.objs.size #[] 0) := (sb.2 _ (Ne.symm hdne)).trans hx0
  have hlocne : env.locals ≠ h.objs.size := by
    rintro e
    have := fr.new
    rw [e] at this
    have h' : h1.get? h.objs.size = none := this
    rw [hdx] at h'; cases h'
  have ns2 : h2.Ns env.locals _ := ns.sameBut sb hlocne
  have hne : h.objs.size + 1 ≠ W.ac := by
    obtain ⟨⟨oc, od, cd', sl, hac, _⟩, _⟩ := makesL_of (M := W.M) X AI.l.k.makes
    rintro e
    rw [← e, hfr1] at hac
    cases hac
  refine ks_wpAt_execs_cons (ks_wpAt_Expr_any ?_ ?_ rfl)
  · refine super_b (s1 := { heap := h2, gens := g, drawn := d, toks := tk2 + 2, os := os }) ok AI.l.k SA M.at' M.data fr hl (by decide) ns2 (a := h.objs.size + 1) (by rfl) (fun b o e => k3 _ _ (base b o e)) hx2 hne AI.l.mro AI.l.after AI.l.init type_list_init slot_wd_get.lookup
      (fun s A Q' E' hin hq => wd_get type_list_init (by decide +kernel) hin hq) (by decide) ?_
    intro h' tk' b k hb
    refine call_bound_b (id := "list.__init__") (T := "method-wrapper") (x := h.objs.size + 1) (args := []) hb mw_ok mw_ok2 li_plain PySem.F.entry_list_init (fun A Q' E' hq => check_bound_slot (i := "list.__init__") (rest := []) li_kind (PySem.F.args_list_init_1 (.ref (h.objs.size + 1))) hq) ?_
    refine body_init (k _ _ hx2) (by simp) ⟨_, rfl, ?_⟩
    rw [arm_execs_nil]
    refine wpAt_of_wpAny (wpAny_pure ⟨rfl, ?_⟩)
    have hx3 : (h'.update (h.objs.size + 1) (Obj.mapSeq fun _ => #[])).get? (h.objs.size + 1) = some (accObj W.ac h.objs.size #[] 0) := by
      rw [Heap.get?_update_self _ (k _ _ hx2) (by simp [Obj.mapSeq, Obj.isFreed])]
      simp [Obj.mapSeq]
    have sb3 : Heap.SameBut (h.objs.size + 1) h' (h'.update (h.objs.size + 1) (Obj.mapSeq fun _ => #[])) := Heap.SameBut.update ..
    have k4 : Keep h (h'.update (h.objs.size + 1) (Obj.mapSeq fun _ => #[])) := fun b ob e => (sb3.2 b (by rintro rfl; rw [hfr1] at e; cases e)).trans (k _ _ (k3 _ _ e))
    have hd4 : (h'.update (h.objs.size + 1) (Obj.mapSeq fun _ => #[])).get? h.objs.size = some (sizeDict hash (tk2 + 1) t hd 1) := (sb3.2 _ hdne).trans (k _ _ hup)
    have hF1 : F (h.objs.size + 1) = none := by
      cases q : F (h.objs.size + 1) with
      | none => rfl
      | some ob =>
        have q2 : h.get? (h.objs.size + 1) = some ob := st _ _ q
        rw [hfr1] at q2; cases q2
    refine ⟨F.put h.objs.size (sizeDict hash (tk2 + 1) t hd 1), h.objs.size + 1, h.objs.size, hash, tk2 + 1, t, 1, 0, Grow.put (s := { heap := h, gens := g, drawn := d, toks := tk, os := os }) st k4 hfr hd4, rfl, hfr1, ?_, hx3, FM.put_self _ _ _⟩
    unfold FM.put
    rw [if_neg (Ne.symm hdne)]
    exact hF1
  · unfold interactive; rw [fr.kind]; rfl
end Nw

namespace Nw

noncomputable def qnText (y z : Str) : Str := if z.length = 0 then y else Str.ofString "{" ++ y ++ Str.ofString "}" ++ z

theorem field_s {W : Wd} {s s1 : Shared} {f : Addr} {fd : FuncData} {names : Names} {env : Env} {A : Around} {x : Str} {pos p1 : Pos} {y : Str} {t : Tok} {m : Str → Option Value} {Q : Value → Shared → Prop} {E : Value → Shared → Prop} (fr : FrameIs W s f fd names env)
    (hn : names.lookup x = some .local) (ns : s1.heap.Ns env.locals m) (hv : m x = some (.str y t)) (hd : (x == ("__debug__" : Str)) = false) (hy : y.length ≤ sizeLine) (h : ∀ t' tk, Q (.str y t') { s1 with toks := tk }) : wpAny W.M A (eval (.FormattedValue (.Name x pos) 115 none p1) env) Q E s1 := by
  refine wpAny_FormattedValue_s (frame_name fr hn ns hv hd ?_)
  show wpAny _ _ (habitSame _ _) _ _ _
  exact habitSame_str (fun t' tk => formatField_str (fun t2 tk2 => h t2 tk2) hy) hy

theorem joined_pair {W : Wd} {s s1 : Shared} {f : Addr} {fd : FuncData} {names : Names} {env : Env} {A : Around} {x x2 : Str} {q1 q2 p1 p2 p3 p4 p5 : Pos} {k1 k2 : Nat} {y z : Str} {t u : Tok} {m : Str → Option Value} {Q : Value → Shared → Prop} {E : Value → Shared → Prop} (fr : FrameIs W s f fd names env)
    (hn : names.lookup x = some .local) (hn2 : names.lookup x2 = some .local) (ns : s1.heap.Ns env.locals m) (hv : m x = some (.str y t)) (hv2 : m x2 = some (.str z u)) (hd : (x == ("__debug__" : Str)) = false) (hd2 : (x2 == ("__debug__" : Str)) = false)
    (hy : y.length + z.length + 2 ≤ sizeLine) (h : ∀ t' tk, Q (.str (Str.ofString "{" ++ y ++ Str.ofString "}" ++ z) t') { s1 with toks := tk }) :
    wpAny W.M A (eval (.JoinedStr [.Constant (.str (Str.ofString "{")) k1 p1, .FormattedValue (.Name x q1) 115 none p2, .Constant (.str (Str.ofString "}")) k2 p3, .FormattedValue (.Name x2 q2) 115 none p4] p5) env) Q E s1 := by
  have l1 : (Str.ofString "{").length = 1 := by decide +kernel
  have l2 : (Str.ofString "}").length = 1 := by decide +kernel
  have l0 : Str.empty.length = 0 := by decide +kernel
  have e0 : Str.empty ++ Str.ofString "{" = Str.ofString "{" := by decide +kernel
  refine JoinedStr_many (joinParts_cons (wpAny_Constant_str ⟨by rw [Str.length_append]; lia, ?_⟩))
  rw [e0]
  refine joinParts_cons (field_s fr hn ns hv hd (by lia) fun _ _ => ⟨by rw [Str.length_append]; lia, ?_⟩)
  refine joinParts_consE (joinParts_cons (wpAny_Constant_str ⟨by rw [Str.length_append, Str.length_append]; lia, ?_⟩))
  refine joinParts_consE (joinParts_cons (field_s fr hn2 ns hv2 hd2 (by lia) fun _ _ => ⟨by rw [Str.length_append, Str.length_append, Str.length_append]; lia, ?_⟩))
  exact joinParts_nilE (joinParts_nil (h _ _) (by rw [Str.length_append, Str.length_append, Str.length_append]; lia))
end Nw

namespace Nw
set_option tactic.hygienic false

structure QnI (W : Wd) (K : Frag) (cd : ClassData) (fI : Addr) : Prop where
  x : K.In W.hB
  makes : makesIn K W.qc = true
  cls : clsIn K W.qc = some cd
  find : findIn K (.ref W.qc) "__init__" = some (some (.ref fI))
  fn : typeIn K (.ref fI) = some (.type "function")
  seta : findIn K (.ref W.qc) "__setattr__" = some (some (.builtin "object.__setattr__"))
  taker : takerIn K W.qc "text" = some none
  dict : cd.hasDict = true
  pass : ∀ x, refuseLoop (.ref x) "__setattr__" cd.mro = pure ()
  obj : cd.mro.contains (.type "object") = true

noncomputable def qinitNames : Names := [("self", .local), ("text_or_uri", .local), ("tag", .local)]

noncomputable abbrev textDict (h : Int) (k t : Tok) (x : Str) (m : Nat) : Obj := dictOf [⟨h, .str (Str.ofString "text") k, .str x t⟩] m

theorem qn_tail {W : Wd} {K : Frag} {cd : ClassData} {fI : Addr} (QI : QnI W K cd fI) {fd : FuncData} {p1 p2 p3 p4 : Pos} {h h1 : Heap} {g : Array GenState} {d : Drawn} {tk tk0 : Nat} {os : OsState} {F : FM} {s0 : Shared} {env : Env} {A : Around} {B : List Stmt} {m : Str → Option Value} {x : Str} {t : Tok} {R : Result → Shared → Prop}
    (st : Sits F h) (X : K.In h) (fr : FrameIs W s0 fI fd qinitNames env) (k01 : Keep h h1) (ns : h1.Ns env.locals m) (hself : m "self" = some (.ref (h.objs.size + 1))) (htext : m "text_or_uri" = some (.str x t))
    (hx : h1.get? (h.objs.size + 1) = some (instObj W.qc h.objs.size)) (hdx : h1.get? h.objs.size = some emptyDict)
    (hR : ∀ v s', v = Value.ref (h.objs.size + 1) → (∃ F', Grow F ⟨h, g, d, tk0, os⟩ F' s' ∧ Rep W.qc F' (.qn x) v) → R (.ok (.ret v)) s') :
    _root_.PySem.wpAt W.M A (.func B env) (PySem.execs [Stmt.Assign [.Attribute (.Name "self" p1) "text" p2] (.Name "text_or_uri" p3) p4] env) (fun fl s' => InitBack (h.objs.size + 1) R (.ok (.ret (match fl with | .ret v => v | _ => .none))) s') NoE ⟨h1, g, d, tk, os⟩ := by
  refine ks_wpAt_execs_cons (ks_wpAt_Assign_Attr (wpAt_of_wpAny ?_) rfl)
  refine frame_name fr (by decide) ns htext (by decide) ?_
  refine frame_name fr (by decide) ns hself (by decide) ?_
  refine set_first (s := { heap := h1, gens := g, drawn := d, toks := tk, os := os }) (fun b ob e => k01 _ _ (X b ob e)) ⟨hx, rfl, rfl, hdx⟩ rfl QI.seta QI.taker QI.cls QI.dict (QI.pass _) QI.obj ?_
  dsimp only
  refine wpAt_of_wpAny ?_
  rw [arm_execs_nil]
  refine wpAny_pure ⟨rfl, hR _ _ rfl ?_⟩
  generalize hkk : PyData.keyHash W.w.params (Str.ofString "text") = hash
  have hdne : h.objs.size ≠ h.objs.size + 1 := Nat.ne_of_lt (Nat.lt_succ_self _)
  have hup : (h1.update h.objs.size (Obj.putName (Str.ofString "text") hash (.str (Str.ofString "text") (tk + 1)) (.str x t))).get? h.objs.size = some (textDict hash (tk + 1) t x 1) := by
    rw [Heap.get?_update_self _ hdx (by rw [show emptyDict = dictOf [] 0 from rfl, putName_dict]; rfl), show emptyDict = dictOf [] 0 from rfl, putName_dict]
    rfl
  have sb : Heap.SameBut h.objs.size h1 (h1.update h.objs.size (Obj.putName (Str.ofString "text") hash (.str (Str.ofString "text") (tk + 1)) (.str x t))) := Heap.SameBut.update ..
  have hfr : h.get? h.objs.size = none := push_new _
  have hfr1 : h.get? (h.objs.size + 1) = none := by
    cases q : h.get? (h.objs.size + 1) with
    | none => rfl
    | some ob => exact absurd (Heap.lt_size q) (Nat.not_lt.mpr (Nat.le_succ _))
  have hx2 := (sb.2 _ (Ne.symm hdne)).trans hx
  have k3 : Keep h (h1.update h.objs.size (Obj.putName (Str.ofString "text") hash (.str (Str.ofString "text") (tk + 1)) (.str x t))) := fun b ob e => (sb.2 b (by rintro rfl; rw [hfr] at e; cases e)).trans (k01 _ _ e)
  have hF0 : F h.objs.size = none := by
    cases q : F h.objs.size with
    | none => rfl
    | some ob => have := st _ _ q; rw [hfr] at this; cases this
  have g1 := Grow.put (s := { heap := h, gens := g, drawn := d, toks := tk0, os := os }) (tk := tk + 2) st k3 hfr hup
  refine ⟨(F.put h.objs.size (textDict hash (tk + 1) t x 1)).put (h.objs.size + 1) (instObj W.qc h.objs.size), ⟨?_, ?_, k3, ?_, rfl, id⟩, h.objs.size + 1, h.objs.size, t, 1, hash, tk + 1, rfl, FM.put_self _ _ _, ?_⟩
  · intro b ob e
    have := g1.le _ _ e
    unfold FM.put
    split
    · rename_i q; rw [q] at e; rw [st _ _ e] at hfr1; cases hfr1
    · exact this
  · intro b ob e
    unfold FM.put at e
    split at e
    · rename_i q; cases e; rw [q]; exact hx2
    · exact g1.sits _ _ e
  · intro b ob e
    unfold FM.put at e
    split at e
    · rename_i q; rw [q]; exact .inr hfr1
    · exact g1.fresh _ _ e
  · show (FM.put _ _ _) _ = _
    unfold FM.put
    rw [if_neg hdne, if_pos rfl]
end Nw

namespace Nw
set_option tactic.hygienic false

set_option maxHeartbeats 1000000 in
theorem qn_make {W : Wd} {K : Frag} {cd : ClassData} {fI : Addr} (ok : WdOK W) (QI : QnI W K cd fI) {o : Obj} {fd : FuncData} {p1 p2 p3 p4 q1 q2 q3 q4 q5 q6 q7 q8 q9 q10 q11 : Pos} {k1 k2 : Nat}
    (M : MethAt W fI o fd ["self", "text_or_uri", "tag"] [Stmt.If (.Name "tag" q1) [Stmt.Assign [.Name "text_or_uri" q2] (.JoinedStr [.Constant (.str (Str.ofString "{")) k1 q3, .FormattedValue (.Name "text_or_uri" q4) 115 none q5, .Constant (.str (Str.ofString "}")) k2 q6, .FormattedValue (.Name "tag" q7) 115 none q8] q9) q10] [] q11, Stmt.Assign [.Attribute (.Name "self" p1) "text" p2] (.Name "text_or_uri" p3) p4] qinitNames)
    (hbind : ∀ (s : Shared) (a b c : Value), Keep W.hB s.heap → BindsTo s fd ⟨[a, b, c], []⟩ [("self", a), ("text_or_uri", b), ("tag", c)])
    {A : Around} {F : FM} {s : Shared} {y z : Str} {t u : Tok} (hA : Amb A 1) (st : Sits F s.heap) (base : Keep W.hB s.heap) (hsz : y.length + z.length + 2 ≤ sizeLine) :
    Ev W.qc W.M A F s (call (.ref W.qc) [.str y t, .str z u]) (.qn (qnText y z)) := by
  have hdep := hA.depth
  obtain ⟨h, g, d, tk, os⟩ := s
  have X : K.In h := fun b ob e => base b ob (QI.x b ob e)
  refine wpAny_call (make_core (makes_of X QI.makes) (looks_findIn X QI.find) (fun self => bind_fn X self QI.fn) (.inl rfl) ?_)
  have k1 : Keep h ((h.push emptyDict).push (instObj W.qc h.objs.size)) := fun b ob e => Heap.get?_push_of_some _ (Heap.get?_push_of_some _ e)
  have hx : ((h.push emptyDict).push (instObj W.qc h.objs.size)).get? (h.objs.size + 1) = some (instObj W.qc h.objs.size) := by heap_get
  have hdx : ((h.push emptyDict).push (instObj W.qc h.objs.size)).get? h.objs.size = some emptyDict := Heap.get?_push_of_some _ (Heap.get?_push_size _ rfl)
  generalize hp : (h.push emptyDict).push (instObj W.qc h.objs.size) = h1 at *
  refine meth_frame (s := ⟨h1, g, d, tk, os⟩) ok M (fun b ob e => k1 _ _ (base b ob e)) ?_ (hbind _ _ _ _ (fun b ob e => k1 _ _ (base b ob e))) (by decide) (by intro x hx; simp only [List.mem_cons, List.not_mem_nil, or_false] at hx; rcases hx with rfl | rfl | rfl <;> rfl) fun env h₀ tk2 fr ns keep => ?_
  · show A.depth + (Code.builtin "type.__call__" ⟨[.ref W.qc, .str y t, .str z u], []⟩).weight < recursionLimit
    have hw : (Code.builtin "type.__call__" ⟨[.ref W.qc, .str y t, .str z u], []⟩).weight ≤ 1 := by first | exact Nat.le_refl 1 | exact Nat.zero_le 1
    lia
  have k2 : Keep h h₀ := fun b ob e => keep _ _ (k1 _ _ e)
  have hx0 := keep _ _ hx
  have hdx0 := keep _ _ hdx
  have hlocx : h.objs.size + 1 ≠ env.locals := by
    rintro e
    have := fr.new
    rw [← e] at this
    have h' : h1.get? (h.objs.size + 1) = none := this
    rw [hx] at h'; cases h'
  have hlocd : h.objs.size ≠ env.locals := by
    rintro e
    have := fr.new
    rw [← e] at this
    have h' : h1.get? h.objs.size = none := this
    rw [hdx] at h'; cases h'
  have hlz : z.length ≤ sizeLine := by lia
  rw [sizeLine_eq] at hlz
  refine ks_wpAt_execs_cons (ks_wpAt_If (wpAt_of_wpAny (wpAny_isTrue_value (frame_name fr (by decide) ns (v := .str z u) (by rfl) (by decide) (P.truthy_str (by lia) ?_)) rfl)))
  dsimp only
  by_cases hz : z.length = 0
  · rw [if_neg (by simp [hz])]
    refine wpAt_of_wpAny ?_
    rw [arm_execs_nil]
    refine wpAny_pure ?_
    dsimp only
    refine qn_tail QI (tk0 := tk) st X fr k2 ns rfl rfl hx0 hdx0 ?_
    rintro v s' rfl ⟨F', gr, rr⟩
    refine ⟨F', gr, ?_⟩
    unfold qnText; rw [if_pos hz]; exact rr
  · rw [if_pos (by simp; lia)]
    refine ks_wpAt_execs_cons (ks_wpAt_Assign_Name (wpAt_of_wpAny (joined_pair fr (by decide) (by decide) ns (y := y) (z := z) (t := t) (u := u) rfl rfl (by decide) (by decide) hsz fun t' tk' => ?_)) rfl)
    refine wpAny_storeName_local ((fr.kindOf _).trans (by decide)) ns (fun h2 ns3 sb => ?_) (by rw [fr.kind]; rfl)
    dsimp only
    refine wpAt_of_wpAny ?_
    rw [arm_execs_nil]
    refine wpAny_pure ?_
    dsimp only
    have hloc : h.get? env.locals = none := by
      cases q : h.get? env.locals with
      | none => rfl
      | some ob => have := fr.new; rw [show Shared.heap ⟨h1, g, d, tk, os⟩ = h1 from rfl, k1 _ _ q] at this; cases this
    refine qn_tail QI (tk0 := tk) st X fr (fun b ob e => (sb.2 b (by rintro rfl; rw [hloc] at e; cases e)).trans (k2 _ _ e)) ns3 rfl rfl ((sb.2 _ hlocx).trans hx0) ((sb.2 _ hlocd).trans hdx0) ?_
    rintro v s' rfl ⟨F', gr, rr⟩
    refine ⟨F', gr, ?_⟩
    unfold qnText; rw [if_neg hz]; exact rr
end Nw

namespace Nw
set_option tactic.hygienic false

/-- what stands of QName's class -/
structure QnC (W : Wd) (K : Frag) : Prop where
  x : K.In W.hB
  ga : findIn K (.ref W.qc) "__getattribute__" = some (some (.builtin "object.__getattribute__"))
  text : ∀ h k t x n, findObj K W.qc (some (textDict h k t x n)) "text" = some (.value (.str x t))
  is : isIn K (.ref W.qc) W.qc = true
  not : isNotIn K "str" W.qc = true
  first : notFirst K W.qc (.type "str") = true
  glob : W.glob "QName" (.ref W.qc)
  isi : W.glob "isinstance" (.builtin "isinstance")

noncomputable def cmpNames : Names := [("self", .local), ("other", .local), ("isinstance", .globalImplicit), ("QName", .globalImplicit)]

theorem frame_glob {W : Wd} (ok : WdOK W) {s s1 : Shared} {f : Addr} {fd : FuncData} {names : Names} {env : Env} {A : Around} {x : Str} {pos : Pos} {v : Value} {Q : Value → Shared → Prop} {E : Value → Shared → Prop} (fr : FrameIs W s f fd names env) (base : Keep W.hB s1.heap)
    (hn : names.lookup x = some .globalImplicit) (hd : (x == ("__debug__" : Str)) = false) (hv : W.glob x v) (h : Q v s1) : wpAny W.M A (eval (.Name x pos) env) Q E s1 := by
  refine PySem.Calls.Name_function_global fr.kind ((fr.kindOf x).trans hn) ?_ hd
  rcases hv with hv | ⟨hm, hv⟩
  · exact PySem.Calls.loadGlobal_global (by rw [fr.globals]; exact ok.g.keeps base) hv h
  · exact PySem.Calls.loadGlobal_builtin (by rw [fr.globals]; exact ok.g.keeps base) hm (by rw [fr.builtins]; exact ok.b.keeps base) hv h

theorem cmp_I {prog : Program} {w : World} {A : Around} {E : Value → Shared → Prop} {s : Shared} {K : Frag} {x C f : Addr} {ox : Obj} {od : Option Obj} {b tb : Value} {op : CmpOp} {Q : Value → Shared → Prop} (hu : A.units < cLine) (X : K.In s.heap) (I : InstAt s.heap x ox C od) (hb : Looks (model prog w) s.heap (typeOf b) tb) (hn : notFirst K C tb = true)
    (hs : findIn K (.ref C) (cmpInfo op).2.1 = some (some (.ref f))) (hf : isFn K (.ref f) = true)
    (h : wpAny (model prog w) A (call (.ref f) [.ref x, b]) (PySem.W.CmpBack Q) E s) : wpAny (model prog w) A (richCompare op (.ref x) b) Q E s := by
  have one : wpAny (model prog w) A (tryCompare (.ref x) (cmpInfo op).2.1 b) (fun r s' => ∃ v, r = some v ∧ Q v s') E s := by
    unfold tryCompare
    refine wpAny_bind (ifBound_K X I hs hf (wpAny_mono h (fun v s' hv => ?_) fun _ _ e => e))
    cases v <;> first | exact hv.elim | exact wpAny_pure ⟨_, rfl, hv⟩
  unfold richCompare
  simp only [oneThing_ref]
  refine wpAny_holding (wpAny_bind (wpAny_cRoomFor hu ?_))
  refine wpAny_bind (I.type.here (wpAny_bind (hb.here ?_)))
  split
  · rename_i q
    have e : subIn K tb (.ref C) = some false := by
      rcases Bool.or_eq_true_iff.mp hn with e | e
      · rw [beq_iff_eq.mp e] at q; simp at q
      · exact beq_iff_eq.mp e
    refine wpAny_bind ((looks_subIn X e).here ?_)
    simp only [Bool.false_eq_true, if_false]
    refine wpAny_bind (wpAny_mono one (fun r s' z => ?_) fun _ _ e => e)
    obtain ⟨v, rfl, hq⟩ := z
    exact wpAny_pure hq
  · refine wpAny_bind (wpAny_pure ?_)
    simp only [Bool.false_eq_true, if_false]
    refine wpAny_bind (wpAny_mono one (fun r s' z => ?_) fun _ _ e => e)
    obtain ⟨v, rfl, hq⟩ := z
    exact wpAny_pure hq

/-- the text of a name in a frame -/
theorem frame_text {W : Wd} {K : Frag} (QC : QnC W K) {s s1 : Shared} {f : Addr} {fd : FuncData} {names : Names} {env : Env} {A : Around} {x : Str} {p1 p2 : Pos} {y : Str} {v : Value} {m : Str → Option Value} {F : FM} {Q : Value → Shared → Prop} {E : Value → Shared → Prop} (fr : FrameIs W s f fd names env)
    (hn : names.lookup x = some .local) (ns : s1.heap.Ns env.locals m) (hv : m x = some v) (hd : (x == ("__debug__" : Str)) = false) (st : Sits F s1.heap) (base : Keep W.hB s1.heap) (r : Rep W.qc F (.qn y) v) (h : ∀ t tk, Q (.str y t) { s1 with toks := tk }) :
    wpAny W.M A (eval (.Attribute (.Name x p1) "text" p2) env) Q E s1 := by
  obtain ⟨a, dx, t, n, hh, k, rfl, e1, e2⟩ := r
  refine Attribute_name (frame_name fr hn ns hv hd ?_)
  exact get_value (fun b ob e => base _ _ (QC.x _ _ e)) ⟨st _ _ e1, rfl, rfl, st _ _ e2⟩ QC.ga (QC.text _ _ _ _ _) rfl (h _ _)

end Nw

namespace Nw
set_option tactic.hygienic false

set_option maxHeartbeats 1000000 in
theorem qcall_sound {W : Wd} {K : Frag} (ok : WdOK W) (QC : QnC W K) {f : Addr} {o : Obj} {fd : FuncData} {op : CmpOp} {a1 a2 a3 a4 a5 b1 b2 b3 b4 b5 b6 c1 c2 c3 c4 c5 : Pos}
    (M : MethAt W f o fd ["self", "other"] [Stmt.If (.Call (.Name "isinstance" a1) [.Name "other" a2, .Name "QName" a3] [] a4) [Stmt.Return (some (.Compare (.Attribute (.Name "self" b1) "text" b2) [op] [.Attribute (.Name "other" b3) "text" b4] b5)) b6] [] a5, Stmt.Return (some (.Compare (.Attribute (.Name "self" c1) "text" c2) [op] [.Name "other" c3] c4)) c5] cmpNames)
    (hbind : ∀ a b : Value, bindArgs fd ⟨[a, b], []⟩ = pure ([("self", a), ("other", b)] : List (Str × Value)))
    (hm : ∀ e, behindInMarks op e = false)
    {A : Around} {F : FM} {s : Shared} {x y : Str} {v u : Value} {r : Bool} (hA : Amb A 1) (st : Sits F s.heap) (base : Keep W.hB s.heap) (rv : Rep W.qc F (.qn x) v) (ru : Rep W.qc F (.qn y) u ∨ Rep W.qc F (.str y) u) (hr : cmpPV op (.str x) (.str y) = some r) :
    Ev W.qc W.M A F s (call (.ref f) [v, u]) (.bool r) := by
  have hdep := hA.depth
  have hun := hA.units
  refine wpAny_call (meth_frame ok M base (by lia) (.of_eq (hbind _ _)) (by decide) (by intro x hx; simp only [List.mem_cons, List.not_mem_nil, or_false] at hx; rcases hx with rfl | rfl <;> rfl) fun env h₀ tk fr ns keep => ?_)
  have hdu : (A.deeper env).units + 200 < cLine := by
    show A.units + _ + 200 < cLine
    lia
  have st1 : Sits F h₀ := fun b ob e => keep _ _ (st b ob e)
  have base1 : Keep W.hB h₀ := base.trans keep
  have X1 : K.In h₀ := fun b ob e => base1 _ _ (QC.x _ _ e)
  refine ks_wpAt_execs_cons (ks_wpAt_If (wpAt_of_wpAny (wpAny_isTrue_value ?_ rfl)))
  refine wpAny_Call_Name_kw (frame_glob ok fr base1 (by decide) (by decide) QC.isi ?_)
  refine callWith_of (trees := backTo a4 (starEach [.Name "other" a2, .Name "QName" a3] env)) rfl (callee_builtin _) ?_
  refine wpAny_items_cons (frame_name fr (by decide) ns (v := u) (by rfl) (by decide) ?_) rfl
  refine wpAny_items_cons (frame_glob ok fr base1 (by decide) (by decide) QC.glob ?_) rfl
  refine wpAny_items_nil ⟨base1, ?_⟩
  rcases ru with ru | ru
  · have ru' := ru
    obtain ⟨a, dx, t, n, hh, k, rfl, e1, e2⟩ := ru'
    refine isi_call (t := .ref W.qc) X1 (fun M => (Looks.ld (st1 _ _ e1)).andThen .now) QC.is (by intro e; cases e) ?_
    refine wpAny_truthy_bool ?_
    rw [if_pos rfl]
    refine ks_wpAt_execs_cons (ks_wpAt_Return_some (wpAt_of_wpAny (wpAny_Compare1 ?_ (hm _))))
    refine frame_text QC fr (by decide) ns (v := v) (by rfl) (by decide) st1 base1 rv fun t1 tk1 => ?_
    refine frame_text QC fr (by decide) ns (v := .ref a) (by rfl) (by decide) st1 base1 ru fun t2 tk2 => ?_
    refine wpAny_mono (cmpPV_sound (qc := W.qc) (F := F) hr hdu st1 ⟨_, rfl⟩ ⟨_, rfl⟩) (fun w s' z => ?_) fun _ _ z => z
    obtain ⟨F', g, rr⟩ := z
    exact ⟨F', (Grow.heap (tk := tk2) st keep).trans g, rr⟩
  · obtain ⟨t, rfl⟩ := ru
    refine isn_call (P := fun _ => True) X1 (fun M => Looks.of_pure rfl) QC.not (by intro e; cases e) trivial str_cls ?_
    refine wpAny_truthy_bool ?_
    rw [if_neg (by simp)]
    refine wpAt_of_wpAny ?_
    rw [arm_execs_nil]
    refine wpAny_pure ?_
    dsimp only
    refine ks_wpAt_execs_cons (ks_wpAt_Return_some (wpAt_of_wpAny (wpAny_Compare1 ?_ (hm _))))
    refine frame_text QC fr (by decide) ns (v := v) (by rfl) (by decide) st1 base1 rv fun t1 tk1 => ?_
    refine frame_name fr (by decide) ns (v := .str y t) (by rfl) (by decide) ?_
    refine wpAny_mono (cmpPV_sound (qc := W.qc) (F := F) hr hdu st1 ⟨_, rfl⟩ ⟨_, rfl⟩) (fun w s' z => ?_) fun _ _ z => z
    obtain ⟨F', g, rr⟩ := z
    exact ⟨F', (Grow.heap (tk := tk1) st keep).trans g, rr⟩
end Nw

namespace Nw
set_option tactic.hygienic false

noncomputable def isRich : CmpOp → Bool
  | .Eq | .Lt | .LtE | .Gt | .GtE => true
  | _ => false

theorem rich_marks {op : CmpOp} (h : isRich op = true) (e : Expr) : behindInMarks op e = false := by
  have h1 : (op == .In || op == .NotIn) = false := by cases op <;> first | rfl | cases h
  unfold behindInMarks
  split
  · rw [h1, Bool.and_false, Bool.false_and]
  · rfl

noncomputable def cmpBody (op : CmpOp) (a1 a2 a3 a4 a5 b1 b2 b3 b4 b5 b6 c1 c2 c3 c4 c5 : Pos) : List Stmt :=
  [Stmt.If (.Call (.Name "isinstance" a1) [.Name "other" a2, .Name "QName" a3] [] a4) [Stmt.Return (some (.Compare (.Attribute (.Name "self" b1) "text" b2) [op] [.Attribute (.Name "other" b3) "text" b4] b5)) b6] [] a5, Stmt.Return (some (.Compare (.Attribute (.Name "self" c1) "text" c2) [op] [.Name "other" c3] c4)) c5]

inductive CmpM (W : Wd) (op : CmpOp) (f : Addr) : Prop
  | mk (o : Obj) (fd : FuncData) (a1 a2 a3 a4 a5 b1 b2 b3 b4 b5 b6 c1 c2 c3 c4 c5 : Pos) (m : MethAt W f o fd ["self", "other"] (cmpBody op a1 a2 a3 a4 a5 b1 b2 b3 b4 b5 b6 c1 c2 c3 c4 c5) cmpNames)
    (h : ∀ a b : Value, bindArgs fd ⟨[a, b], []⟩ = pure ([("self", a), ("other", b)] : List (Str × Value)))
/-- one comparing method stands in the class -/
structure CmpAt (W : Wd) (K : Frag) (op : CmpOp) (f : Addr) : Prop where
  find : findIn K (.ref W.qc) (cmpInfo op).2.1 = some (some (.ref f))
  fn : isFn K (.ref f) = true
  m : CmpM W op f

theorem qcmp_sound {W : Wd} {K : Frag} (ok : WdOK W) (QC : QnC W K) {f : Addr} {op : CmpOp} (hop : isRich op = true) (self : notFirst K W.qc (.ref W.qc) = true) (C : CmpAt W K op f)
    {A : Around} {F : FM} {s : Shared} {x y : Str} {v u : Value} {r : Bool} (hA : Amb A 1) (st : Sits F s.heap) (base : Keep W.hB s.heap) (rv : Rep W.qc F (.qn x) v) (ru : Rep W.qc F (.qn y) u ∨ Rep W.qc F (.str y) u) (hr : cmpPV op (.str x) (.str y) = some r) :
    Ev W.qc W.M A F s (compareOp op v u) (.bool r) := by
  obtain ⟨o, fd, a1, a2, a3, a4, a5, b1, b2, b3, b4, b5, b6, c1, c2, c3, c4, c5, M, hb⟩ := C.m
  have hu := hA.units
  have hc := qcall_sound ok QC M hb (rich_marks hop) hA st base rv ru hr
  have rv' := rv
  obtain ⟨a, dx, t, n, hh, k, rfl, e1, e2⟩ := rv'
  have X : K.In s.heap := fun b ob e => base _ _ (QC.x _ _ e)
  have I : InstAt s.heap a (instObj W.qc dx) W.qc (some (textDict hh k t x n)) := ⟨st _ _ e1, rfl, rfl, st _ _ e2⟩
  have main : wpAny W.M A (richCompare op (.ref a) u) (EvP W.qc F s (.bool r)) NoE s := by
    have go : ∀ tb, Looks W.M s.heap (typeOf u) tb → notFirst K W.qc tb = true → wpAny W.M A (richCompare op (.ref a) u) (EvP W.qc F s (.bool r)) NoE s := by
      intro tb h1 h2
      refine cmp_I (by lia) X I h1 h2 C.find C.fn (wpAny_mono hc (fun w s' z => ?_) fun _ _ z => z)
      obtain ⟨F', g, rr⟩ := z
      cases rr
      exact ⟨F', g, rfl⟩
    rcases ru with ru | ru
    · obtain ⟨b, dx', t', n', hh', k', rfl, e1', e2'⟩ := ru
      exact go _ ((Looks.ld (st _ _ e1')).andThen .now) self
    · obtain ⟨t', rfl⟩ := ru
      exact go _ (Looks.of_pure rfl) QC.first
  cases op <;> first | exact main | cases hop

/-- the five comparing methods -/
structure QCmp (W : Wd) (K : Frag) : Prop where
  c : QnC W K
  self : notFirst K W.qc (.ref W.qc) = true
  at' : ∀ op, isRich op = true → ∃ f, CmpAt W K op f

/-- QName compared: as the texts -/
noncomputable def cmpQ (op : CmpOp) : PV → PV → Option Bool
  | .qn x, .qn y => if isRich op then cmpPV op (.str x) (.str y) else none
  | .qn x, .str y => if isRich op then cmpPV op (.str x) (.str y) else none
  | _, _ => none

theorem cmpQ_sound {W : Wd} {K : Frag} (ok : WdOK W) (Q : QCmp W K) : ∀ op a b r, cmpQ op a b = some r → ∀ (A : Around) (F : FM) (s : Shared) (v u : Value), Amb A 1 → Sits F s.heap → Keep W.hB s.heap → Rep W.qc F a v → Rep W.qc F b u → Ev W.qc W.M A F s (compareOp op v u) (.bool r) := by
  intro op a b r h A F s v u hA st base ra rb
  unfold cmpQ at h
  split at h
  · split at h
    · rename_i hop
      obtain ⟨f, C⟩ := Q.at' op hop
      exact qcmp_sound ok Q.c hop Q.self C hA st base ra (.inl rb) h
    · cases h
  · split at h
    · rename_i hop
      obtain ⟨f, C⟩ := Q.at' op hop
      exact qcmp_sound ok Q.c hop Q.self C hA st base ra (.inr rb) h
    · cases h
  · cases h
end Nw

namespace Nw
set_option tactic.hygienic false

theorem erase_last (vs : Array Value) : (vs.eraseIdxIfInBounds (vs.size - 1)).toList = vs.toList.take (vs.toList.length - 1) := by
  unfold Array.eraseIdxIfInBounds
  split
  · rename_i h
    rw [Array.toList_eraseIdx, List.eraseIdx_eq_take_drop_succ, Array.length_toList, List.drop_of_length_le (by rw [Array.length_toList]; omega), List.append_nil]
  · rename_i h
    have : vs.size = 0 := by omega
    have e : vs.toList = [] := by rw [← List.length_eq_zero_iff, Array.length_toList]; exact this
    rw [e]; rfl

/-- pop of a pile that is not empty: what pop_frame's last case gives -/
theorem pop_after {W : Wd} {F : FM} {s s1 : Shared} {env0 : Env} {a dx : Addr} {vs : Array Value} {n : Nat} {hh : Int} {kk t : Tok} {hd : Int} {m : Nat} {items : List PV} {p : PV} {v : Value}
    (e1 : s.heap.get? a = some (accObj W.ac dx vs n)) (e2 : F dx = some (sizeDict hh kk t hd m)) (rl : RepL W.qc F items vs.toList) (off : Off F env0 a) (hp : items.getLast? = some p)
    (hv : vs[vs.size - 1]? = some v) (g : Grow F s F s1) :
    GrowBut a F s F { s1 with heap := s1.heap.update a (Obj.mapSeq (·.eraseIdxIfInBounds (vs.size - 1))) } ∧ SlotOK W F (s1.heap.update a (Obj.mapSeq (·.eraseIdxIfInBounds (vs.size - 1)))) env0 (.acc hd items.dropLast) (.ref a) ∧ Rep W.qc F p v := by
  have hs1 := g.keep _ _ e1
  have sb : Heap.SameBut a s1.heap (s1.heap.update a (Obj.mapSeq (·.eraseIdxIfInBounds (vs.size - 1)))) := Heap.SameBut.update ..
  have hpos : vs.size - 1 < vs.size := by
    have := (Array.getElem?_eq_some_iff.mp hv).1
    exact this
  have hsz : (vs.eraseIdxIfInBounds (vs.size - 1)).size ≠ vs.size := by
    unfold Array.eraseIdxIfInBounds
    rw [dif_pos hpos, Array.size_eraseIdx]
    omega
  have hup : (s1.heap.update a (Obj.mapSeq (·.eraseIdxIfInBounds (vs.size - 1)))).get? a = some (accObj W.ac dx (vs.eraseIdxIfInBounds (vs.size - 1)) (n + 1)) := by
    rw [Heap.get?_update_self _ hs1 (by simp [Obj.mapSeq, Obj.isFreed])]
    simp [Obj.mapSeq, hsz]
  have en := rl.length
  refine ⟨(GrowBut.of_grow g).trans (GrowBut.same (tk := s1.toks) g.sits off.1 sb) ⟨_, e1⟩ off.1, ⟨a, dx, _, n + 1, hh, kk, t, m, rfl, hup, e2, ?_, off⟩, ?_⟩
  · rw [erase_last, List.dropLast_eq_take, en]
    exact rl.take _
  · have hk : items[items.length - 1]? = some p := by rw [← List.getLast?_eq_getElem?]; exact hp
    obtain ⟨v', hv', r⟩ := rl.get _ hk
    rw [← Array.getElem?_toList] at hv
    rw [← Array.length_toList, en] at hv
    rw [hv] at hv'
    cases hv'
    exact r
end Nw

namespace Nw

/-- a method of the pile's class -/
structure PileM (W : Wd) (K : Frag) (m : Str) (f : Addr) : Prop where
  find : findIn K (.ref W.ac) m = some (some (.ref f))
  typ : typeIn K (.ref f) = some (.type "function")
  func : ∃ o fd, W.hB.get? f = some o ∧ o.data = .func fd
  shadow : ∀ hh k t hd n, shadowIn (some (sizeDict hh k t hd n)) m = some false

theorem pile_get {W : Wd} {K : Frag} (AK : AccK W K) {m : Str} {f : Addr} (P : PileM W K m f) {A : Around} {F : FM} {s : Shared} {env : Env} {hd : Int} {items : List PV} {v : Value} {pl : Sem Bool} {Q : Value × List Value → Shared → Prop} {E : Value → Shared → Prop} (st : Sits F s.heap) (base : Keep W.hB s.heap)
    (hsl : SlotOK W F s.heap env (.acc hd items) v) (h : Q (.ref f, [v]) s) : wpAny W.M A (getMethod v m pl) Q E s := by
  obtain ⟨a, dx, vs, n, hh, kk, t, mm, rfl, e1, e2, rl, off⟩ := hsl
  exact method_fnL (K := K) (fun b ob e => base _ _ (AK.x b ob e)) (acc_inst st e1 e2) AK.ga AK.gat P.find P.typ (P.shadow _ _ _ _ _) h

noncomputable def PushC (W : Wd) (f : Addr) : Prop := ∀ (A : Around) (F : FM) (s : Shared) (env0 : Env) (a : Addr) (v1 v2 : Value) (hd : Int) (items : List PV) (q1 q2 : PV), Amb A 0 → Sits F s.heap → Keep W.hB s.heap → SlotOK W F s.heap env0 (.acc hd items) (.ref a) → Rep W.qc F q1 v1 → Rep W.qc F q2 v2 → items.length < sizeLine →
  wpAny W.M A (call (.ref f) [.ref a, v1, v2]) (fun rv s' => ∃ F', GrowBut a F s F' s' ∧ SlotOK W F' s'.heap env0 (.acc hd (items ++ [.tup [q1, q2]])) (.ref a) ∧ rv = .none) NoE s
noncomputable def PopC (W : Wd) (f : Addr) : Prop := ∀ (A : Around) (F : FM) (s : Shared) (env0 : Env) (a dx : Addr) (vs : Array Value) (n : Nat) (hh : Int) (kk t : Tok) (hd : Int) (m : Nat) (items : List PV), Amb A 2 → Sits F s.heap → Keep W.hB s.heap →
  s.heap.get? a = some (accObj W.ac dx vs n) → F dx = some (sizeDict hh kk t hd m) → RepL W.qc F items vs.toList → Off F env0 a → items.length ≤ sizeLine → ∀ (Q : Value → Shared → Prop),
  (items = [] → ∀ v F' s', Grow F s F' s' → Rep W.qc F' (.tup [.str "", .str ""]) v → Q v s') →
  (∀ v s1, vs[vs.size - 1]? = some v → items ≠ [] → Grow F s F s1 → Q v { s1 with heap := s1.heap.update a (Obj.mapSeq (·.eraseIdxIfInBounds (vs.size - 1))) }) → wpAny W.M A (call (.ref f) [.ref a]) Q NoE s
noncomputable def PfC (W : Wd) (f : Addr) : Prop := ∀ (A : Around) (F : FM) (s : Shared) (env0 : Env) (a : Addr) (j : Int) (hd : Int) (items : List PV) (args : List Value), ((∃ t, args = [.ref a, .int j t]) ∨ (args = [.ref a] ∧ j = 0)) → Amb A 2 → Sits F s.heap → Keep W.hB s.heap → SlotOK W F s.heap env0 (.acc hd items) (.ref a) → 0 ≤ j → j ≤ items.length → items.length ≤ sizeLine →
  wpAny W.M A (call (.ref f) args) (fun rv s' => ∃ F', GrowBut a F s F' s' ∧ SlotOK W F' s'.heap env0 (.acc hd (items.take j.toNat)) (.ref a) ∧ Rep W.qc F' (.list (items.drop j.toNat)) rv) NoE s
noncomputable def CountC (W : Wd) (f : Addr) : Prop := ∀ (A : Around) (F : FM) (s : Shared) (env0 : Env) (a : Addr) (hd : Int) (items : List PV), A.depth < recursionLimit → Sits F s.heap → Keep W.hB s.heap → SlotOK W F s.heap env0 (.acc hd items) (.ref a) → Ev W.qc W.M A F s (call (.ref f) [.ref a]) (.int items.length)

structure PileOK (W : Wd) (K : Frag) : Prop where
  k : AccK W K
  push : ∃ f, PileM W K "push" f ∧ PushC W f
  pop : ∃ f, PileM W K "pop" f ∧ PopC W f
  pf : ∃ f, PileM W K "pop_from" f ∧ PfC W f
  count : ∃ f, PileM W K "part_count" f ∧ CountC W f

/-- the pile's changing methods -/
noncomputable def mmP (m : Str) (_hd : Int) (items ps : List PV) : Option (PV × List PV) :=
  if m = "push" then match ps with
    | [a, b] => if items.length < sizeLine then some (.none, items ++ [.tup [a, b]]) else none
    | _ => none
  else if m = "pop" then match ps, items.getLast? with
    | [], some p => if items.length ≤ sizeLine then some (p, items.dropLast) else none
    | _, _ => none
  else if m = "pop_from" then match ps with
    | [.int j] => if 0 ≤ j ∧ j ≤ items.length ∧ items.length ≤ sizeLine then some (.list (items.drop j.toNat), items.take j.toNat) else none
    | [] => if items.length ≤ sizeLine then some (.list items, []) else none
    | _ => none
  else none

theorem mm_of {W : Wd} {K : Frag} (P : PileOK W K) {m : Str} {f : Addr} (M : PileM W K m f) {hd : Int} {items ps : List PV} {r : PV} {items' : List PV}
    (C : ∀ (A : Around) (F : FM) (s : Shared) (env : Env) (a : Addr) (vs : List Value), Amb A 2 → Sits F s.heap → Keep W.hB s.heap → SlotOK W F s.heap env (.acc hd items) (.ref a) → RepL W.qc F ps vs →
      wpAny W.M A (call (.ref f) (.ref a :: vs)) (fun rv s' => ∃ F', GrowBut a F s F' s' ∧ SlotOK W F' s'.heap env (.acc hd items') (.ref a) ∧ Rep W.qc F' r rv) NoE s) : MMOK W 2 m hd items ps r items' := by
  obtain ⟨o, fd, ho, hfd⟩ := M.func
  exact ⟨.ref f, callee_func ho hfd, fun A F s env v pl Q E st base hsl hq => pile_get P.k M st base hsl hq, C⟩

theorem mmP_sound {W : Wd} {K : Frag} (P : PileOK W K) : ∀ m hd items ps r items', mmP m hd items ps = some (r, items') → MMOK W 2 m hd items ps r items' := by
  intro m hd items ps r items' h
  unfold mmP at h
  by_cases hm : m = "push"
  · subst hm
    rw [if_pos rfl] at h
    obtain ⟨f, M, C⟩ := P.push
    rcases ps with _ | ⟨p, _ | ⟨q, _ | ⟨x, tl⟩⟩⟩ <;> first | (cases h; done) | skip
    obtain ⟨hl, e⟩ := ite_some h
    cases e
    refine mm_of P M fun A F s env a vs hA st base hsl rl => ?_
    obtain ⟨v1, _, rfl, r1, v2, _, rfl, r2, rfl⟩ := rl
    refine wpAny_mono (C A F s env a v1 v2 hd items p q (hA.le (Nat.zero_le _)) st base hsl r1 r2 hl) (fun rv s' z => ?_) fun _ _ z => z
    obtain ⟨F', g, sl, rfl⟩ := z
    exact ⟨F', g, sl, rfl⟩
  rw [if_neg hm] at h
  by_cases hm : m = "pop"
  · subst hm
    rw [if_pos rfl] at h
    obtain ⟨f, M, C⟩ := P.pop
    cases hp : items.getLast? with
    | none => rw [hp] at h; cases ps <;> cases h
    | some p =>
    rw [hp] at h
    cases ps with
    | cons _ _ => cases h
    | nil =>
    obtain ⟨hl, e⟩ := ite_some h
    cases e
    refine mm_of P M fun A F s env a vs hA st base hsl rl => ?_
    cases rl
    obtain ⟨a', dx, us, n, hh, kk, t, mm, ea, e1, e2, rl, off⟩ := hsl
    cases ea
    refine C A F s env a dx us n hh kk t hd mm items hA st base e1 e2 rl off hl _ (fun e => ?_) (fun v s1 hv _ g => ?_)
    · subst e; cases hp
    · obtain ⟨g1, sl, rr⟩ := pop_after (W := W) e1 e2 rl off hp hv g
      exact ⟨F, g1, sl, rr⟩
  rw [if_neg hm] at h
  by_cases hm : m = "pop_from"
  · subst hm
    rw [if_pos rfl] at h
    obtain ⟨f, M, C⟩ := P.pf
    cases ps with
    | nil =>
      obtain ⟨hl, e⟩ := ite_some h
      cases e
      refine mm_of P M fun A F s env a vs hA st base hsl rl => ?_
      cases rl
      have := C A F s env a 0 hd items [.ref a] (.inr ⟨rfl, rfl⟩) hA st base hsl (by lia) (by lia) hl
      simpa using this
    | cons p tl =>
      cases p <;> first | (cases h; done) | skip
      rename_i j
      cases tl <;> first | (cases h; done) | skip
      obtain ⟨hj, e⟩ := ite_some h
      cases e
      refine mm_of P M fun A F s env a vs hA st base hsl rl => ?_
      obtain ⟨v1, _, rfl, ⟨t, rfl⟩, rfl⟩ := rl
      exact C A F s env a j hd items _ (.inl ⟨t, rfl⟩) hA st base hsl hj.1 hj.2.1 hj.2.2
  rw [if_neg hm] at h
  cases h
end Nw

namespace Nw

/-- the pile's asking methods: the count; pop of an empty pile -/
noncomputable def smP (m : Str) (sl : Slot) (ps : List PV) : Option PV :=
  match sl, ps with
  | .acc _ items, [] => if m = "part_count" then some (.int items.length) else if m = "pop" then (if items.isEmpty then some (.tup [.str "", .str ""]) else none) else none
  | _, _ => none

theorem smP_sound {W : Wd} {K : Frag} (P : PileOK W K) : ∀ m sl ps r, smP m sl ps = some r → SMethOK W 2 m sl ps r := by
  intro m sl ps r h
  unfold smP at h
  split at h
  · rename_i hd items
    split at h
    · rename_i hm
      subst hm
      cases h
      obtain ⟨f, M, C⟩ := P.count
      obtain ⟨o, fd, ho, hfd⟩ := M.func
      refine ⟨.ref f, callee_func ho hfd, fun A F s env v pl Q E st base hsl hq => pile_get P.k M st base hsl hq, fun A F s env v vs hA st base hsl rl => ?_⟩
      cases rl
      have hsl' := hsl
      obtain ⟨a, dx, us, n, hh, kk, t, mm, rfl, e1, e2, rl, off⟩ := hsl'
      exact C A F s env a hd items (by have := hA.depth; lia) st base hsl
    · split at h
      · rename_i hm
        subst hm
        split at h
        · rename_i he
          cases h
          rw [List.isEmpty_iff] at he
          subst he
          obtain ⟨f, M, C⟩ := P.pop
          obtain ⟨o, fd, ho, hfd⟩ := M.func
          refine ⟨.ref f, callee_func ho hfd, fun A F s env v pl Q E st base hsl hq => pile_get P.k M st base hsl hq, fun A F s env v vs hA st base hsl rl => ?_⟩
          cases rl
          obtain ⟨a, dx, us, n, hh, kk, t, mm, rfl, e1, e2, rl, off⟩ := hsl
          exact C A F s env a dx us n hh kk t hd mm [] hA st base e1 e2 rl off (Nat.zero_le _) _ (fun _ v F' s' g rr => ⟨F', g, rr⟩) (fun v s1 _ hne _ => absurd rfl hne)
        · cases h
      · cases h
  · cases h

/-- the contracts out of the methods' texts -/
theorem push_C {W : Wd} {K : Frag} (ok : WdOK W) (AK : AccK W K) {f : Addr} {o : Obj} {fd : FuncData} {p1 p2 p3 p4 p5 p6 p7 : Pos} {kq : Nat}
    (M : MethAt W f o fd ["self", "fws", "string"] [Stmt.Expr (.Call (.Attribute (.Name "self" p1) "append" p2) [.Tuple [.Name "fws" p3, .Name "string" p4] kq p5] [] p6) p7] pushNames) (hl : (p2.endLine == p6.line) = true)
    (hbind : ∀ a b c : Value, bindArgs fd ⟨[a, b, c], []⟩ = pure ([("self", a), ("fws", b), ("string", c)] : List (Str × Value))) : PushC W f :=
  fun _ _ _ _ _ _ _ _ _ _ _ hA st base hsl r1 r2 hsz => push_sound ok AK M hl hbind hA st base hsl r1 r2 hsz

theorem count_C {W : Wd} {K : Frag} {l₀ : List Value} (ok : WdOK W) (AL : AccL W K l₀) {f : Addr} {o : Obj} {fd : FuncData} {p0 p1 p2 p3 p4 : Pos}
    (M : MethAt W f o fd ["self"] [Stmt.Return (some (.Call (.Attribute (.Call (.Name "super" p0) [] [] p1) "__len__" p2) [] [] p3)) p4] countNames) (SA : SupAt W K fd countNames) (hl : (p2.endLine == p3.line) = true)
    (hbind : ∀ a : Value, bindArgs fd ⟨[a], []⟩ = pure ([("self", a)] : List (Str × Value))) : CountC W f :=
  fun _ _ _ _ _ _ _ hroom st base hsl => count_sound ok AL M SA hl hbind hroom st base hsl

theorem pop_C {W : Wd} {K : Frag} {l₀ : List Value} {cd : ClassData} (ok : WdOK W) (AP : AccP W K l₀ cd) {fc : Addr} (CA : CountAt W K fc) {f : Addr} {o : Obj} {fd : FuncData} {p1 p2 p3 p4 p5 p6 p7 p8 p9 q0 q1 q2 q3 q4 q5 : Pos} {k1 k2 k3 k4 : Nat}
    (M : MethAt W f o fd ["self"] [Stmt.If (.Compare (.Call (.Attribute (.Name "self" p1) "part_count" p2) [] [] p3) [.Eq] [.Constant (.int 0) k1 p4] p5) [.Return (some (.Tuple [.Constant (.str "") k2 p6, .Constant (.str "") k3 p7] k4 p8)) p9] [] q5,
      Stmt.Return (some (.Call (.Attribute (.Call (.Name "super" q0) [] [] q1) "pop" q2) [] [] q3)) q4] popNames) (SA : SupAt W K fd popNames) (hl : (p2.endLine == p3.line) = true) (hl2 : (q2.endLine == q3.line) = true)
    (hbind : ∀ a : Value, bindArgs fd ⟨[a], []⟩ = pure ([("self", a)] : List (Str × Value))) : PopC W f :=
  fun _ _ _ _ _ _ _ _ _ _ _ _ _ _ hA st base e1 e2 rl off hsz _ h0 h1 => pop_frame ok AP CA M SA hl hl2 hbind hA st base e1 e2 rl off h0 h1 hsz

theorem pf_C {W : Wd} {K : Frag} (ok : WdOK W) (AS : AccS W K) {f : Addr} {o : Obj} {fd : FuncData} {p1 p2 p3 p4 p5 p6 q1 q2 q3 q4 q5 q6 r1 r2 : Pos} {t0 : Tok}
    (M : MethAt W f o fd ["self", "i"] [Stmt.Assign [.Name "popped" p1] (.Subscript (.Name "self" p2) (.Slice (some (.Name "i" p3)) none none p4) p5) p6,
      Stmt.Assign [.Subscript (.Name "self" q1) (.Slice (some (.Name "i" q2)) none none q3) q4] (.List [] q5) q6, Stmt.Return (some (.Name "popped" r1)) r2] pfNames)
    (hb2 : ∀ (s : Shared) (a b : Value), Keep W.hB s.heap → BindsTo s fd ⟨[a, b], []⟩ [("self", a), ("i", b)])
    (hb1 : ∀ (s : Shared) (a : Value), Keep W.hB s.heap → BindsTo s fd ⟨[a], []⟩ [("self", a), ("i", .int 0 t0)]) : PfC W f := by
  intro A F s env0 a j hd items args hargs hA st base hsl h0 h1 hsz
  rcases hargs with ⟨t, rfl⟩ | ⟨rfl, rfl⟩
  · exact popfrom_sound ok AS M (hb2 _ _ _ base) hA st base hsl h0 h1 hsz
  · exact popfrom_sound ok AS M (hb1 s _ base) hA st base hsl h0 h1 hsz
end Nw

namespace Nw
set_option tactic.hygienic false

section
variable {prog : Program} {w : World} {A : Around} {E : Value → Shared → Prop} {s : Shared}

/-- the same walk, its places counted from one -/
theorem walks_shift {I : Addr} {fp wr : List Addr} {G : Array GenState → Array GenState → Prop} {n : Nat} {P : Nat → Value → Prop} {St : Nat → Shared → Prop} (W : WalksS prog w A I fp wr G n P St) :
    WalksS prog w A I fp wr G (n + 1) (fun i v => ∃ j, i = j + 1 ∧ P j v) (fun i s => ∃ j, i = j + 1 ∧ St j s) where
  sub := W.sub
  grefl := W.grefl
  gtrans := W.gtrans
  frame := fun i s h' tk ⟨j, e, st⟩ ht hb => ⟨j, e, W.frame j s h' tk st ht hb⟩
  item := fun i s Q E hi ⟨j, e, st⟩ hQ => by
    subst e
    exact W.item j s Q E (by lia) st fun v s' hp hs hm => hQ v s' ⟨j, rfl, hp⟩ ⟨j + 1, rfl, hs⟩ hm
  done := fun s Q E ⟨j, e, st⟩ hQ => by
    have : j = n := by lia
    subst this
    exact W.done s Q E st hQ
  self := fun i s Q E ⟨j, _, st⟩ hQ => W.self j s Q E st hQ

noncomputable def valS (st : Int) (val : Nat → Int) : Nat → Int
  | 0 => st
  | i + 1 => val i
theorem preSum_valS (st : Int) (val : Nat → Int) : ∀ n, preSum (valS st val) (n + 1) = st + preSum val n
  | 0 => by simp [preSum, valS]
  | n + 1 => by
    rw [preSum, preSum_valS st val n]
    simp only [preSum, valS]
    lia

theorem args_sum2 (a b : Value) : argsOk "sum" ⟨[a, b], []⟩ := by unfold argsOk; kernel_rfl

/-- sum with a start, over a walk -/
theorem call_sum_start {x : Value} {st : Int} {tk : Tok} {Q : Value → Shared → Prop} (hst : InLong st)
    (h : wpAny (model prog w) A.in1 (pyIter x) (fun it s₂ => ∃ I fp wr G n P St val, it = .ref I ∧ WalksS prog w A.in1 I fp wr G n P St ∧ St 0 s₂ ∧ (∀ b ∈ fp, b < s₂.heap.objs.size) ∧
      (∀ i v, P i v → ∃ t, v = .int (val i) t) ∧ (∀ j, j < n → InLong (val j) ∧ InLong (st + preSum val (j + 1))) ∧
      ∀ s' t', Moved wr G s₂ s' → Q (.int (st + preSum val n) t') s') E s) :
    wpAny (model prog w) A (call (.builtin "sum") [x, .int st tk]) Q E s := by
  refine PySem.call_function_tree F.kind_sum F.plain_sum F.entry_sum (args_sum2 _ _) ?_
  unfold Builtin.«sum»
  simp only [List.length_cons, List.length_nil]
  rw [if_neg (by decide)]
  refine wpAny_bind (wpAny_of_eq (show Builtin.Builtins.bindParams "sum" ["start"] 0 ⟨[.int st tk], []⟩ = pure [some (.int st tk)] from rfl) ?_)
  refine wpAny_bind (wpAny_mono h (fun it s₂ h₂ => ?_) fun _ _ e => e)
  obtain ⟨I, fp, wr, G, n, P, St, val, rfl, W, hs0, hfp, hval, hfit, hQ⟩ := h₂
  dsimp only
  split
  rotate_left
  · exact absurd (show (decide (-(2 ^ 63) ≤ st) && decide (st < 2 ^ 63)) = true by simp only [Bool.and_eq_true, decide_eq_true_eq]; exact hst) (by assumption)
  refine wpAny_bind (wpAny_rule (wpAny_bind (wpAny_mkInt (wpAny_bind (wpAny_pure ?_)))))
  simp only [List.forIn_cons, List.forIn_nil]
  refine wpAny_bind (wpAny_bind (wpAny_bind (wpAny_isInstance (T := "int") (b := false) (typeIs_int _ _ _) PySem.sub_int_str ?_)))
  simp only [Bool.false_eq_true, if_false]
  refine wpAny_pure (wpAny_bind (wpAny_bind (wpAny_isInstance (T := "int") (b := false) (typeIs_int _ _ _) PySem.sub_int_bytes ?_)))
  simp only [Bool.false_eq_true, if_false]
  refine wpAny_pure (wpAny_bind (wpAny_bind (wpAny_isInstance (T := "int") (b := false) (typeIs_int _ _ _) PySem.sub_int_bytearray ?_)))
  simp only [Bool.false_eq_true, if_false]
  refine wpAny_pure (wpAny_pure ?_)
  refine wpAny_bind (wpAny_newObj_type ?_)
  have hSf : s₂.heap.objs.size ∉ fp := fun hm => Nat.lt_irrefl _ (hfp _ hm)
  have W' := walks_shift W
  refine wpAny_pure ⟨plainId_quiet F.plain_sum_loop _, codeAny_sum_loopS W' (valS st val) ?_ ?_ s₂.heap.objs.size hSf n 1 _ s₂.toks 0 (by lia) (by lia)
    (W'.frame 1 s₂ _ _ ⟨0, rfl, hs0⟩ (by first | exact Nat.le_refl _ | exact Nat.le_succ _ | lia) fun b _ o e => Heap.get?_push_of_some _ e) ?_ fun s' t' hm => ?_⟩
  · rintro i v ⟨j, rfl, hp⟩
    exact hval j v hp
  · intro j hj
    cases j with
    | zero => exact ⟨hst, by rw [preSum_valS]; simpa [preSum] using hst⟩
    | succ j => exact ⟨(hfit j (by lia)).1, by rw [preSum_valS]; exact (hfit j (by lia)).2⟩
  · rw [preSum_valS, show st + preSum val 0 = st from by simp [preSum]]
    exact Heap.get?_push_size _ rfl
  · rw [preSum_valS]
    exact hQ s' t' (hm.drop_new (by first | exact Nat.le_refl _ | exact Nat.le_succ _ | lia))
end
end Nw

namespace Nw
set_option tactic.hygienic false

/-- a sequence stands at an address, of whatever class -/
noncomputable def SeqAt (h : Heap) (l : Addr) (items : Array Value) : Prop := ∃ o n, h.get? l = some o ∧ o.data = .seq items n
theorem SeqAt.extBut {h h' : Heap} {a b : Addr} {items : Array Value} (x : SeqAt h a items) (hs : Heap.ExtBut b h h') (hab : a ≠ b) : SeqAt h' a items :=
  let ⟨o, n, ho, r⟩ := x; ⟨o, n, hs a o hab ho, r⟩
theorem SeqAt.at {h h' : Heap} {a : Addr} {items : Array Value} (x : SeqAt h a items) (hk : ∀ o, h.get? a = some o → h'.get? a = some o) : SeqAt h' a items :=
  let ⟨o, n, ho, r⟩ := x; ⟨o, n, hk o ho, r⟩

section
variable {prog : Program} {w : World} {A : Around} {E : Value → Shared → Prop} {s : Shared}

theorem next_item {it l : Addr} {i : Nat} {items : Array Value} {x : Value} {Q : Option Value → Shared → Prop} (hit : s.heap.IsListIter it l i) (hl : SeqAt s.heap l items) (hx : items[i]? = some x)
    (hQ : ∀ h', h'.IsListIter it l (i + 1) → Heap.SameBut it s.heap h' → Q (some x) { s with heap := h' }) : wpAny (model prog w) A (pyNext (.ref it)) Q E s := by
  obtain ⟨o, ho, hc, hd⟩ := id hit
  obtain ⟨ol, nl, hol, hdl⟩ := hl
  unfold pyNext
  refine wpAny_bind (wpAny_attempt (wpAny_callSpecial?_slot (name := Str.ofString "__next__") hit.typeIs PySem.slot_listiter_next
    (wpAny_call_entry PySem.slot_listiter_next hit.typeIs PySem.entry_listiter_next ?_ (PySem.args_listiter_next _))))
  show wpAny _ _ (field (.ref it) 0 >>= _) _ _ s
  refine wpAny_bind (wpAny_field ho hd (x := .ref l) rfl ?_)
  show wpAny _ _ (if (Value.ref l == Value.none) = true then _ else _) _ _ s
  rw [if_neg (show ¬ ((Value.ref l == Value.none) = true) from Bool.false_ne_true)]
  show wpAny _ _ (field (.ref it) 1 >>= _) _ _ s
  refine wpAny_bind (wpAny_field ho hd (x := .int i 0) rfl ?_)
  show wpAny _ _ (seqItems? (.ref l) >>= _) _ _ s
  refine wpAny_bind (wpAny_seqItems hol hdl ?_)
  simp only [Int.toNat_natCast, hx]
  refine wpAny_bind (wpAny_setField ho hd (by simp) (wpAny_pure ⟨x, rfl, wpAny_pure (hQ _ ?_ (Heap.SameBut.update ..))⟩))
  exact ⟨_, Heap.get?_update_self _ ho (Obj.isFreed_of_fields (Obj.data_mapFields hd _)), (Obj.cls_mapFields ..).trans hc, by rw [Obj.data_mapFields hd]; simp [rawInt]⟩

theorem next_end {it l : Addr} {i : Nat} {items : Array Value} {Q : Option Value → Shared → Prop} (hh : A.handled = none) (hit : s.heap.IsListIter it l i) (hl : SeqAt s.heap l items) (hx : items[i]? = none)
    (hQ : ∀ h', Heap.ExtBut it s.heap h' → Q none { s with heap := h' }) : wpAny (model prog w) A (pyNext (.ref it)) Q E s := by
  obtain ⟨o, ho, hc, hd⟩ := id hit
  obtain ⟨ol, nl, hol, hdl⟩ := hl
  unfold pyNext
  refine wpAny_bind (wpAny_attempt (wpAny_callSpecial?_slot (name := Str.ofString "__next__") hit.typeIs PySem.slot_listiter_next
    (wpAny_call_entry PySem.slot_listiter_next hit.typeIs PySem.entry_listiter_next ?_ (PySem.args_listiter_next _))))
  show wpAny _ _ (field (.ref it) 0 >>= _) _ _ s
  refine wpAny_bind (wpAny_field ho hd (x := .ref l) rfl ?_)
  show wpAny _ _ (if (Value.ref l == Value.none) = true then _ else _) _ _ s
  rw [if_neg (show ¬ ((Value.ref l == Value.none) = true) from Bool.false_ne_true)]
  show wpAny _ _ (field (.ref it) 1 >>= _) _ _ s
  refine wpAny_bind (wpAny_field ho hd (x := .int i 0) rfl ?_)
  show wpAny _ _ (seqItems? (.ref l) >>= _) _ _ s
  refine wpAny_bind (wpAny_seqItems hol hdl ?_)
  simp only [Int.toNat_natCast, hx]
  refine wpAny_bind (wpAny_rule (wpAny_bind (wpAny_setField ho hd (by simp) ?_)))
  show wpAny _ _ (newExc (.type "StopIteration") [] >>= _) _ _ _
  refine wpAny_bind ?_
  simp only [newExc, newTuple]
  refine wpAny_bind (wpAny_newObj_type ?_ (by size_fits))
  refine wpAny_bind (m := firstArgMember _ _) (wpAny_of_eq (a := Value.none) (by first | rfl | (simp only [firstArgMember]; rfl)) ?_)
  refine wpAny_newObj_type ?_ (by size_fits)
  simp only [raiseNew]
  refine wpAny_bind (wpAny_handled ?_)
  rw [show A.in1.handled = none from hh]
  refine wpAny_bind (wpAny_pure (wpAny_throw ?_))
  refine wpAny_bind (wpAny_isInstance (T := "StopIteration") (b := true) ⟨_, Heap.get?_push_size _ rfl, rfl⟩ isSubtype_stop ?_)
  exact wpAny_pure (hQ _ (((Heap.SameBut.update ..).extBut.push _).push _))

/-- iter(pile): a list iterator over the instance -/
theorem iter_inst {K : Frag} {x C : Addr} {ox : Obj} {od : Option Obj} {Q : Value → Shared → Prop} (X : K.In s.heap) (I : InstAt s.heap x ox C od) (hi : findIn K (.ref C) "__iter__" = some (some (.builtin "list.__iter__"))) (hin : Looks (model prog w) s.heap (isInstance (.ref x) (.type "list")) true)
    (hQ : Q (.ref s.heap.objs.size) { s with heap := s.heap.push { cls := .type "list_iterator", data := .fields #[.ref x, .int 0 0] } }) : wpAny (model prog w) A (pyIter (.ref x)) Q E s := by
  have main : ∀ (A : Around) (E' : Value → Shared → Prop) (Q' : Value → Shared → Prop), Q' (.ref s.heap.objs.size) { s with heap := s.heap.push { cls := .type "list_iterator", data := .fields #[.ref x, .int 0 0] } } → wpAny (model prog w) A (call (.builtin "list.__iter__") [.ref x]) Q' E' s := by
    intro A E' Q' hq
    refine wpAny_call (codeAny_call_builtin (by decide +kernel) PySem.F.entry_list_iter (@check_slot (model prog w) _ _ s "list.__iter__" "list" "__iter__" (.ref x) [] [] _ (by decide +kernel) (by decide +kernel) hin (PySem.F.args_list_iter_1 _) ?_))
    show wpAny _ _ (do ret (← newFields "list_iterator" [.ref x, rawInt 0])) _ _ s
    exact wpAny_bind (wpAny_newObj_type (wpAny_pure hq))
  unfold pyIter
  refine wpAny_bind (wpAny_bind (I.type.here ((looks_findIn X hi).here ?_)))
  show wpAny _ _ (callSpecialIfBoundUnlessNone? (.ref x) "__iter__" _ >>= _) Q E s
  refine wpAny_bind ?_
  unfold callSpecialIfBoundUnlessNone?
  refine wpAny_holding ?_
  simp only [bindSpecialIfBound?]
  have fin : ∀ (R : Option Value → Shared → Prop), R (some (.ref s.heap.objs.size)) { s with heap := s.heap.push { cls := .type "list_iterator", data := .fields #[.ref x, .int 0 0] } } →
      wpAny (model prog w) A (call (.builtin "list.__iter__") [.ref x] >>= fun r => pure (some r)) R E s := fun R h => wpAny_bind (main A E _ (wpAny_pure h))
  refine wpAny_bind (wpAny_bind (wpAny_bind (I.type.here ((looks_findIn X hi).here ?_))))
  refine wpAny_bind (wpAny_askSetting (wpAny_ite ?_))
  split
  · refine wpAny_bind (wpAny_of_eq (PySem.F.slot_list_iter.bind _) (wpAny_pure ?_))
    dsimp only
    rw [if_neg (by simp)]
    exact fin _ (wpAny_bind (wpAny_specialOf (T := "list_iterator") ⟨_, Heap.get?_push_size _ rfl, rfl⟩ PySem.slot_listiter_next.lookup (wpAny_pure hQ)))
  · refine wpAny_tryCatch (wpAny_bind (wpAny_of_eq (PySem.F.slot_list_iter.bind _) (wpAny_pure ?_)))
    dsimp only
    rw [if_neg (by simp)]
    exact fin _ (wpAny_bind (wpAny_specialOf (T := "list_iterator") ⟨_, Heap.get?_push_size _ rfl, rfl⟩ PySem.slot_listiter_next.lookup (wpAny_pure hQ)))
end
end Nw

namespace Nw
set_option tactic.hygienic false

/-- a pile's pairs, walked by a list iterator -/
theorem walksU_pile {prog : Program} {w : World} {A : Around} (hh : A.handled = none) (I ax : Addr) (hne : ax ≠ I) (items : Array Value) (Ts : Nat → Addr) (vals : Nat → Array Value)
    (hit : ∀ j, j < items.size → items[j]? = some (.ref (Ts j))) (hTI : ∀ j, j < items.size → Ts j ≠ I) :
    WalksU prog w A I (I :: ax :: (List.range items.size).map Ts) [I] items.size (fun j v => j < items.size ∧ v = vals j)
      (fun j h => h.IsListIter I ax j ∧ SeqAt h ax items ∧ ∀ k, k < items.size → h.IsTuple (Ts k) (vals k))
      (fun j T h => (j < items.size ∧ T = Ts j) ∧ h.IsListIter I ax (j + 1) ∧ SeqAt h ax items ∧ ∀ k, k < items.size → h.IsTuple (Ts k) (vals k)) where
  sub := fun b hb => by simp at hb; simp [hb]
  frame := fun _ _ _ st hk => ⟨st.1.at fun o e => hk I (by simp) o e, st.2.1.at fun o e => hk ax (by simp) o e,
    fun k hk' => (st.2.2 k hk').at fun o e => hk (Ts k) (List.mem_cons_of_mem _ (List.mem_cons_of_mem _ (List.mem_map.mpr ⟨k, List.mem_range.mpr hk', rfl⟩))) o e⟩
  item := fun i s Q E hi st hQ => by
    refine next_item st.1 st.2.1 (x := .ref (Ts i)) (hit i hi) fun h' hit' hs' => ?_
    have tup : ∀ k, k < items.size → h'.IsTuple (Ts k) (vals k) := fun k hk' => (st.2.2 k hk').extBut hs'.extBut (hTI k hk')
    exact hQ (Ts i) (vals i) h' s.toks ⟨hi, rfl⟩ (tup i hi) ⟨⟨hi, rfl⟩, hit', st.2.1.extBut hs'.extBut hne, tup⟩ fun b o hb e => hs'.extBut b o (fun h => hb (by simp [h])) e
  go := fun _ _ _ _ _ s Q _ hm hQ => wpAny_letOwnedTupleGo_listiter hm.2.1 (hQ s.heap hm.2 fun _ _ _ e => e)
  apart := fun j T _ hm hmem => by
    rcases List.mem_cons.mp hmem with e | e
    · exact hTI j hm.1.1 (hm.1.2 ▸ e)
    · cases e
  done := fun s Q E st hQ => next_end hh st.1 st.2.1 (by simp) fun h' he' => hQ h' s.toks fun b o hb e => he' b o (fun h => hb (by simp [h])) e
  self := fun _ _ _ _ st hQ => wpAny_pyIter_listiter st.1 hQ

/-- the addresses and the parts of a pile's pairs -/
theorem pairs_of {qc : Addr} {F : FM} : ∀ {items : List PV} {vs : List Value}, RepL qc F items vs → ∀ {fs : List (Str × Str)}, items = fs.map (fun p => PV.tup [.str p.1, .str p.2]) →
    ∃ (Ts : Nat → Addr) (vals : Nat → Array Value), (∀ j, j < vs.length → vs[j]? = some (.ref (Ts j))) ∧
      (∀ j, j < vs.length → (∃ o n, F (Ts j) = some o ∧ o.cls = .type "tuple" ∧ o.data = .seq (vals j) n) ∧ ∃ p t u, fs[j]? = some p ∧ vals j = #[.str p.1 t, .str p.2 u])
  | [], _, r, fs, e => by
    cases r
    exact ⟨fun _ => 0, fun _ => #[], fun j h => absurd h (Nat.not_lt_zero _), fun j h => absurd h (Nat.not_lt_zero _)⟩
  | p :: ps, _, r, [], e => by cases e
  | p :: ps, _, r, f :: fs, e => by
    obtain ⟨v, ws, rfl, r1, r2⟩ := r
    rw [List.map_cons] at e
    injection e with e1 e2
    subst e1
    obtain ⟨a, o, us, n, rfl, h1, h2, h3, h4⟩ := r1
    obtain ⟨v1, _, e4, ⟨t, rfl⟩, v2, _, rfl, ⟨u, rfl⟩, rfl⟩ := h4
    obtain ⟨Ts, vals, g1, g2⟩ := pairs_of r2 e2
    refine ⟨fun j => match j with | 0 => a | k + 1 => Ts k, fun j => match j with | 0 => us | k + 1 => vals k, fun j hj => ?_, fun j hj => ?_⟩
    · cases j with
      | zero => rfl
      | succ k => simpa using g1 k (by simpa using hj)
    · cases j with
      | zero => exact ⟨⟨o, n, h1, h2, h3⟩, f, t, u, rfl, by show us = _; rw [← Array.toArray_toList (xs := us), e4]⟩
      | succ k => simpa using g2 k (by simpa using hj)
end Nw

namespace Nw
set_option tactic.hygienic false

/-- an environment of the text: a function's frame, or a generator's -/
structure EnvIs (env : Env) (names : Names) : Prop where
  kind : env.scope.kind = .function
  kindOf : ∀ x, env.kindOf x = names.lookup x
  globals : env.globals = mainGlobals
  builtins : env.builtins = builtinsNs

theorem env_name {names : Names} {env : Env} {M : Model} {A : Around} {s : Shared} {x : Str} {pos : Pos} {v : Value} {m : Str → Option Value} {Q : Value → Shared → Prop} {E : Value → Shared → Prop} (ei : EnvIs env names)
    (hn : names.lookup x = some .local) (ns : s.heap.Ns env.locals m) (hv : m x = some v) (hd : (x == ("__debug__" : Str)) = false) (h : Q v s) : wpAny M A (eval (.Name x pos) env) Q E s :=
  wpAny_Name (wpAny_loadName_local ei.kind ((ei.kindOf x).trans hn) ns hv h) hd

theorem env_glob {W : Wd} (ok : WdOK W) {names : Names} {env : Env} {A : Around} {s : Shared} {x : Str} {pos : Pos} {v : Value} {Q : Value → Shared → Prop} {E : Value → Shared → Prop} (ei : EnvIs env names) (base : Keep W.hB s.heap)
    (hn : names.lookup x = some .globalImplicit) (hd : (x == ("__debug__" : Str)) = false) (hv : W.glob x v) (h : Q v s) : wpAny W.M A (eval (.Name x pos) env) Q E s := by
  refine PySem.Calls.Name_function_global ei.kind ((ei.kindOf x).trans hn) ?_ hd
  rcases hv with hv | ⟨hm, hv⟩
  · exact PySem.Calls.loadGlobal_global (by rw [ei.globals]; exact ok.g.keeps base) hv h
  · exact PySem.Calls.loadGlobal_builtin (by rw [ei.globals]; exact ok.g.keeps base) hm (by rw [ei.builtins]; exact ok.b.keeps base) hv h

/-- len of a name that holds a text -/
theorem env_len {W : Wd} (ok : WdOK W) (gl : W.glob "len" (.builtin "len")) {names : Names} {env : Env} {A : Around} {s : Shared} {x : Str} {p0 p1 p2 : Pos} {y : Str} {t : Tok} {m : Str → Option Value} {Q : Value → Shared → Prop} {E : Value → Shared → Prop} (ei : EnvIs env names) (base : Keep W.hB s.heap)
    (hl : names.lookup ("len" : Str) = some .globalImplicit) (hn : names.lookup x = some .local) (ns : s.heap.Ns env.locals m) (hv : m x = some (.str y t)) (hd : (x == ("__debug__" : Str)) = false) (hy : y.length ≤ sizeLine) (h : ∀ t' tk, Q (.int y.length t') { s with toks := tk }) :
    wpAny W.M A (eval (.Call (.Name "len" p0) [.Name x p1] [] p2) env) Q E s := by
  rw [sizeLine_eq] at hy
  refine wpAny_Call_Name_kw (env_glob ok ei base hl (by decide) gl ?_)
  refine callWith_of (trees := backTo p2 (starEach [.Name x p1] env)) rfl (callee_builtin _) ?_
  refine wpAny_items_cons (env_name ei hn ns hv hd ?_) rfl
  refine wpAny_items_nil ⟨base, ?_⟩
  exact P.len_str (by lia) (h _ _)

/-- what one pair adds to the pile's length -/
theorem env_lens {W : Wd} (ok : WdOK W) (gl : W.glob "len" (.builtin "len")) {names : Names} {env : Env} {A : Around} {s : Shared} {p0 p1 p2 q0 q1 q2 r : Pos} {y z : Str} {t u : Tok} {m : Str → Option Value} {Q : Value → Shared → Prop} {E : Value → Shared → Prop} (ei : EnvIs env names) (base : Keep W.hB s.heap)
    (hl : names.lookup ("len" : Str) = some .globalImplicit) (hn : names.lookup ("fws" : Str) = some .local) (hn2 : names.lookup ("part" : Str) = some .local) (ns : s.heap.Ns env.locals m) (hv : m "fws" = some (.str y t)) (hv2 : m "part" = some (.str z u)) (hy : y.length ≤ sizeLine) (hz : z.length ≤ sizeLine) (h : ∀ t' tk, Q (.int (y.length + z.length) t') { s with toks := tk }) :
    wpAny W.M A (eval (.BinOp (.Call (.Name "len" p0) [.Name "fws" p1] [] p2) .Add (.Call (.Name "len" q0) [.Name "part" q1] [] q2) r) env) Q E s := by
  refine wpAny_BinOp (env_len ok gl ei base hl hn ns hv (by decide) hy fun t1 tk1 => ?_)
  refine env_len (s := { s with toks := tk1 }) ok gl ei base hl hn2 ns hv2 (by decide) hz fun t2 tk2 => ?_
  exact PySem.wpAny_add_int (h _ _)
end Nw

namespace Nw
set_option tactic.hygienic false

noncomputable def pairLen (fs : List (Str × Str)) (i : Nat) : Int := match fs[i]? with
  | some p => p.1.length + p.2.length
  | none => 0

/-- the element of __len__'s generator is quiet -/
theorem quiet_len {W : Wd} (ok : WdOK W) (gl : W.glob "len" (.builtin "len")) {names : Names} {cenv : Env} {p0 p1 p2 q0 q1 q2 r : Pos} (ei : EnvIs cenv names) (hl : names.lookup ("len" : Str) = some .globalImplicit) (hn : names.lookup ("fws" : Str) = some .local) (hn2 : names.lookup ("part" : Str) = some .local)
    {fp wr : List Addr} {n : Nat} {vals : Nat → Array Value} {fs : List (Str × Str)} {href : Heap} (hv : ∀ j, j < n → ∃ p t u, fs[j]? = some p ∧ vals j = #[.str p.1 t, .str p.2 u]) (hsz : ∀ p ∈ fs, p.1.length ≤ sizeLine ∧ p.2.length ≤ sizeLine)
    (hb : ∀ h : Heap, (∀ b ∈ fp, b ∉ wr → ∀ o, href.get? b = some o → h.get? b = some o) → Keep W.hB h) :
    QuietGenT W.prog W.w cenv "fws" "part" [] (.BinOp (.Call (.Name "len" p0) [.Name "fws" p1] [] p2) .Add (.Call (.Name "len" q0) [.Name "part" q1] [] q2) r) fp wr (fun j v => j < n ∧ v = vals j) (fun _ => true) (fun j v => ∃ t, v = .int (pairLen fs j) t) href where
  tests := fun A' E' i va vb s₂ m₂ hh hp ns h1 h2 hk => by
    simp only [List.forIn_nil]
    exact wpAny_pure ⟨rfl, s₂.heap, s₂.toks, rfl, fun _ _ e => e⟩
  elt := fun A' E' i va vb s₂ m₂ hh hp hz ns h1 h2 hk => by
    obtain ⟨hi, hv'⟩ := hp
    obtain ⟨p, t, u, hf, hval⟩ := hv i hi
    rw [hval] at hv'
    have e1 : va = .str p.1 t ∧ vb = .str p.2 u := by simpa using hv'
    obtain ⟨rfl, rfl⟩ := e1
    have hm := hsz p (List.mem_of_getElem? hf)
    refine env_lens ok gl ei (hb _ hk) hl hn hn2 ns h1 h2 hm.1 hm.2 fun t' tk => ?_
    refine ⟨⟨t', ?_⟩, s₂.heap, tk, rfl, fun _ _ e => e⟩
    unfold pairLen
    rw [hf]

theorem preSum_pairLen : ∀ (fs : List (Str × Str)) (k : Nat), k ≤ fs.length → preSum (pairLen fs) k = ((fs.take k).map fun p => ((p.1.length + p.2.length : Nat) : Int)).sum
  | fs, 0, _ => by simp [preSum]
  | fs, k + 1, h => by
    rw [preSum, preSum_pairLen fs k (by lia)]
    have hk : k < fs.length := by lia
    rw [List.take_succ_eq_append_getElem hk, List.map_append, List.sum_append]
    unfold pairLen
    rw [List.getElem?_eq_getElem hk]
    simp
end Nw

namespace Nw
set_option tactic.hygienic false

/-- the addresses kept from one heap to another -/
noncomputable def KB (pk : Addr → Prop) (h h' : Heap) : Prop := ∀ b o, pk b → h.get? b = some o → h'.get? b = some o

/-- a generator that gives n values, and what it moves is new -/
inductive GenR (W : Wd) (A : Around) (sz : Nat) (n : Nat) (Fq : Nat → Value → Prop) (g : Addr) (s : Shared) : Prop
  | mk (fp wr : List Addr) (k : Nat) (St : Nat → Shared → Prop) (wk : WalksS W.prog W.w A.in4 g fp wr (GenOnlyQ k) n Fq St) (s0 : St 0 s) (ty : ∀ i s', St i s' → s'.TypeIs (.ref g) "generator") (hg : g ∈ fp) (hfp : ∀ b ∈ fp, b < s.heap.objs.size) (hwr : ∀ b ∈ wr, sz ≤ b)

structure BltAt (W : Wd) : Prop where
  b : ∃ bm ob, W.mg "__builtins__" = some (.ref bm) ∧ bm ≠ builtinsNs ∧ W.hB.get? bm = some ob ∧ ob.cls = .type "module" ∧ ob.dict = some builtinsNs ∧ ob.data = .plain

set_option maxHeartbeats 2000000 in
theorem pile_gen {W : Wd} {K : Frag} (ok : WdOK W) (AK : AccK W K) (hiter : findIn K (.ref W.ac) "__iter__" = some (some (.builtin "list.__iter__"))) (B : BltAt W) {s0 s : Shared} {f : Addr} {fd : FuncData} {names : Names} {env : Env} (fr : FrameIs W s0 f fd names env)
    {A : Around} (hh : A.handled = none) (hroom : A.depth < recursionLimit) {m : Str → Option Value} (ns : s.heap.Ns env.locals m) (hself : m "self" = some (.ref a)) (hns : names.lookup ("self" : Str) = some .local)
    {F : FM} {dx : Addr} {vs : Array Value} {n : Nat} {h1 : Int} {kk t : Tok} {hd : Int} {mm : Nat} {items : List PV} {fs : List (Str × Str)} (st : Sits F s.heap) (base : Keep W.hB s.heap) (e1 : s.heap.get? a = some (accObj W.ac dx vs n)) (e2 : F dx = some (sizeDict h1 kk t hd mm)) (rl : RepL W.qc F items vs.toList) (hfs : items = fs.map fun p => PV.tup [.str p.1, .str p.2])
    {Mk : Heap → Prop} {pk : Addr → Prop} (hpF : ∀ b o, F b = some o → pk b) (hpa : pk a) (hnew : ∀ b, s.heap.objs.size ≤ b → pk b)
    {elt : Expr} {scope : Scope} {gpos ps pa pb pt : Pos} {kt : Nat} {gl : Str}
    (hcode : ∀ (s' : Shared) (Q' : Value → Shared → Prop), Keep s.heap s'.heap → (∀ code s'', KB pk s'.heap s''.heap → s'.heap.objs.size ≤ s''.heap.objs.size → Keep W.hB s''.heap → s''.gens = s'.gens → s''.os = s'.os → Mk s''.heap → Q' code s'') → wpAny W.M A (genexprCode env gpos (env.qual ++ "<genexpr>") scope) Q' NoE s')
    (hnames : scope.names = ([(".0", .local), ("fws", .local), ("part", .local), (gl, .globalImplicit)] : Names)) (hkind : scope.kind = .function) (hco : scope.isCoroutine = false)
    {Fq : Nat → Value → Prop}
    (hq : ∀ (cenv : Env) (vals : Nat → Array Value) (wr fp : List Addr) (href : Heap), EnvIs cenv scope.names → (∀ j, j < vs.size → ∃ p t u, fs[j]? = some p ∧ vals j = #[.str p.1 t, .str p.2 u]) →
      (∀ h : Heap, (∀ b ∈ fp, b ∉ wr → ∀ o, href.get? b = some o → h.get? b = some o) → Keep W.hB h) → QuietGenT W.prog W.w cenv "fws" "part" [] elt fp wr (fun j v => j < vs.size ∧ v = vals j) (fun _ => true) Fq href)
    {Q : Value → Shared → Prop}
    (hQ : ∀ g s', KB pk s.heap s'.heap → Keep W.hB s'.heap → (∃ hm, Mk hm ∧ Keep hm s'.heap) → (AllBare s.gens → AllBare s'.gens) → s'.os = s.os → GenR W A s.heap.objs.size vs.size (fun j v => j < vs.size ∧ Fq j v) g s' → Q (.ref g) s') :
    wpAny W.M A (eval (.GeneratorExp elt [⟨.Tuple [.Name "fws" pa, .Name "part" pb] kt pt, .Name "self" ps, [], 0⟩] scope gpos) env) Q NoE s := by
  have X : K.In s.heap := fun b ob e => base _ _ (AK.x b ob e)
  have hin : Looks W.M s.heap (isInstance (.ref a) (.type "list")) true := by
    have Y := (makesL_of (M := W.M) AK.x AK.makes).top.keeps (fun b ob e => base b ob e)
    exact ((Looks.ld e1).andThen .now).andThen Y
  have hclos : closureFor scope env = pure [] := closureFor_none (by rw [hnames]; intro x hx; simp only [List.mem_cons, List.not_mem_nil, or_false] at hx; rcases hx with rfl | rfl | rfl | rfl <;> simp)
  refine wpAny_GeneratorExp_walksQT hh hco hclos (by rw [hnames]; intro x hx; simp only [List.mem_cons, List.not_mem_nil, or_false] at hx; rcases hx with rfl | rfl | rfl | rfl <;> simp) (by rw [hnames]; rfl) (by rw [hnames]; rfl) (by rw [hnames]; rfl) (by decide) hkind hroom ?_ ?_
  · refine frame_name fr hns ns hself (by decide) ?_
    refine iter_inst X (acc_inst st e1 e2) hiter hin ⟨(ok.nolimit.keeps base).push _, ?_⟩
    refine hcode _ _ (fun b o e => Heap.get?_push_of_some _ e) fun code s3 k3 hs3 base3 g3 o3 mk3 => ?_
    obtain ⟨bm, ob, hb1, hb2, hb3, hb4, hb5, hb6⟩ := B.b
    refine wpAny_builtinsFor (by rw [fr.globals]; exact ok.g.keeps base3) hb1 hb2 (base3 _ _ hb3) hb4 hb5 hb6 ?_
    obtain ⟨Ts, vals, hTs, hvals⟩ := pairs_of rl hfs
    have hlI : ∀ b o, s.heap.get? b = some o → b < s.heap.objs.size := fun b o e => Heap.lt_size e
    have en : vs.toList.length = vs.size := Array.length_toList
    have hTI : ∀ j, j < vs.size → Ts j ≠ s.heap.objs.size := fun j hj => by
      obtain ⟨⟨o, k, q1, q2, q3⟩, _⟩ := hvals j (by rw [en]; exact hj)
      exact Nat.ne_of_lt (hlI _ _ (st _ _ q1))
    have hne : a ≠ s.heap.objs.size := Nat.ne_of_lt (hlI _ _ e1)
    have hss : s.heap.objs.size < s3.heap.objs.size := by
      have : (s.heap.push { cls := .type "list_iterator", data := .fields #[.ref a, .int 0 0] }).objs.size ≤ s3.heap.objs.size := hs3
      rw [Heap.size_push] at this
      lia
    have hl3 : s3.heap.NoLimit := ok.nolimit.keeps base3
    have k30 : KB pk s.heap s3.heap := fun b o hp e => k3 b o hp (Heap.get?_push_of_some _ e)
    have hpass : passing (fun _ => true) vs.size 0 = List.range vs.size := by unfold passing; simp
    refine ⟨s.heap.objs.size, _, [s.heap.objs.size], vs.size, _, _, _, fun _ => true, Fq, rfl, fun A' hA' => walksU_pile hA' s.heap.objs.size a hne vs Ts vals (fun j hj => by rw [← Array.getElem?_toList]; exact hTs j (by rw [en]; exact hj)) hTI, ?_, ?_, ?_, hl3, ?_, ?_, ?_⟩
    · rintro i v ⟨hi, rfl⟩
      obtain ⟨_, p, t, u, _, e⟩ := hvals i (by rw [en]; exact hi)
      exact ⟨_, _, e⟩
    · refine ⟨⟨_, k3 _ _ (hnew _ (Nat.le_refl _)) (Heap.get?_push_size _ rfl), rfl, rfl⟩, ⟨_, _, k30 _ _ hpa e1, rfl⟩, fun k hk => ?_⟩
      obtain ⟨⟨o, n', q1, q2, q3⟩, _⟩ := hvals k (by rw [en]; exact hk)
      exact ⟨o, k30 _ _ (hpF _ _ q1) (st _ _ q1), q2, n', q3⟩
    · intro b hb
      rcases List.mem_cons.mp hb with rfl | hb
      · exact hss
      · rcases List.mem_cons.mp hb with rfl | hb
        · exact Nat.lt_trans (hlI _ _ e1) hss
        · obtain ⟨j, hj, rfl⟩ := List.mem_map.mp hb
          obtain ⟨⟨o, n', q1, q2, q3⟩, _⟩ := hvals j (by rw [en]; exact List.mem_range.mp hj)
          exact Nat.lt_trans (hlI _ _ (st _ _ q1)) hss
    · intro hm
      have hlt : cStatics < s.heap.objs.size := let ⟨_, hn, _⟩ := ok.nolimit.keeps base; hn.lt
      rw [List.mem_singleton] at hm
      exact absurd hm (Nat.ne_of_lt hlt)
    · intro href hhref
      refine hq _ vals _ _ href ⟨hkind, fun x => rfl, fr.globals, rfl⟩ (fun j hj => (hvals j (by rw [en]; exact hj)).2) (fun h hag b o e => ?_)
      have q := base3 _ _ e
      refine hag b (List.mem_range.mpr (Heap.lt_size q)) ?_ o (hhref _ _ q)
      rw [List.mem_singleton]
      exact Nat.ne_of_lt (hlI _ _ (base _ _ e))
    · intro g' h5 tk gs hgb hag hsz5 hk5 Wk hat
      refine hQ g' _ (fun b o hp e => hk5 _ _ (k30 _ _ hp e)) (base3.trans hk5) ⟨_, mk3, hk5⟩ (fun G => ?_) o3 ⟨g' :: s3.heap.objs.size :: List.range s3.heap.objs.size, [s3.heap.objs.size, s.heap.objs.size], s3.gens.size, _, ?_, hat, fun i s' st => st.1.typeIs, List.mem_cons_self, ?_, ?_⟩
      · show AllBare (s3.gens.push gs)
        rw [g3]
        exact AllBare.push G hgb
      · have W2 := Wk
        rw [hpass, List.length_range] at W2
        exact { W2 with
          item := fun i s Q E hi st hQ' => W2.item i s Q E hi st fun v s' hp hs hm => hQ' v s' (by
            obtain ⟨k, hk, hf⟩ := hp
            obtain ⟨hk1, hk2⟩ := List.getElem?_eq_some_iff.mp hk
            rw [List.getElem_range] at hk2
            subst hk2
            exact ⟨hi, hf⟩) hs hm }
      · intro b hb
        show b < h5.objs.size
        rw [hsz5]
        rcases List.mem_cons.mp hb with rfl | hb
        · exact Nat.lt_succ_self _
        · rcases List.mem_cons.mp hb with rfl | hb
          · exact Nat.lt_succ_of_lt hag
          · exact Nat.lt_succ_of_lt (Nat.lt_trans (List.mem_range.mp hb) hag)
      · intro b hb
        rcases List.mem_cons.mp hb with rfl | hb
        · exact Nat.le_of_lt hss
        · rw [List.mem_singleton] at hb
          exact Nat.le_of_eq hb.symm
  · exact fun x => rfl
end Nw

namespace Nw
set_option tactic.hygienic false

noncomputable def lenNames : Names := [("self", .local), ("sum", .globalImplicit)]
noncomputable def lenGen : Names := [(".0", .local), ("fws", .local), ("part", .local), ("len", .globalImplicit)]

set_option maxHeartbeats 2000000 in
theorem len_sound {W : Wd} {K : Frag} (ok : WdOK W) (AK : AccK W K) (hiter : findIn K (.ref W.ac) "__iter__" = some (some (.builtin "list.__iter__"))) (B : BltAt W) (gl : W.glob "len" (.builtin "len")) (gs : W.glob "sum" (.builtin "sum"))
    (hsize : ∀ h k t x n, findObj K W.ac (some (sizeDict h k t x n)) "_initial_size" = some (.value (.int x t)))
    {f : Addr} {o : Obj} {fd : FuncData} {p0 p1 p2 q0 q1 q2 r c0 c1 c2 c3 c4 ps pa pb pt gpos : Pos} {kt : Nat} {scope : Scope}
    (M : MethAt W f o fd ["self"] [Stmt.Return (some (.Call (.Name "sum" c0) [.GeneratorExp (.BinOp (.Call (.Name "len" p0) [.Name "fws" p1] [] p2) .Add (.Call (.Name "len" q0) [.Name "part" q1] [] q2) r) [⟨.Tuple [.Name "fws" pa, .Name "part" pb] kt pt, .Name "self" ps, [], 0⟩] scope gpos, .Attribute (.Name "self" c1) "_initial_size" c2] [] c3)) c4] lenNames)
    (hnames : scope.names = lenGen) (hkind : scope.kind = .function) (hco : scope.isCoroutine = false)
    (hbind : ∀ a : Value, bindArgs fd ⟨[a], []⟩ = pure ([("self", a)] : List (Str × Value)))
    {A : Around} {F : FM} {s : Shared} {env0 : Env} {a : Addr} {hd : Int} {fs : List (Str × Str)} {Mk : Heap → Prop} {pk : Addr → Prop} (hA : Amb A 2) (st : Sits F s.heap) (base : Keep W.hB s.heap) (hsl : SlotOK W F s.heap env0 (.acc hd (fs.map fun p => PV.tup [.str p.1, .str p.2])) (.ref a))
    (hpF : ∀ b o, F b = some o → pk b) (hpa : pk a) (hnew : ∀ b, s.heap.get? b = none → pk b)
    (hcode : ∀ (A : Around) (env : Env) (s' : Shared) (Q' : Value → Shared → Prop), env.code = fd.code → Keep s.heap s'.heap → (∀ code s'', KB pk s'.heap s''.heap → s'.heap.objs.size ≤ s''.heap.objs.size → Keep W.hB s''.heap → s''.gens = s'.gens → s''.os = s'.os → Mk s''.heap → Q' code s'') → wpAny W.M A (genexprCode env gpos (env.qual ++ "<genexpr>") scope) Q' NoE s')
    (hsz : ∀ p ∈ fs, p.1.length ≤ sizeLine ∧ p.2.length ≤ sizeLine) (hd0 : InLong hd) (hfit : ∀ j, j < fs.length → InLong (pairLen fs j) ∧ InLong (hd + preSum (pairLen fs) (j + 1))) :
    wpAny W.M A (call (.ref f) [.ref a]) (fun v s' => (∃ t, v = .int (hd + preSum (pairLen fs) fs.length) t) ∧ KB pk s.heap s'.heap ∧ Keep W.hB s'.heap ∧ (∃ hm, Mk hm ∧ ∀ b o, (∃ ob, s.heap.get? b = some ob) → hm.get? b = some o → s'.heap.get? b = some o) ∧ (AllBare s.gens → AllBare s'.gens) ∧ s'.os = s.os) NoE s := by
  have hdep := hA.depth
  refine wpAny_call (meth_frame ok M base (by lia) (binds := [("self", .ref a)]) (.of_eq (hbind _)) (by decide) (by intro x hx; simp only [List.mem_cons, List.not_mem_nil, or_false] at hx; subst hx; rfl) fun env h₀ tk fr ns keep => ?_)
  obtain ⟨a', dx, vs, n, hh, kk, t, m, ea, e1, e2, rl, off⟩ := hsl
  cases ea
  have en := rl.length
  rw [Array.length_toList, List.length_map] at en
  have st1 : Sits F h₀ := fun b ob e => keep _ _ (st b ob e)
  have base1 : Keep W.hB h₀ := base.trans keep
  have hnew1 : ∀ b, h₀.objs.size ≤ b → pk b := fun b hb => hnew b (by
    cases q : s.heap.get? b with
    | none => rfl
    | some ob => exact absurd (Heap.lt_size (keep _ _ q)) (Nat.not_lt.mpr hb))
  have hle : ∀ b, (∃ ob, s.heap.get? b = some ob) → b < h₀.objs.size := fun b ⟨ob, e⟩ => Heap.lt_size (keep _ _ e)
  refine ks_wpAt_execs_cons (ks_wpAt_Return_some (wpAt_of_wpAny ?_))
  refine wpAny_Call_Name_kw (frame_glob ok fr base1 (by decide) (by decide) gs ?_)
  refine callWith_of (trees := backTo c3 (starEach [.GeneratorExp (.BinOp (.Call (.Name "len" p0) [.Name "fws" p1] [] p2) .Add (.Call (.Name "len" q0) [.Name "part" q1] [] q2) r) [⟨.Tuple [.Name "fws" pa, .Name "part" pb] kt pt, .Name "self" ps, [], 0⟩] scope gpos, .Attribute (.Name "self" c1) "_initial_size" c2] env)) rfl (callee_builtin _) ?_
  refine wpAny_items_cons ?_ rfl
  refine pile_gen (A := A.deeper env) (s := { s with heap := h₀, toks := tk }) (gl := "len") (pk := pk) (Mk := Mk) (Fq := fun j v => ∃ t, v = .int (pairLen fs j) t) ok AK hiter B fr (show (A.deeper env).handled = none from hA.handled) (by show A.depth + 1 < recursionLimit; lia) ns (by rfl) (by decide) st1 base1 (keep _ _ e1) e2 rl rfl hpF hpa hnew1
    (fun s' Q' k hq => hcode _ env s' Q' fr.code (fun b ob e => k _ _ (keep _ _ e)) hq) hnames hkind hco
    (fun cenv vals wr fp href ei hv hb => quiet_len ok gl ei (by rw [hnames]; rfl) (by rw [hnames]; rfl) (by rw [hnames]; rfl) hv hsz hb) ?_
  intro g s2 k2 base2 ⟨hmk, mk, km2⟩ G2 o2 GR
  have hloc : pk env.locals := hnew _ fr.new
  have ns2 := ns.at' fun o e => k2 _ _ hloc e
  refine wpAny_items_cons (Attribute_name (frame_name fr (by decide) ns2 (v := .ref a) (by rfl) (by decide) (get_valueL (K := K) (fun b ob e => base2 _ _ (AK.x b ob e)) ⟨k2 _ _ hpa (keep _ _ e1), rfl, rfl, k2 _ _ (hpF _ _ e2) (st1 _ _ e2)⟩ AK.ga AK.gat (acc_in AK base2 (k2 _ _ hpa (keep _ _ e1))) (hsize _ _ _ _ _) rfl ?_))) rfl
  refine wpAny_items_nil ⟨base2, ?_⟩
  obtain ⟨fp, wr, k, St, Wk, hst, hT, hm, hfp, hwr⟩ := GR
  have W1 := Wk.in4_1
  have hst' : St 0 { s2 with toks := s2.toks + 1 } := W1.frame 0 s2 s2.heap (s2.toks + 1) hst (Nat.le_succ _) (fun b _ o e => e)
  refine call_sum_start (s := { s2 with toks := s2.toks + 1 }) hd0 (W1.self 0 _ _ _ hst' ⟨g, fp, wr, _, vs.size, _, St, pairLen fs, rfl, W1, hst', hfp, fun i v hp => hp.2, fun j hj => hfit j (by rw [← en]; exact hj), fun s' t' mv => ?_⟩)
  refine ⟨⟨t', by rw [en]⟩, fun b ob hp e => mv.heap b ob (fun hw => ?_) (k2 _ _ hp (keep _ _ e)), fun b ob e => mv.heap b ob (fun hw => ?_) (base2 _ _ e), ⟨hmk, mk, fun b ob hb e => mv.heap b ob (fun hw => absurd (hle b hb) (Nat.not_lt.mpr (hwr b hw))) (km2 _ _ e)⟩, fun G => AllBare.movedS (s := { s2 with toks := s2.toks + 1 }) (G2 G) mv, mv.os.trans o2⟩
  · exact absurd (Heap.lt_size (keep _ _ e)) (Nat.not_lt.mpr (hwr b hw))
  · exact absurd (Heap.lt_size (base1 _ _ e)) (Nat.not_lt.mpr (hwr b hw))
end Nw

namespace Nw

/-- the element of __str__'s generator: the empty text joining a pair -/
theorem env_join {W : Wd} (ok : WdOK W) {et : Tok} (ge : W.glob "EMPTYSTRING" (.str "" et)) {names : Names} {env : Env} {A : Around} {s : Shared} {e0 e1 e2 p1 p2 p3 : Pos} {kt : Nat} {y z : Str} {t u : Tok} {m : Str → Option Value} {Q : Value → Shared → Prop} {E : Value → Shared → Prop} (ei : EnvIs env names) (base : Keep W.hB s.heap) (hl : (e1.endLine == e2.line) = true)
    (hg : names.lookup ("EMPTYSTRING" : Str) = some .globalImplicit) (hn : names.lookup ("fws" : Str) = some .local) (hn2 : names.lookup ("part" : Str) = some .local) (ns : s.heap.Ns env.locals m) (hv : m "fws" = some (.str y t)) (hv2 : m "part" = some (.str z u)) (hsz : y.length + z.length ≤ sizeLine)
    (h : ∀ t' tk h', Keep s.heap h' → Q (.str (Txt.join "" [y, z]) t') { s with heap := h', toks := tk }) :
    wpAny W.M A (eval (.Call (.Attribute (.Name "EMPTYSTRING" e0) "join" e1) [.Tuple [.Name "fws" p1, .Name "part" p2] kt p3] [] e2) env) Q E s := by
  refine meth_call hl (show 1 < 30 by decide) rfl rfl ?_
  refine env_glob ok ei base hg (by decide) ge ?_
  refine getMethod_builtin (typeIs_str s "" et) PySem.F.plainAttrs_str PySem.F.slot_str_join PySem.F.type_str_join (fun a e => nomatch e) ?_
  refine callWith_of (trees := backTo e2 (starEach [.Tuple [.Name "fws" p1, .Name "part" p2] kt p3] env)) rfl (callee_builtin _) ?_
  refine wpAny_items_cons ?_ rfl
  rw [arm_eval_Tuple]
  refine wpAny_bind (wpAny_standAt (wpAny_bind ?_))
  refine wpAny_items_cons (env_name ei hn ns hv (by decide) (wpAny_items_cons (env_name ei hn2 ns hv2 (by decide) (wpAny_items_nil ?_)) rfl)) rfl
  refine wpAny_newObj_type ?_
  refine wpAny_items_nil ⟨fun b ob e => Heap.get?_push_of_some _ (base b ob e), ?_⟩
  refine PyProof.Rows.join_tuple (ys := [y, z]) (items := #[.str y t, .str z u]) ⟨_, Heap.get?_push_size _ rfl, rfl, _, rfl⟩ (.cons y t (.cons z u .nil)) (by
    rw [sizeLine_eq] at hsz
    have l0 : (Str.ofString "").length = 0 := by decide +kernel
    simp only [List.map_cons, List.map_nil, List.sum_cons, List.sum_nil, l0]
    omega) fun t' k => h t' k _ (fun b ob e => Heap.get?_push_of_some _ e)
end Nw

namespace Nw
set_option tactic.hygienic false

noncomputable def pairText (fs : List (Str × Str)) (i : Nat) : Str := match fs[i]? with
  | some p => Txt.join "" [p.1, p.2]
  | none => ""

/-- the element of __str__'s generator is quiet -/
theorem quiet_str {W : Wd} (ok : WdOK W) {et : Tok} (ge : W.glob "EMPTYSTRING" (.str "" et)) {names : Names} {cenv : Env} {e0 e1 e2 p1 p2 p3 : Pos} {kt : Nat} (ei : EnvIs cenv names) (hl : (e1.endLine == e2.line) = true)
    (hg : names.lookup ("EMPTYSTRING" : Str) = some .globalImplicit) (hn : names.lookup ("fws" : Str) = some .local) (hn2 : names.lookup ("part" : Str) = some .local)
    {fp wr : List Addr} {n : Nat} {vals : Nat → Array Value} {fs : List (Str × Str)} {href : Heap} (hv : ∀ j, j < n → ∃ p t u, fs[j]? = some p ∧ vals j = #[.str p.1 t, .str p.2 u]) (hsz : ∀ p ∈ fs, p.1.length + p.2.length ≤ sizeLine)
    (hb : ∀ h : Heap, (∀ b ∈ fp, b ∉ wr → ∀ o, href.get? b = some o → h.get? b = some o) → Keep W.hB h) :
    QuietGenT W.prog W.w cenv "fws" "part" [] (.Call (.Attribute (.Name "EMPTYSTRING" e0) "join" e1) [.Tuple [.Name "fws" p1, .Name "part" p2] kt p3] [] e2) fp wr (fun j v => j < n ∧ v = vals j) (fun _ => true) (fun j v => ∃ t, v = .str (pairText fs j) t) href where
  tests := fun A' E' i va vb s₂ m₂ hh hp ns h1 h2 hk => by
    simp only [List.forIn_nil]
    exact wpAny_pure ⟨rfl, s₂.heap, s₂.toks, rfl, fun _ _ e => e⟩
  elt := fun A' E' i va vb s₂ m₂ hh hp hz ns h1 h2 hk => by
    obtain ⟨hi, hv'⟩ := hp
    obtain ⟨p, t, u, hf, hval⟩ := hv i hi
    rw [hval] at hv'
    have e1 : va = .str p.1 t ∧ vb = .str p.2 u := by simpa using hv'
    obtain ⟨rfl, rfl⟩ := e1
    refine env_join ok ge ei (hb _ hk) hl hg hn hn2 ns h1 h2 (hsz p (List.mem_of_getElem? hf)) fun t' tk h' k => ?_
    refine ⟨⟨t', ?_⟩, h', tk, rfl, k⟩
    unfold pairText
    rw [hf]

/-- join over such a generator -/
theorem join_genR {W : Wd} {A : Around} {E : Value → Shared → Prop} {s : Shared} {sz n : Nat} {g : Addr} {sep : Str} {t : Tok} {tx : Nat → Str} {Q : Value → Shared → Prop} (GR : GenR W A sz n (fun j v => j < n ∧ ∃ u, v = .str (tx j) u) g s) (hn : n ≤ sizeLine) (hok : JoinOk sep ((List.range n).map tx) = true)
    (hQ : ∀ s' t', (∀ b o, b < sz → s.heap.get? b = some o → s'.heap.get? b = some o) → (AllBare s.gens → AllBare s'.gens) → s'.os = s.os → Q (.str (Txt.join sep ((List.range n).map tx)) t') s') :
    wpAny W.M A (call (.builtin "str.join") [.str sep t, .ref g]) Q E s := by
  obtain ⟨fp, wr, k, St, Wk, hst, hT, ha, hfp, hwr⟩ := GR
  have W2 := Wk.in4_2
  refine SC.joinGen W2 hT hst hfp ha (fun j v hv => let ⟨_, u, e⟩ := hv; ⟨_, u, e⟩) (fun s' lt hm hacc => ?_) hn
  have hl : lt.map (·.1) = (List.range n).map tx := by
    have hlen : lt.length = n := by simpa [strValues] using hacc.1
    refine List.ext_getElem (by simp [hlen]) fun j h1 h2 => ?_
    have hj : j < lt.length := by simpa using h1
    obtain ⟨_, u, hv⟩ := hacc.2 j (.str lt[j].1 lt[j].2) (by simp [strValues, List.getElem?_eq_getElem hj])
    injection hv with h3 _
    simp [h3]
  rw [hl]
  exact ⟨hok, fun t' kk => hQ { s' with toks := kk } t' (fun b o hb e => hm.heap b o (fun hw => absurd hb (Nat.not_lt.mpr (hwr b hw))) e) (fun G => AllBare.movedS (s' := s') G hm) hm.os⟩
end Nw

namespace Nw
set_option tactic.hygienic false

noncomputable def strNames : Names := [("self", .local), ("EMPTYSTRING", .globalImplicit)]
noncomputable def strGen : Names := [(".0", .local), ("fws", .local), ("part", .local), ("EMPTYSTRING", .globalImplicit)]

set_option maxHeartbeats 2000000 in
theorem str_sound {W : Wd} {K : Frag} (ok : WdOK W) (AK : AccK W K) (hiter : findIn K (.ref W.ac) "__iter__" = some (some (.builtin "list.__iter__"))) (B : BltAt W) {et : Tok} (ge : W.glob "EMPTYSTRING" (.str "" et))
    {f : Addr} {o : Obj} {fd : FuncData} {e0 e1 e2 p1 p2 p3 c0 c1 c2 c3 ps pa pb pt gpos : Pos} {kt kq : Nat} {scope : Scope}
    (M : MethAt W f o fd ["self"] [Stmt.Return (some (.Call (.Attribute (.Name "EMPTYSTRING" c0) "join" c1) [.GeneratorExp (.Call (.Attribute (.Name "EMPTYSTRING" e0) "join" e1) [.Tuple [.Name "fws" p1, .Name "part" p2] kq p3] [] e2) [⟨.Tuple [.Name "fws" pa, .Name "part" pb] kt pt, .Name "self" ps, [], 0⟩] scope gpos] [] c2)) c3] strNames)
    (hl : (e1.endLine == e2.line) = true) (hl2 : (c1.endLine == c2.line) = true)
    (hnames : scope.names = strGen) (hkind : scope.kind = .function) (hco : scope.isCoroutine = false)
    (hbind : ∀ a : Value, bindArgs fd ⟨[a], []⟩ = pure ([("self", a)] : List (Str × Value)))
    {A : Around} {F : FM} {s : Shared} {env0 : Env} {a : Addr} {hd : Int} {fs : List (Str × Str)} {Mk : Heap → Prop} {pk : Addr → Prop} (hA : Amb A 2) (st : Sits F s.heap) (base : Keep W.hB s.heap) (hsl : SlotOK W F s.heap env0 (.acc hd (fs.map fun p => PV.tup [.str p.1, .str p.2])) (.ref a))
    (hpF : ∀ b o, F b = some o → pk b) (hpa : pk a) (hnew : ∀ b, s.heap.get? b = none → pk b)
    (hcode : ∀ (A : Around) (env : Env) (s' : Shared) (Q' : Value → Shared → Prop), env.code = fd.code → Keep s.heap s'.heap → (∀ code s'', KB pk s'.heap s''.heap → s'.heap.objs.size ≤ s''.heap.objs.size → Keep W.hB s''.heap → s''.gens = s'.gens → s''.os = s'.os → Mk s''.heap → Q' code s'') → wpAny W.M A (genexprCode env gpos (env.qual ++ "<genexpr>") scope) Q' NoE s')
    (hsz : ∀ p ∈ fs, p.1.length + p.2.length ≤ sizeLine) (hn : fs.length ≤ sizeLine) (hok : JoinOk "" ((List.range fs.length).map (pairText fs)) = true) :
    wpAny W.M A (call (.ref f) [.ref a]) (fun v s' => (∃ t, v = .str (Txt.join "" ((List.range fs.length).map (pairText fs))) t) ∧ KB pk s.heap s'.heap ∧ Keep W.hB s'.heap ∧ (∃ hm, Mk hm ∧ ∀ b o, (∃ ob, s.heap.get? b = some ob) → hm.get? b = some o → s'.heap.get? b = some o) ∧ (AllBare s.gens → AllBare s'.gens) ∧ s'.os = s.os) NoE s := by
  have hdep := hA.depth
  refine wpAny_call (meth_frame ok M base (by lia) (binds := [("self", .ref a)]) (.of_eq (hbind _)) (by decide) (by intro x hx; simp only [List.mem_cons, List.not_mem_nil, or_false] at hx; subst hx; rfl) fun env h₀ tk fr ns keep => ?_)
  obtain ⟨a', dx, vs, n, hh, kk, t, m, ea, q1, q2, rl, off⟩ := hsl
  cases ea
  have en := rl.length
  rw [Array.length_toList, List.length_map] at en
  have st1 : Sits F h₀ := fun b ob e => keep _ _ (st b ob e)
  have base1 : Keep W.hB h₀ := base.trans keep
  have hnew1 : ∀ b, h₀.objs.size ≤ b → pk b := fun b hb => hnew b (by
    cases q : s.heap.get? b with
    | none => rfl
    | some ob => exact absurd (Heap.lt_size (keep _ _ q)) (Nat.not_lt.mpr hb))
  have hle : ∀ b, (∃ ob, s.heap.get? b = some ob) → b < h₀.objs.size := fun b ⟨ob, e⟩ => Heap.lt_size (keep _ _ e)
  refine ks_wpAt_execs_cons (ks_wpAt_Return_some (wpAt_of_wpAny ?_))
  refine meth_call hl2 (show 1 < 30 by decide) rfl rfl ?_
  refine frame_glob ok fr base1 (by decide) (by decide) ge ?_
  refine getMethod_builtin (typeIs_str _ "" et) PySem.F.plainAttrs_str PySem.F.slot_str_join PySem.F.type_str_join (fun a e => nomatch e) ?_
  refine callWith_of (trees := backTo c2 (starEach [.GeneratorExp (.Call (.Attribute (.Name "EMPTYSTRING" e0) "join" e1) [.Tuple [.Name "fws" p1, .Name "part" p2] kq p3] [] e2) [⟨.Tuple [.Name "fws" pa, .Name "part" pb] kt pt, .Name "self" ps, [], 0⟩] scope gpos] env)) rfl (callee_builtin _) ?_
  refine wpAny_items_cons ?_ rfl
  refine pile_gen (A := A.deeper env) (s := { s with heap := h₀, toks := tk }) (gl := "EMPTYSTRING") (pk := pk) (Mk := Mk) (Fq := fun j v => ∃ t, v = .str (pairText fs j) t) ok AK hiter B fr (show (A.deeper env).handled = none from hA.handled) (by show A.depth + 1 < recursionLimit; lia) ns (by rfl) (by decide) st1 base1 (keep _ _ q1) q2 rl rfl hpF hpa hnew1
    (fun s' Q' k hq => hcode _ env s' Q' fr.code (fun b ob e => k _ _ (keep _ _ e)) hq) hnames hkind hco
    (fun cenv vals wr fp href ei hv hb => quiet_str ok ge ei hl (by rw [hnames]; rfl) (by rw [hnames]; rfl) (by rw [hnames]; rfl) hv hsz hb) ?_
  intro g s2 k2 base2 ⟨hmk, mk, km2⟩ G2 o2 GR
  refine wpAny_items_nil ⟨base2, ?_⟩
  rw [en] at GR
  refine join_genR (tx := pairText fs) GR hn hok fun s' t' km G3 o3 => ?_
  refine ⟨⟨t', rfl⟩, fun b ob hp e => km b ob ?_ (k2 _ _ hp (keep _ _ e)), fun b ob e => km b ob ?_ (base2 _ _ e), ⟨hmk, mk, fun b ob hb e => km b ob (hle b hb) (km2 _ _ e)⟩, fun G => G3 (G2 G), o3.trans o2⟩
  · exact Heap.lt_size (keep _ _ e)
  · exact Heap.lt_size (base1 _ _ e)
end Nw

namespace Nw
set_option tactic.hygienic false

/-- len of an instance whose class has __len__ in the text -/
theorem len_call {prog : Program} {w : World} {A : Around} {E : Value → Shared → Prop} {s : Shared} {K : Frag} {x C f : Addr} {ox : Obj} {od : Option Obj} {Q : Value → Shared → Prop} (X : K.In s.heap) (I : InstAt s.heap x ox C od)
    (hs : findIn K (.ref C) "__len__" = some (some (.ref f))) (hf : typeIn K (.ref f) = some (.type "function"))
    (hcall : wpAny (model prog w) A.in1 (call (.ref f) [.ref x]) (fun r s' => ∃ n u, r = .int n u ∧ 0 ≤ n ∧ n < 2 ^ 63 ∧ Q (.int n s'.toks) { s' with toks := s'.toks + 1 }) E s) :
    wpAny (model prog w) A (call (.builtin "len") [.ref x]) Q E s := by
  refine PySem.Calls.call_function_entry PySem.kind_len PySem.plain_len PySem.entry_len (PySem.args_len1 _) ?_
  unfold Builtin.«len»
  refine wpAny_bind (m := oneArg "len" _) (wpAny_pure ?_)
  refine wpAny_bind (m := callSpecial? (.ref x) (Str.ofString "__len__")) (special_fn X I hs hf (wpAny_mono hcall (fun r s' hr => ?_) fun _ _ y => y))
  obtain ⟨n, u, rfl, h0, h1, hq⟩ := hr
  refine wpAny_bind (wpAny_holding (wpAny_pure ?_))
  refine wpAny_bind (wpAny_letGo ?_)
  show wpAny _ _ (if n < 0 then _ else _) _ _ _
  rw [if_neg (by lia)]
  show wpAny _ _ (if n ≥ 2 ^ 63 then _ else _) _ _ _
  rw [if_neg (by lia)]
  exact wpAny_bind (wpAny_mkInt (wpAny_pure ⟨_, rfl, hq⟩))
end Nw

namespace Nw
set_option tactic.hygienic false

/-- the code of a generator stands in the table -/
noncomputable def CodeIn (c P : Addr) (gpos : Pos) (h : Heap) : Prop := ∃ tab, h.IsCode c P tab ∧ h.TableAt c P tab ∧ (codeAmong gpos tab.toList).isSome = true
/-- the table is as yet without it -/
noncomputable def CodeNot (c P : Addr) (gpos : Pos) (h : Heap) : Prop := ∃ tab, h.IsCode c P tab ∧ h.TableAt c P tab ∧ codeAmong gpos tab.toList = none

/-- the generator's code, at the first run -/
theorem code_first {W : Wd} {fd : FuncData} {s : Shared} {c P : Addr} {gpos : Pos} {scope : Scope} (base : Keep W.hB s.heap) (hP : W.hB.get? P = none) (hc : fd.code = .ref c) (hn : CodeNot c P gpos s.heap) :
    ∀ (A : Around) (env : Env) (s' : Shared) (Q' : Value → Shared → Prop), env.code = fd.code → Keep s.heap s'.heap → (∀ code s'', KB (fun b => b ≠ P) s'.heap s''.heap → s'.heap.objs.size ≤ s''.heap.objs.size → Keep W.hB s''.heap → s''.gens = s'.gens → s''.os = s'.os → CodeIn c P gpos s''.heap → Q' code s'') → wpAny W.M A (genexprCode env gpos (env.qual ++ "<genexpr>") scope) Q' NoE s' := by
  intro A env s' Q' he k hq
  obtain ⟨tab, hok, ht, hnf⟩ := hn
  refine wpAny_genexprCodeX (he.trans hc) (hok.keeps k) (ht.keeps k) hnf fun c' h' tk ext hc1 hc2 hok' hrec htab hP' => ?_
  refine hq _ _ (fun b o hb e => ext b o hb e) (by show s'.heap.objs.size ≤ h'.objs.size; lia) (fun b o e => ext b o (fun hb => ?_) (k _ _ (base _ _ e))) rfl rfl ⟨_, hok', htab, ?_⟩
  · rw [hb, hP] at e; cases e
  · obtain ⟨o, vs, file, tf, flags, tg, inF, text, tt, op, ho, hd, h11, h2, h7, h9, h10, hop, hpd, htr, hne⟩ := hok
    have hl : (tab ++ #[rawInt gpos.line, rawInt gpos.col, Value.ref c']).toList = tab.toList ++ [rawInt gpos.line, rawInt gpos.col, .ref c'] := by simp
    rw [hl, codeAmong_snoc _ htr hnf]
    rfl

theorem code_hit' {W : Wd} {fd : FuncData} {s : Shared} {c P : Addr} {gpos : Pos} {scope : Scope} (base : Keep W.hB s.heap) (hc : fd.code = .ref c) (hi : CodeIn c P gpos s.heap) :
    ∀ (A : Around) (env : Env) (s' : Shared) (Q' : Value → Shared → Prop), env.code = fd.code → Keep s.heap s'.heap → (∀ code s'', KB (fun _ => True) s'.heap s''.heap → s'.heap.objs.size ≤ s''.heap.objs.size → Keep W.hB s''.heap → s''.gens = s'.gens → s''.os = s'.os → True → Q' code s'') → wpAny W.M A (genexprCode env gpos (env.qual ++ "<genexpr>") scope) Q' NoE s' := by
  obtain ⟨tab, hok, _, hf⟩ := hi
  obtain ⟨cv, hf⟩ := Option.isSome_iff_exists.mp hf
  intro A env s' Q' he k hq
  exact wpAny_genexprCode_hit (he.trans hc) (hok.keeps k) hf (hq cv s' (fun _ _ _ e => e) (Nat.le_refl _) (base.trans k) rfl rfl trivial)
end Nw

namespace Nw
set_option tactic.hygienic false

noncomputable abbrev pairsPV (fs : List (Str × Str)) : List PV := fs.map fun p => PV.tup [.str p.1, .str p.2]
noncomputable def asPairs : List PV → Option (List (Str × Str))
  | [] => some []
  | .tup [.str a, .str b] :: r => (asPairs r).map ((a, b) :: ·)
  | _ => none
theorem asPairs_spec : ∀ {items : List PV} {fs : List (Str × Str)}, asPairs items = some fs → items = pairsPV fs
  | [], fs, h => by cases h; rfl
  | it :: r, fs, h => by
    cases it <;> first | (cases h; done) | skip
    rcases xs with _ | ⟨a, _ | ⟨b, _ | ⟨c, l⟩⟩⟩
    · cases h
    · cases a <;> cases h
    · cases a <;> first | (cases h; done) | skip
      cases b <;> first | (cases h; done) | skip
      obtain ⟨gs, h1, rfl⟩ := Option.map_eq_some_iff.mp h
      rw [asPairs_spec h1]; rfl
    · cases a <;> first | (cases h; done) | skip
      cases b <;> cases h
theorem asPairs_map : ∀ fs : List (Str × Str), asPairs (pairsPV fs) = some fs
  | [] => rfl
  | p :: r => by
    show (asPairs (pairsPV r)).map ((p.1, p.2) :: ·) = _
    rw [asPairs_map r]; rfl

/-- what the generator's code asks of the state -/
noncomputable def HCode (W : Wd) (s : Shared) (code : Value) (gpos : Pos) (scope : Scope) (pk : Addr → Prop) (Mk : Heap → Prop) : Prop :=
  ∀ (A : Around) (env : Env) (s' : Shared) (Q' : Value → Shared → Prop), env.code = code → Keep s.heap s'.heap → (∀ code s'', KB pk s'.heap s''.heap → s'.heap.objs.size ≤ s''.heap.objs.size → Keep W.hB s''.heap → s''.gens = s'.gens → s''.os = s'.os → Mk s''.heap → Q' code s'') → wpAny W.M A (genexprCode env gpos (env.qual ++ "<genexpr>") scope) Q' NoE s'

noncomputable def After (W : Wd) (pk : Addr → Prop) (Mk : Heap → Prop) (s s' : Shared) : Prop :=
  KB pk s.heap s'.heap ∧ Keep W.hB s'.heap ∧ (∃ hm, Mk hm ∧ ∀ b o, (∃ ob, s.heap.get? b = some ob) → hm.get? b = some o → s'.heap.get? b = some o) ∧ (AllBare s.gens → AllBare s'.gens) ∧ s'.os = s.os

noncomputable def smallB (fs : List (Str × Str)) : Bool := decide (fs.length ≤ 1000) && fs.all fun p => decide (p.1.length ≤ 100000) && decide (p.2.length ≤ 100000)
noncomputable def sumLen (fs : List (Str × Str)) : Int := (fs.map fun p => ((p.1.length + p.2.length : Nat) : Int)).sum
noncomputable def textOf (fs : List (Str × Str)) : Str := Txt.join "" (fs.map fun p => Txt.join "" [p.1, p.2])

noncomputable def LenC (W : Wd) (f : Addr) (code : Value) (gpos : Pos) (scope : Scope) : Prop := ∀ {A : Around} {F : FM} {s : Shared} {env0 : Env} {a : Addr} {hd : Int} {fs : List (Str × Str)} {Mk : Heap → Prop} {pk : Addr → Prop}, Amb A 2 → Sits F s.heap → Keep W.hB s.heap → SlotOK W F s.heap env0 (.acc hd (pairsPV fs)) (.ref a) →
  (∀ b o, F b = some o → pk b) → pk a → (∀ b, s.heap.get? b = none → pk b) → HCode W s code gpos scope pk Mk → (∀ p ∈ fs, p.1.length ≤ sizeLine ∧ p.2.length ≤ sizeLine) → InLong hd → (∀ j, j < fs.length → InLong (pairLen fs j) ∧ InLong (hd + preSum (pairLen fs) (j + 1))) →
  wpAny W.M A (call (.ref f) [.ref a]) (fun v s' => (∃ t, v = .int (hd + preSum (pairLen fs) fs.length) t) ∧ After W pk Mk s s') NoE s
noncomputable def StrC (W : Wd) (f : Addr) (code : Value) (gpos : Pos) (scope : Scope) : Prop := ∀ {A : Around} {F : FM} {s : Shared} {env0 : Env} {a : Addr} {hd : Int} {fs : List (Str × Str)} {Mk : Heap → Prop} {pk : Addr → Prop}, Amb A 2 → Sits F s.heap → Keep W.hB s.heap → SlotOK W F s.heap env0 (.acc hd (pairsPV fs)) (.ref a) →
  (∀ b o, F b = some o → pk b) → pk a → (∀ b, s.heap.get? b = none → pk b) → HCode W s code gpos scope pk Mk → (∀ p ∈ fs, p.1.length + p.2.length ≤ sizeLine) → fs.length ≤ sizeLine → JoinOk "" ((List.range fs.length).map (pairText fs)) = true →
  wpAny W.M A (call (.ref f) [.ref a]) (fun v s' => (∃ t, v = .str (Txt.join "" ((List.range fs.length).map (pairText fs))) t) ∧ After W pk Mk s s') NoE s

/-- a method whose generator's code has its place -/
structure GenAt (W : Wd) (K : Frag) (m : Str) (f c P : Addr) : Prop where
  find : findIn K (.ref W.ac) m = some (some (.ref f))
  typ : typeIn K (.ref f) = some (.type "function")
  func : ∃ o fd, W.hB.get? f = some o ∧ o.data = .func fd

theorem preSum_le {fs : List (Str × Str)} (h : smallB fs = true) : ∀ k, k ≤ fs.length → 0 ≤ preSum (pairLen fs) k ∧ preSum (pairLen fs) k ≤ 200000 * k
  | 0, _ => by simp [preSum]
  | k + 1, hk => by
    obtain ⟨h1, h2⟩ := preSum_le h k (by lia)
    unfold smallB at h
    simp only [Bool.and_eq_true, decide_eq_true_eq, List.all_eq_true] at h
    have hk' : k < fs.length := by lia
    have hp := h.2 fs[k] (List.getElem_mem _)
    have : pairLen fs k = fs[k].1.length + fs[k].2.length := by
      unfold pairLen; rw [List.getElem?_eq_getElem hk']
    rw [preSum, this]
    lia
theorem pairLen_le {fs : List (Str × Str)} (h : smallB fs = true) (k : Nat) (hk : k < fs.length) : 0 ≤ pairLen fs k ∧ pairLen fs k ≤ 200000 := by
  unfold smallB at h
  simp only [Bool.and_eq_true, decide_eq_true_eq, List.all_eq_true] at h
  have hp := h.2 fs[k] (List.getElem_mem _)
  have : pairLen fs k = fs[k].1.length + fs[k].2.length := by
    unfold pairLen; rw [List.getElem?_eq_getElem hk]
  rw [this]
  lia
theorem preSum_all (fs : List (Str × Str)) : preSum (pairLen fs) fs.length = sumLen fs := by
  rw [preSum_pairLen fs fs.length (Nat.le_refl _), List.take_length]; rfl
theorem pairText_all (fs : List (Str × Str)) : (List.range fs.length).map (pairText fs) = fs.map fun p => Txt.join "" [p.1, p.2] := by
  apply List.ext_getElem
  · simp
  · intro i h1 h2
    simp only [List.getElem_map, List.getElem_range]
    unfold pairText
    rw [List.getElem?_eq_getElem (by simpa using h2)]

noncomputable def headOk (hd : Int) : Bool := decide (0 ≤ hd) && decide (hd ≤ 2 ^ 40)

theorem small_fit {hd : Int} {fs : List (Str × Str)} (h : smallB fs = true) (hh : headOk hd = true) : (∀ p ∈ fs, p.1.length ≤ sizeLine ∧ p.2.length ≤ sizeLine) ∧ InLong hd ∧ (∀ j, j < fs.length → InLong (pairLen fs j) ∧ InLong (hd + preSum (pairLen fs) (j + 1))) ∧ 0 ≤ hd + preSum (pairLen fs) fs.length ∧ hd + preSum (pairLen fs) fs.length < 2 ^ 63 := by
  unfold headOk at hh
  simp only [Bool.and_eq_true, decide_eq_true_eq] at hh
  have h' := h
  unfold smallB at h'
  simp only [Bool.and_eq_true, decide_eq_true_eq, List.all_eq_true] at h'
  have hl := h'.1
  refine ⟨fun p hp => ?_, ?_, fun j hj => ?_, ?_, ?_⟩
  · have := h'.2 p hp
    rw [sizeLine_eq]
    lia
  · unfold InLong; lia
  · have a := pairLen_le h j hj
    have b := preSum_le h (j + 1) (by lia)
    unfold InLong
    lia
  · have b := preSum_le h fs.length (Nat.le_refl _)
    lia
  · have b := preSum_le h fs.length (Nat.le_refl _)
    lia
end Nw

namespace Nw
set_option tactic.hygienic false

theorem Amb.in1 {A : Around} {k : Nat} (x : Amb A (k + 1)) : Amb A.in1 k := ⟨x.handled, by have := x.depth; show A.depth + 4 * k < _; lia, by have := x.units; show A.units + 1 + 200 + 40 * k < _; lia, x.guards⟩

section
variable {W : Wd} {K : Frag} {A : Around} {F : FM} {s : Shared} {env0 : Env} {a f c P : Addr} {hd : Int} {fs : List (Str × Str)} {code : Value} {gpos : Pos} {scope : Scope} {Mk : Heap → Prop} {pk : Addr → Prop}

theorem After.tok {s' : Shared} {tk : Nat} (h : After W pk Mk s s') : After W pk Mk s { s' with toks := tk } := h

theorem len_pile (AK : AccK W K) (G : GenAt W K "__len__" f c P) (C : LenC W f code gpos scope) (hA : Amb A 3) (st : Sits F s.heap) (base : Keep W.hB s.heap) (hsl : SlotOK W F s.heap env0 (.acc hd (pairsPV fs)) (.ref a))
    (hpF : ∀ b o, F b = some o → pk b) (hpa : pk a) (hnew : ∀ b, s.heap.get? b = none → pk b) (hc : HCode W s code gpos scope pk Mk) (hs : smallB fs = true) (hh : headOk hd = true) :
    wpAny W.M A (call (.builtin "len") [.ref a]) (fun v s' => (∃ t, v = .int (hd + sumLen fs) t) ∧ After W pk Mk s s') NoE s := by
  obtain ⟨f1, f2, f3, f4, f5⟩ := small_fit hs hh
  have I : ∃ ox od, InstAt s.heap a ox W.ac od := by
    obtain ⟨a', dx, vs, n, h1, kk, t, m, ea, e1, e2, rl, off⟩ := hsl
    cases ea
    exact ⟨_, _, acc_inst st e1 e2⟩
  obtain ⟨ox, od, I⟩ := I
  refine len_call (fun b o e => base _ _ (AK.x b o e)) I G.find G.typ ?_
  refine wpAny_mono (C hA.in1 st base hsl hpF hpa hnew hc f1 f2 f3) ?_ fun _ _ z => z
  rintro v s' ⟨⟨t, rfl⟩, af⟩
  exact ⟨_, t, rfl, f4, f5, ⟨_, by rw [preSum_all]⟩, af.tok⟩

theorem str_pile (AK : AccK W K) (G : GenAt W K "__str__" f c P) (C : StrC W f code gpos scope) (hA : Amb A 4) (st : Sits F s.heap) (base : Keep W.hB s.heap) (hsl : SlotOK W F s.heap env0 (.acc hd (pairsPV fs)) (.ref a))
    (hpF : ∀ b o, F b = some o → pk b) (hpa : pk a) (hnew : ∀ b, s.heap.get? b = none → pk b) (hc : HCode W s code gpos scope pk Mk) (hs : smallB fs = true) (hj : JoinOk "" (fs.map fun p => Txt.join "" [p.1, p.2]) = true) :
    wpAny W.M A (call (.type "str") [.ref a]) (fun v s' => (∃ t, v = .str (textOf fs) t) ∧ After W pk Mk s s') NoE s := by
  have I : ∃ ox od, InstAt s.heap a ox W.ac od := by
    obtain ⟨a', dx, vs, n, h1, kk, t, m, ea, e1, e2, rl, off⟩ := hsl
    cases ea
    exact ⟨_, _, acc_inst st e1 e2⟩
  obtain ⟨ox, od, I⟩ := I
  have h' := hs
  unfold smallB at h'
  simp only [Bool.and_eq_true, decide_eq_true_eq, List.all_eq_true] at h'
  refine kso_call (by have := hA.in1.in1.units; lia) (fun b o e => base _ _ (AK.x b o e)) I G.find (by rw [isFn, G.typ]; rfl) ?_
  refine wpAny_mono (C hA.in1.in1 st base hsl hpF hpa hnew hc (fun p hp => ?_) ?_ (by rw [pairText_all]; exact hj)) ?_ fun _ _ z => z
  · have := h'.2 p hp
    rw [sizeLine_eq]
    lia
  · rw [sizeLine_eq]; lia
  · rintro v s' ⟨⟨t, rfl⟩, af⟩
    rw [pairText_all]
    exact ⟨⟨t, rfl⟩, af⟩

theorem truthy_pile (AK : AccK W K) (hnb : findIn K (.ref W.ac) "__bool__" = some none) (G : GenAt W K "__len__" f c P) (C : LenC W f code gpos scope) (hA : Amb A 3) (st : Sits F s.heap) (base : Keep W.hB s.heap) (hsl : SlotOK W F s.heap env0 (.acc hd (pairsPV fs)) (.ref a))
    (hpF : ∀ b o, F b = some o → pk b) (hpa : pk a) (hnew : ∀ b, s.heap.get? b = none → pk b) (hc : HCode W s code gpos scope pk Mk) (hs : smallB fs = true) (hh : headOk hd = true) :
    wpAny W.M A (truthy (.ref a)) (fun v s' => v = (hd + sumLen fs != 0) ∧ After W pk Mk s s') NoE s := by
  obtain ⟨f1, f2, f3, f4, f5⟩ := small_fit hs hh
  have X : K.In s.heap := fun b o e => base _ _ (AK.x b o e)
  have I : ∃ ox od, InstAt s.heap a ox W.ac od := by
    obtain ⟨a', dx, vs, n, h1, kk, t, m, ea, e1, e2, rl, off⟩ := hsl
    cases ea
    exact ⟨_, _, acc_inst st e1 e2⟩
  obtain ⟨ox, od, I⟩ := I
  have key : wpAny W.M A (runValue (.builtin "len" ⟨[.ref a], []⟩)) (fun r s' => (∃ t, r = .int (hd + sumLen fs) t) ∧ After W pk Mk s s') NoE s := by
    refine wpAny_runValue (codeAny_builtin entry_len ?_)
    rw [Around.under_plainId plain_len _]
    unfold Builtin.«len»
    refine wpAny_bind (m := oneArg "len" _) (wpAny_pure ?_)
    refine wpAny_bind (m := callSpecial? (.ref a) (Str.ofString "__len__")) (special_fn X I G.find G.typ (wpAny_mono (C hA.in1 st base hsl hpF hpa hnew hc f1 f2 f3) (fun r s' hr => ?_) fun _ _ y => y))
    obtain ⟨⟨t, rfl⟩, af⟩ := hr
    refine wpAny_bind (wpAny_holding (wpAny_pure ?_))
    refine wpAny_bind (wpAny_letGo ?_)
    show wpAny _ _ (if _ < 0 then _ else _) _ _ _
    rw [if_neg (by lia)]
    show wpAny _ _ (if _ ≥ 2 ^ 63 then _ else _) _ _ _
    rw [if_neg (by lia)]
    exact wpAny_bind (wpAny_mkInt (wpAny_pure ⟨⟨_, by rw [preSum_all]⟩, af.tok⟩))
  unfold truthy
  refine wpAny_bind (m := callSpecial? (.ref a) (Str.ofString "__bool__")) (wpAny_bind (wpAny_bind (I.type.here ((looks_findIn X hnb).here (wpAny_pure ?_)))))
  refine wpAny_bind (wpAny_bind (I.type.here ((looks_findIn X G.find).here ?_)))
  simp only [Option.isNone_some, Bool.false_eq_true, if_false]
  refine wpAny_bind (wpAny_mono key (fun r s' h' => ?_) fun _ _ e => e)
  obtain ⟨⟨t, rfl⟩, af⟩ := h'
  exact wpAny_pure ⟨rfl, af⟩
end
end Nw

namespace Nw

/-- the two generators' methods, their codes in the tables -/
structure PileG (W : Wd) (K : Frag) : Prop where
  nb : findIn K (.ref W.ac) "__bool__" = some none
  len : ∃ f c P gpos scope, GenAt W K "__len__" f c P ∧ LenC W f (.ref c) gpos scope ∧ CodeIn c P gpos W.hB
  str : ∃ f c P gpos scope, GenAt W K "__str__" f c P ∧ StrC W f (.ref c) gpos scope ∧ CodeIn c P gpos W.hB

noncomputable abbrev allk : Addr → Prop := fun _ => True
noncomputable abbrev allh : Heap → Prop := fun _ => True

section
variable {W : Wd} {K : Frag}
theorem grow_after {F : FM} {s s' : Shared} (st : Sits F s.heap) (h : After W allk allh s s') : Grow F s F s' := by
  obtain ⟨h1, _, _, h4, h5⟩ := h
  have k : Keep s.heap s'.heap := fun b o e => h1 b o trivial e
  exact ⟨.refl _, fun b o e => k _ _ (st b o e), k, fun _ _ e => .inl e, h5, h4⟩

theorem CodeIn.keeps {c P : Addr} {gpos : Pos} {h h' : Heap} (x : CodeIn c P gpos h) (k : Keep h h') : CodeIn c P gpos h' := by
  obtain ⟨tab, h1, h2, h3⟩ := x
  exact ⟨tab, h1.keeps k, h2.keeps k, h3⟩

theorem hcode_hit {s : Shared} {c P : Addr} {gpos : Pos} {scope : Scope} (base : Keep W.hB s.heap) (hi : CodeIn c P gpos W.hB) : HCode W s (.ref c) gpos scope allk allh := by
  intro A env s' Q' he k hq
  exact code_hit' (fd := { (default : FuncData) with code := .ref c }) base rfl (hi.keeps base) A env s' Q' he k hq

/-- the pile's len and text -/
noncomputable def scP (f : Str) (sl : Slot) : Option PV :=
  match sl with
  | .acc hd items => (asPairs items).bind fun fs =>
      if f = "len" then (if smallB fs && headOk hd then some (.int (hd + sumLen fs)) else none)
      else if f = "str" then (if smallB fs && JoinOk "" (fs.map fun p => Txt.join "" [p.1, p.2]) then some (.str (textOf fs)) else none)
      else none
  | _ => none

theorem slot_env {F : FM} {h : Heap} {env : Env} {hd : Int} {items : List PV} {v : Value} (x : SlotOK W F h env (.acc hd items) v) : ∃ a, v = .ref a := by
  obtain ⟨a, _, _, _, _, _, _, _, e, _⟩ := x
  exact ⟨a, e⟩

theorem scP_sound (AK : AccK W K) (G : PileG W K) (gl : W.glob "len" (.builtin "len")) (gs : W.glob "str" (.type "str")) : ∀ f sl r, scP f sl = some r → SCallOK W 4 f sl r := by
  intro f sl r h
  unfold scP at h
  split at h
  · rename_i hd items
    obtain ⟨fs, hf, h2⟩ := Option.bind_eq_some_iff.mp h
    replace h := h2; clear h2
    have hi := asPairs_spec hf
    subst hi
    by_cases hl : f = "len"
    · subst hl
      rw [if_pos rfl] at h
      by_cases hc : (smallB fs && headOk hd) = true
      · rw [if_pos hc] at h
        cases h
        simp only [Bool.and_eq_true] at hc
        refine ⟨_, gl, callee_builtin _, fun A F s env v hA st base hsl => ?_⟩
        obtain ⟨a, rfl⟩ := slot_env hsl
        obtain ⟨f, c, P, gpos, scope, g1, g2, g3⟩ := G.len
        refine wpAny_mono (len_pile AK g1 g2 (hA.le (by decide)) st base hsl (fun _ _ _ => trivial) trivial (fun _ _ => trivial) (hcode_hit base g3) hc.1 hc.2) ?_ fun _ _ z => z
        rintro v s' ⟨⟨t, rfl⟩, af⟩
        exact ⟨F, grow_after st af, t, rfl⟩
      · rw [if_neg hc] at h; cases h
    · rw [if_neg hl] at h
      by_cases hl : f = "str"
      · subst hl
        rw [if_pos rfl] at h
        by_cases hc : (smallB fs && JoinOk "" (fs.map fun p => Txt.join "" [p.1, p.2])) = true
        · rw [if_pos hc] at h
          cases h
          simp only [Bool.and_eq_true] at hc
          refine ⟨_, gs, callee_type _, fun A F s env v hA st base hsl => ?_⟩
          obtain ⟨a, rfl⟩ := slot_env hsl
          obtain ⟨f, c, P, gpos, scope, g1, g2, g3⟩ := G.str
          refine wpAny_mono (str_pile AK g1 g2 hA st base hsl (fun _ _ _ => trivial) trivial (fun _ _ => trivial) (hcode_hit base g3) hc.1 hc.2) ?_ fun _ _ z => z
          rintro v s' ⟨⟨t, rfl⟩, af⟩
          exact ⟨F, grow_after st af, t, rfl⟩
        · rw [if_neg hc] at h; cases h
      · rw [if_neg hl] at h; cases h
  · cases h
end
end Nw

namespace Nw

noncomputable def owNames : Names := [("self", .local), ("str", .globalImplicit)]
noncomputable def onlyP (hd : Int) (fs : List (Str × Str)) : Bool := hd == 0 && (hd + sumLen fs == 0 || Txt.isspace (textOf fs))

theorem eval_or2 {W : Wd} {A : Around} {E : Value → Shared → Prop} {a b : Expr} {pos : Pos} {env : Env} {s : Shared} {Q : Value → Shared → Prop}
    (h : wpAny W.M A (eval a env) (fun v s1 => ∃ t, v = .bool t ∧ (if t then Q v s1 else wpAny W.M A (eval b env) Q E s1)) E s) : wpAny W.M A (eval (.BoolOp .Or [a, b] pos) env) Q E s := by
  rw [arm_eval_BoolOp]
  show wpAny W.M A (do
      let v ← eval a env
      standAt pos
      let t ← holding [v] (truthy v)
      match BoolOp.Or, t with
      | .And, false | .Or, true => pure v
      | _, _ => boolOp pos .Or (evalEach [b] env)) _ _ s
  refine wpAny_bind (wpAny_mono h ?_ fun _ _ z => z)
  rintro v s1 ⟨t, rfl, hq⟩
  refine wpAny_bind (wpAny_standAt (wpAny_bind (wpAny_holding (wpAny_truthy_bool ?_))))
  cases t
  · exact hq
  · exact wpAny_pure hq
theorem eval_and2 {W : Wd} {A : Around} {E : Value → Shared → Prop} {a b : Expr} {pos : Pos} {env : Env} {s : Shared} {Q : Value → Shared → Prop}
    (h : wpAny W.M A (eval a env) (fun v s1 => ∃ t, v = .bool t ∧ (if t then wpAny W.M A (eval b env) Q E s1 else Q v s1)) E s) : wpAny W.M A (eval (.BoolOp .And [a, b] pos) env) Q E s := by
  rw [arm_eval_BoolOp]
  show wpAny W.M A (do
      let v ← eval a env
      standAt pos
      let t ← holding [v] (truthy v)
      match BoolOp.And, t with
      | .And, false | .Or, true => pure v
      | _, _ => boolOp pos .And (evalEach [b] env)) _ _ s
  refine wpAny_bind (wpAny_mono h ?_ fun _ _ z => z)
  rintro v s1 ⟨t, rfl, hq⟩
  refine wpAny_bind (wpAny_standAt (wpAny_bind (wpAny_holding (wpAny_truthy_bool ?_))))
  cases t
  · exact wpAny_pure hq
  · exact hq

set_option maxHeartbeats 1000000 in
theorem only_sound {W : Wd} {K : Frag} (ok : WdOK W) (AK : AccK W K) (G : PileG W K) (gs : W.glob "str" (.type "str"))
    (hsize : ∀ h k t x n, findObj K W.ac (some (sizeDict h k t x n)) "_initial_size" = some (.value (.int x t)))
    {f : Addr} {o : Obj} {fd : FuncData} {p1 p2 p3 p4 p5 q1 q2 r1 r2 r3 r4 r5 r6 r7 : Pos} {k0 : Nat}
    (M : MethAt W f o fd ["self"] [Stmt.Return (some (.BoolOp .And [.Compare (.Attribute (.Name "self" p1) "_initial_size" p2) [.Eq] [.Constant (.int 0) k0 p3] p4,
      .BoolOp .Or [.UnaryOp .Not (.Name "self" q1) q2, .Call (.Attribute (.Call (.Name "str" r1) [.Name "self" r2] [] r3) "isspace" r4) [] [] r5] r6] p5)) r7] owNames)
    (hl : (r4.endLine == r5.line) = true)
    (hbind : ∀ a : Value, bindArgs fd ⟨[a], []⟩ = pure ([("self", a)] : List (Str × Value)))
    {A : Around} {F : FM} {s : Shared} {env0 : Env} {a : Addr} {hd : Int} {fs : List (Str × Str)} (hA : Amb A 5) (st : Sits F s.heap) (base : Keep W.hB s.heap) (hsl : SlotOK W F s.heap env0 (.acc hd (pairsPV fs)) (.ref a))
    (hs : smallB fs = true) (hh : headOk hd = true) (hj : JoinOk "" (fs.map fun p => Txt.join "" [p.1, p.2]) = true) :
    Ev W.qc W.M A F s (call (.ref f) [.ref a]) (.bool (onlyP hd fs)) := by
  have hdep := hA.depth
  refine wpAny_call (meth_frame ok M base (by lia) (binds := [("self", .ref a)]) (.of_eq (hbind _)) (by decide) (by intro x hx; simp only [List.mem_cons, List.not_mem_nil, or_false] at hx; subst hx; rfl) fun env h₀ tk fr ns keep => ?_)
  have hA' : Amb (A.deeper env) 4 := ⟨hA.handled, by rw [depth_deeper]; lia, by have := hA.units; rw [Around.deeper_units]; lia, hA.guards⟩
  have st1 : Sits F h₀ := fun b ob e => keep _ _ (st b ob e)
  have base1 : Keep W.hB h₀ := base.trans keep
  have hsl0 := hsl
  obtain ⟨a', dx, vs, n, h1, kk, t, m, ea, e1, e2, rl, off⟩ := hsl
  cases ea
  have hneF : F a = none := off.1
  have hsl1 : ∀ h', Keep h₀ h' → SlotOK W F h' env0 (.acc hd (pairsPV fs)) (.ref a) := fun h' k => ⟨a, dx, vs, n, h1, kk, t, m, rfl, k _ _ (keep _ _ e1), e2, rl, off⟩
  refine ks_wpAt_execs_cons (ks_wpAt_Return_some (wpAt_of_wpAny ?_))
  have fin : ∀ s' r, Grow F { s with heap := h₀, toks := tk } F s' → Rep W.qc F (.bool (onlyP hd fs)) r → EvP W.qc F s (.bool (onlyP hd fs)) r s' := fun s' r g rr =>
    ⟨F, (Grow.heap (tk := tk) st keep).trans g, rr⟩
  refine eval_and2 ?_
  refine wpAny_Compare1 ?_ rfl
  refine Attribute_name (frame_name fr (by decide) ns (v := .ref a) (by rfl) (by decide) (get_valueL (K := K) (fun b ob e => base1 _ _ (AK.x b ob e)) ⟨keep _ _ e1, rfl, rfl, st1 _ _ e2⟩ AK.ga AK.gat (acc_in AK base1 (keep _ _ e1)) (hsize _ _ _ _ _) rfl ?_))
  refine wpAny_Constant_int ?_
  refine P.eq_int ?_
  refine ⟨_, rfl, ?_⟩
  have gt : ∀ tk', Grow F { s with heap := h₀, toks := tk } F { s with heap := h₀, toks := tk' } := fun tk' => Grow.heap (s := { s with heap := h₀, toks := tk }) st1 (.refl _)
  by_cases hz : hd = 0
  · rw [if_pos (by rw [hz]; rfl)]
    refine eval_or2 ?_
    refine wpAny_UnaryOp ?_
    refine frame_name fr (by decide) ns (v := .ref a) (by rfl) (by decide) ?_
    obtain ⟨f1, c1, P1, gp1, sc1, g1, g2, g3⟩ := G.len
    unfold unaryOp
    refine wpAny_holding ?_
    refine wpAny_bind (wpAny_mono (truthy_pile (env0 := env0) AK G.nb g1 g2 (hA'.le (by decide)) st1 base1 (hsl1 _ (.refl _)) (fun _ _ _ => trivial) trivial (fun _ _ => trivial) (hcode_hit base1 g3) hs hh) ?_ fun _ _ z => z)
    rintro b s2 ⟨rfl, af⟩
    have gr := (gt _).trans (grow_after (F := F) st1 af)
    refine wpAny_pure ⟨_, rfl, ?_⟩
    by_cases hq : hd + sumLen fs = 0
    · have e : (hd + sumLen fs != 0) = false := by rw [hq]; rfl
      rw [e]
      refine fin _ _ gr ?_
      show _ = _
      unfold onlyP
      rw [hz] at hq ⊢
      rw [hq]; rfl
    · have e : (hd + sumLen fs != 0) = true := by simpa using hq
      rw [e]
      simp only [Bool.not_true, Bool.false_eq_true, if_false]
      refine meth_call hl (show 0 < 30 by decide) rfl rfl ?_
      have ns2 := ns.keeps gr.keep
      have base2 := base1.trans gr.keep
      refine wpAny_Call_Name_kw (frame_glob ok fr base2 (by decide) (by decide) gs ?_)
      refine callWith_of (trees := backTo r3 (starEach [.Name "self" r2] env)) rfl (callee_type _) ?_
      refine wpAny_items_cons (frame_name fr (by decide) ns2 (v := .ref a) (by rfl) (by decide) ?_) rfl
      refine wpAny_items_nil ⟨base2, ?_⟩
      obtain ⟨f2, c2, P2, gp2, sc2, k1, k2, k3⟩ := G.str
      refine wpAny_mono (str_pile (env0 := env0) AK k1 k2 hA' gr.sits base2 (hsl1 _ gr.keep) (fun _ _ _ => trivial) trivial (fun _ _ => trivial) (hcode_hit base2 k3) hs hj) ?_ fun _ _ z => z
      rintro v s3 ⟨⟨tv, rfl⟩, af2⟩
      have gr2 := gr.trans (grow_after (F := F) gr.sits af2)
      refine getMethod_builtin (typeIs_str _ _ _) PySem.F.plainAttrs_str PySem.F.slot_str_isspace PySem.F.type_str_isspace (fun a e => nomatch e) ?_
      refine callWith_of (trees := backTo r5 (starEach [] env)) rfl (callee_builtin _) (wpAny_items_nil ⟨base1.trans gr2.keep, ?_⟩)
      refine SC.isspace (fin _ _ gr2 ?_)
      show _ = _
      unfold onlyP
      rw [hz] at hq ⊢
      rw [Int.zero_add] at hq
      simp [hq]
  · have e : (hd == 0) = false := by simpa using hz
    rw [if_neg (by rw [e]; decide)]
    refine fin _ _ (gt _) ?_
    show _ = _
    unfold onlyP
    rw [e]; rfl

noncomputable def OnlyC (W : Wd) (f : Addr) : Prop := ∀ {A : Around} {F : FM} {s : Shared} {env0 : Env} {a : Addr} {hd : Int} {fs : List (Str × Str)}, Amb A 5 → Sits F s.heap → Keep W.hB s.heap → SlotOK W F s.heap env0 (.acc hd (pairsPV fs)) (.ref a) →
  smallB fs = true → headOk hd = true → JoinOk "" (fs.map fun p => Txt.join "" [p.1, p.2]) = true → Ev W.qc W.M A F s (call (.ref f) [.ref a]) (.bool (onlyP hd fs))

/-- the asking methods with is_onlyws -/
noncomputable def smQ (m : Str) (sl : Slot) (ps : List PV) : Option PV :=
  match smP m sl ps with
  | some r => some r
  | none => match sl, ps with
    | .acc hd items, [] => if m = "is_onlyws" then (asPairs items).bind fun fs => if smallB fs && headOk hd && JoinOk "" (fs.map fun p => Txt.join "" [p.1, p.2]) then some (.bool (onlyP hd fs)) else none else none
    | _, _ => none

theorem smQ_sound {W : Wd} {K : Frag} (P : PileOK W K) {f : Addr} (M : PileM W K "is_onlyws" f) (C : OnlyC W f) : ∀ m sl ps r, smQ m sl ps = some r → SMethOK W 5 m sl ps r := by
  intro m sl ps r h
  unfold smQ at h
  split at h
  · rename_i q hq
    cases h
    obtain ⟨fv, h1, h2, h3⟩ := smP_sound P m sl ps r hq
    exact ⟨fv, h1, h2, fun A F s env v vs hA => h3 A F s env v vs (hA.le (by decide))⟩
  · split at h
    · rename_i hd items _
      by_cases hm : m = "is_onlyws"
      · subst hm
        rw [if_pos rfl] at h
        obtain ⟨fs, hf, h2⟩ := Option.bind_eq_some_iff.mp h
        have hi := asPairs_spec hf
        subst hi
        by_cases hc : (smallB fs && headOk hd && JoinOk "" (fs.map fun p => Txt.join "" [p.1, p.2])) = true
        · rw [if_pos hc] at h2
          cases h2
          simp only [Bool.and_eq_true] at hc
          obtain ⟨o, fd, ho, hfd⟩ := M.func
          refine ⟨.ref f, callee_func ho hfd, fun A F s env v pl Q E st base hsl hq => pile_get P.k M st base hsl hq, fun A F s env v vs hA st base hsl rl => ?_⟩
          cases rl
          obtain ⟨a, rfl⟩ := slot_env hsl
          exact C hA st base hsl hc.1.1 hc.1.2 hc.2
        · rw [if_neg hc] at h2; cases h2
      · rw [if_neg hm] at h; cases h
    · cases h
end Nw

namespace Nw
noncomputable def fnBody (p : Program) (i : Nat) : List Stmt := match p.main.body[i]? with
  | some (.FunctionDef _ _ body _ _ _ _ _ _ _) => body
  | _ => []
noncomputable def fnNames (p : Program) (i : Nat) : Names := match p.main.body[i]? with
  | some (.FunctionDef _ _ _ _ _ _ scope _ _ _) => scope.names
  | _ => []
noncomputable abbrev P1 := PySem.Challenge.pw_xi0009_01
theorem fnBody_of {p : Program} {i : Nat} {n a b c d e s f g h} (_ : p.main.body[i]? = some (.FunctionDef n a b c d e s f g h)) : fnBody p i = b := by
  unfold fnBody; rw [‹p.main.body[i]? = _›]
noncomputable def b3 : { l : List Stmt // fnBody P1 3 = l } := ⟨_, fnBody_of rfl⟩
noncomputable def n3 : { l : Names // fnNames P1 3 = l } := by
  refine ⟨?l, ?h⟩
  rotate_left
  · unfold fnNames P1 PySem.Challenge.pw_xi0009_01
    simp only [List.getElem?_cons_succ, List.getElem?_cons_zero]
    exact rfl
noncomputable def b4 : { l : List Stmt // fnBody P1 4 = l } := ⟨_, fnBody_of rfl⟩
noncomputable def n4 : { l : Names // fnNames P1 4 = l } := by
  refine ⟨?l, ?h⟩
  rotate_left
  · unfold fnNames P1 PySem.Challenge.pw_xi0009_01
    simp only [List.getElem?_cons_succ, List.getElem?_cons_zero]
    exact rfl
noncomputable def b11 : { l : List Stmt // fnBody P1 11 = l } := ⟨_, fnBody_of rfl⟩
noncomputable def n11 : { l : Names // fnNames P1 11 = l } := by
  refine ⟨?l, ?h⟩
  rotate_left
  · unfold fnNames P1 PySem.Challenge.pw_xi0009_01
    simp only [List.getElem?_cons_succ, List.getElem?_cons_zero]
    exact rfl
noncomputable def b12 : { l : List Stmt // fnBody P1 12 = l } := ⟨_, fnBody_of rfl⟩
noncomputable def n12 : { l : Names // fnNames P1 12 = l } := by
  refine ⟨?l, ?h⟩
  rotate_left
  · unfold fnNames P1 PySem.Challenge.pw_xi0009_01
    simp only [List.getElem?_cons_succ, List.getElem?_cons_zero]
    exact rfl
noncomputable def b13 : { l : List Stmt // fnBody P1 13 = l } := ⟨_, fnBody_of rfl⟩
noncomputable def n13 : { l : Names // fnNames P1 13 = l } := by
  refine ⟨?l, ?h⟩
  rotate_left
  · unfold fnNames P1 PySem.Challenge.pw_xi0009_01
    simp only [List.getElem?_cons_succ, List.getElem?_cons_zero]
    exact rfl
noncomputable def b14 : { l : List Stmt // fnBody P1 14 = l } := ⟨_, fnBody_of rfl⟩
noncomputable def n14 : { l : Names // fnNames P1 14 = l } := by
  refine ⟨?l, ?h⟩
  rotate_left
  · unfold fnNames P1 PySem.Challenge.pw_xi0009_01
    simp only [List.getElem?_cons_succ, List.getElem?_cons_zero]
    exact rfl
noncomputable def b15 : { l : List Stmt // fnBody P1 15 = l } := ⟨_, fnBody_of rfl⟩
noncomputable def n15 : { l : Names // fnNames P1 15 = l } := by
  refine ⟨?l, ?h⟩
  rotate_left
  · unfold fnNames P1 PySem.Challenge.pw_xi0009_01
    simp only [List.getElem?_cons_succ, List.getElem?_cons_zero]
    exact rfl
noncomputable def b16 : { l : List Stmt // fnBody P1 16 = l } := ⟨_, fnBody_of rfl⟩
noncomputable def n16 : { l : Names // fnNames P1 16 = l } := by
  refine ⟨?l, ?h⟩
  rotate_left
  · unfold fnNames P1 PySem.Challenge.pw_xi0009_01
    simp only [List.getElem?_cons_succ, List.getElem?_cons_zero]
    exact rfl
noncomputable def b17 : { l : List Stmt // fnBody P1 17 = l } := ⟨_, fnBody_of rfl⟩
noncomputable def n17 : { l : Names // fnNames P1 17 = l } := by
  refine ⟨?l, ?h⟩
  rotate_left
  · unfold fnNames P1 PySem.Challenge.pw_xi0009_01
    simp only [List.getElem?_cons_succ, List.getElem?_cons_zero]
    exact rfl
end Nw

namespace Nw
set_option tactic.hygienic false

/-- a function's contract -/
noncomputable abbrev Rel := List PV → PV → Prop
noncomputable abbrev ofF (g : List PV → Option PV) : Rel := fun ps r => g ps = some r
noncomputable def FnOK (W : Wd) (k : Nat) (f : Str) (g : Rel) : Prop := ∀ ps r, g ps r → CallOK W k f ps r
theorem FnOK.mono {W : Wd} {k j : Nat} {f : Str} {g : Rel} (h : k ≤ j) (x : FnOK W k f g) : FnOK W j f g := fun ps r e =>
  let ⟨fv, h1, h2, h3⟩ := x ps r e; ⟨fv, h1, h2, fun A F s vs hA => h3 A F s vs (hA.le h)⟩
theorem FnOK.prim {W : Wd} {k : Nat} {f : Str} {g : List PV → Option PV} {fv : Value} (p : PrimOK W g fv) (hg : W.glob f fv) (hc : Callee W fv) : FnOK W k f (ofF g) := fun ps r e =>
  ⟨fv, hg, hc, fun A F s vs hA st base rs => p ps r e A F s vs (hA.le (Nat.zero_le _)) st base rs⟩

theorem lookup_bind {α β : Type} {T : List (Str × (α → Option β))} {f : Str} {a : α} {r : β} (h : (T.lookup f).bind (· a) = some r) : ∃ g, (f, g) ∈ T ∧ g a = some r := by
  obtain ⟨g, h1, h2⟩ := Option.bind_eq_some_iff.mp h
  exact ⟨g, mem_of_lookup h1, h2⟩

structure Orc where
  consts : List (Str × PV)
  fns : List (Str × Rel)
  sc : Str → Slot → Option PV
  sm : Str → Slot → List PV → Option PV
  nw : Str → List PV → Option Int
  ic : List (Str × (List PV → Option (List PV)))
  ic2 : Str → Str → List PV → Option (List PV)
  fz : Nat → List Str

noncomputable def methTab (m : Str) (p : PV) (ps : List PV) : Option PV :=
  if m = "join" then joinPV p ps else if m = "count" then countPV p ps else if m = "isspace" then isspacePV p ps else if m = "zfill" then zfillPV p ps else if m = "bit_length" then bitlenPV p ps else none

noncomputable def Orc.cfg (O : Orc) : CfgS where
  base := { const := fun x => O.consts.lookup x, call := fun f ps r => match O.fns.lookup f with | some g => g ps r | none => False, scall := O.sc, meth := methTab, smeth := O.sm, cmpq := cmpQ }
  make := O.nw
  mm := mmP
  itc := fun f ps => (O.ic.lookup f).bind (· ps)
  itc2 := O.ic2
  fz := O.fz

structure OrcOK (W : Wd) (O : Orc) (k : Nat) : Prop where
  consts : ∀ x p, (x, p) ∈ O.consts → ∃ v, W.glob x v ∧ ∀ F, Rep W.qc F p v
  fns : ∀ f g, (f, g) ∈ O.fns → FnOK W k f g
  sc : ∀ f sl r, O.sc f sl = some r → SCallOK W k f sl r
  sm : ∀ m sl ps r, O.sm m sl ps = some r → SMethOK W k m sl ps r
  nw : ∀ f ps hd, O.nw f ps = some hd → MakeOK W k f ps hd
  mm : ∀ m hd items ps r items', mmP m hd items ps = some (r, items') → MMOK W k m hd items ps r items'
  ic : ∀ f g, (f, g) ∈ O.ic → ∀ ps items, g ps = some items → ItcOK W k f ps items
  ic2 : ∀ f g ps items, O.ic2 f g ps = some items → Itc2OK W k f g ps items
  cq : ∀ op a b r, cmpQ op a b = some r → CmpqOK W k op a b r

theorem methOK_use {W : Wd} {k : Nat} {m : Str} {g : PV → List PV → Option PV} {T id : String} (x : MethOK W m g T id) {p : PV} {ps : List PV} {r : PV} (h : g p ps = some r) :
    ∃ T id, PlainAttrs T ∧ PySem.Slot T m id ∧ typeOf (.builtin id) = pure (.type "method_descriptor") ∧
    (∀ (F : FM) (s : Shared) (v : Value), Sits F s.heap → Rep W.qc F p v → s.TypeIs v T ∧ ∀ a, v = .ref a → ∃ ob, s.heap.get? a = some ob ∧ ob.dict = none) ∧
    ∀ (A : Around) (F : FM) (s : Shared) (v : Value) (vs : List Value), Amb A k → Sits F s.heap → Keep W.hB s.heap → Rep W.qc F p v → RepL W.qc F ps vs → Ev W.qc W.M A F s (PySem.call (.builtin id) (v :: vs)) r :=
  ⟨T, id, x.plain, x.slot, x.ty, x.is p ps r h, fun A F s v vs hA => x.call p ps r h A F s v vs (hA.le (Nat.zero_le _))⟩

theorem Orc.sound {W : Wd} {O : Orc} {k : Nat} (x : OrcOK W O k) : CfgSOK W O.cfg k where
  base := {
    const := fun y p h => x.consts y p (mem_of_lookup (l := O.consts) h)
    call := fun f ps r h => by
      change (match O.fns.lookup f with | some g => g ps r | none => False) at h
      cases hl : O.fns.lookup f with
      | none => rw [hl] at h; exact h.elim
      | some g => rw [hl] at h; exact x.fns f g (mem_of_lookup hl) ps r h
    scall := x.sc
    meth := fun m p ps r h => by
      change methTab m p ps = some r at h
      unfold methTab at h
      by_cases h1 : m = "join"
      · subst h1; rw [if_pos rfl] at h; exact methOK_use meth_join h
      rw [if_neg h1] at h
      by_cases h2 : m = "count"
      · subst h2; rw [if_pos rfl] at h; exact methOK_use meth_count h
      rw [if_neg h2] at h
      by_cases h3 : m = "isspace"
      · subst h3; rw [if_pos rfl] at h; exact methOK_use meth_isspace h
      rw [if_neg h3] at h
      by_cases h4 : m = "zfill"
      · subst h4; rw [if_pos rfl] at h; exact methOK_use meth_zfill h
      rw [if_neg h4] at h
      by_cases h5 : m = "bit_length"
      · subst h5; rw [if_pos rfl] at h; exact methOK_use meth_bitlen h
      rw [if_neg h5] at h; cases h
    smeth := x.sm
    cmpq := x.cq }
  make := x.nw
  mm := x.mm
  itc := fun f ps items h => by
    obtain ⟨g, h1, h2⟩ := lookup_bind h
    exact x.ic f g h1 ps items h2
  itc2 := x.ic2

/-- the function's contract out of its run -/
theorem fn_ok {W : Wd} {O : Orc} {k : Nat} (ok : WdOK W) (x : OrcOK W O k) {name : Str} {params : List Str} {body : List Stmt} {N : Names} {a : Addr} {o : Obj} {fd : FuncData} (hf : FnAt W name params body N a o fd) (hN : fnOk N params = true) {n : Nat} {spec : Rel}
    (h : ∀ ps r, spec ps r → runFn O.cfg N n params body ps r) : FnOK W (k + 1) name spec := fun ps r e => fn_sound ok (Orc.sound x) hf hN (h ps r e)

/-- other functions in the same world -/
theorem OrcOK.fns' {W : Wd} {O : Orc} {k j : Nat} (x : OrcOK W O k) (hk : k ≤ j) {fns : List (Str × Rel)} (h : ∀ f g, (f, g) ∈ fns → FnOK W j f g) : OrcOK W { O with fns := fns } j where
  consts := x.consts
  fns := h
  sc := fun f sl r e => Exists.imp (fun _ z => ⟨z.1, z.2.1, fun A F s env v hA => z.2.2 A F s env v (hA.le hk)⟩) (x.sc f sl r e)
  sm := fun m sl ps r e => Exists.imp (fun _ z => ⟨z.1, z.2.1, fun A F s env v vs hA => z.2.2 A F s env v vs (hA.le hk)⟩) (x.sm m sl ps r e)
  nw := fun f ps hd e => Exists.imp (fun _ z => ⟨z.1, z.2.1, fun A F s vs hA => z.2.2 A F s vs (hA.le hk)⟩) (x.nw f ps hd e)
  mm := fun m hd items ps r i' e => Exists.imp (fun _ z => ⟨z.1, z.2.1, fun A F s env a vs hA => z.2.2 A F s env a vs (hA.le hk)⟩) (x.mm m hd items ps r i' e)
  ic := fun f g e ps items e' => Exists.imp (fun _ z => ⟨z.1, z.2.1, fun A F s vs hA => z.2.2 A F s vs (hA.le hk)⟩) (x.ic f g e ps items e')
  ic2 := fun f g ps items e => Exists.imp (fun _ y => Exists.imp (fun _ z => ⟨z.1, z.2.1, z.2.2.1, z.2.2.2.1, fun A F s vs hA => z.2.2.2.2 A F s vs (hA.le hk)⟩) y) (x.ic2 f g ps items e)
  cq := fun op a b r e A F s v u hA => x.cq op a b r e A F s v u (hA.le hk)
section
variable {C : CfgS} {n : Nat} {N : Names} {ρ ρ1 ρ2 : Rho} {go : Rho → Stmt → Rho × FlowP → Prop}
theorem wh_false {t : Rho → Bool × Rho → Prop} {g : Rho → Rho × FlowP → Prop} {k : Nat} (h : t ρ (false, ρ1)) : whileGo t g (k + 1) ρ (ρ1, .next) := ⟨_, _, h, .inl ⟨rfl, rfl⟩⟩
theorem wh_brk {t : Rho → Bool × Rho → Prop} {g : Rho → Rho × FlowP → Prop} {k : Nat} (h : t ρ (true, ρ1)) (h2 : g ρ1 (ρ2, .brk)) : whileGo t g (k + 1) ρ (ρ2, .next) := ⟨_, _, h, .inr ⟨rfl, _, .brk, h2, rfl⟩⟩
theorem wh_next {t : Rho → Bool × Rho → Prop} {g : Rho → Rho × FlowP → Prop} {k : Nat} {r : Rho × FlowP} (h : t ρ (true, ρ1)) (h2 : g ρ1 (ρ2, .next)) (h3 : whileGo t g k ρ2 r) : whileGo t g (k + 1) ρ r := ⟨_, _, h, .inr ⟨rfl, _, .next, h2, h3⟩⟩
theorem for_all {l : List Stmt} {i : Nat} {tg0 it0 : Expr} {body0 : List Stmt} {p0 : Pos} (h0 : l[i]? = some (.For tg0 it0 body0 [] p0)) {P : Expr → List Stmt → Prop} (h : P tg0 body0) : ∀ tg it body p, l[i]? = some (.For tg it body [] p) → P tg body := by
  intro _ _ _ _ hb
  have e := Stmt.For.inj (Option.some.inj (h0.symm.trans hb))
  exact e.1 ▸ e.2.2.1 ▸ h
theorem while_all {l : List Stmt} {i : Nat} {tg0 : Expr} {body0 : List Stmt} {p0 : Pos} (h0 : l[i]? = some (.While tg0 body0 [] p0)) {P : Expr → List Stmt → Prop} (h : P tg0 body0) : ∀ tg body p, l[i]? = some (.While tg body [] p) → P tg body := by
  intro _ _ _ hb
  have e := Stmt.While.inj (Option.some.inj (h0.symm.trans hb))
  exact e.1 ▸ e.2.1 ▸ h
theorem inner_all {l : List Stmt} {i j : Nat} {tg0 it0 t0 : Expr} {body0 b0 : List Stmt} {p0 q0 : Pos} (h0 : l[i]? = some (.For tg0 it0 body0 [] p0)) (h1 : body0[j]? = some (.While t0 b0 [] q0)) {P : Expr → List Stmt → Prop} (h : P t0 b0) :
    ∀ tg it body p, l[i]? = some (.For tg it body [] p) → ∀ t b q, body[j]? = some (.While t b [] q) → P t b :=
  for_all (P := fun _ body => ∀ t b q, body[j]? = some (.While t b [] q) → P t b) h0 (while_all h1 h)
theorem g_cons {st : Stmt} {sts : List Stmt} {fl : FlowP} (h1 : go ρ st (ρ1, .next)) (h2 : ∃ ρ', execs go sts ρ1 (ρ', fl)) : ∃ ρ', execs go (st :: sts) ρ (ρ', fl) :=
  let ⟨ρ', h⟩ := h2; ⟨ρ', x_cons h1 h⟩
theorem g_ret {st : Stmt} {sts : List Stmt} {p : PV} (h : go ρ st (ρ1, .ret p)) : ∃ ρ', execs go (st :: sts) ρ (ρ', .ret p) := ⟨_, x_ret h⟩
theorem run_ex {params : List Str} {body : List Stmt} {ps : List PV} {r : PV} (hl : ps.length = params.length) (h : ∃ ρ', execs (exec C N n) body (rho0 params ps) (ρ', .ret r)) : runFn C N n params body ps r :=
  let ⟨_, h⟩ := h; run_of hl h
end
end Nw

namespace Nw
set_option tactic.hygienic false

theorem intBits_le {a : Int} {m : Nat} (h0 : 0 ≤ a) (h : a < 2 ^ m) : Builtin.Int.intBits a ≤ m := by
  unfold Builtin.Int.intBits
  split
  · lia
  · rename_i hz
    have hz' : a ≠ 0 := by simpa using hz
    have : a.natAbs < 2 ^ m := by
      have e : ((2 ^ m : Nat) : Int) = 2 ^ m := by push_cast; rfl
      lia
    have hl : a.natAbs.log2 < m := (Nat.log2_lt (by lia)).mpr this
    lia
theorem bnop_shl {a n : Int} {m : Nat} (h0 : 0 ≤ a) (h : a < 2 ^ m) (hn : 0 ≤ n) (hm : (m : Int) + n ≤ 2 ^ 27) : bnop .LShift (.int a) (.int n) = some (.int (a * 2 ^ n.toNat)) := by
  have := intBits_le h0 h
  show (if _ then _ else _) = _
  rw [if_pos ⟨hn, by lia⟩]
theorem bnop_shr {a n : Int} (hn : 0 ≤ n) : bnop .RShift (.int a) (.int n) = some (.int (a.fdiv (2 ^ n.toNat))) := if_pos hn
theorem bnop_mul {a b : Int} {m l : Nat} (h0 : 0 ≤ a) (h : a < 2 ^ m) (g0 : 0 ≤ b) (g : b < 2 ^ l) (hm : m + l ≤ 2 ^ 27) : bnop .Mult (.int a) (.int b) = some (.int (a * b)) := by
  have h1 := intBits_le h0 h
  have h2 := intBits_le g0 g
  show (if _ then _ else _) = _
  rw [if_pos]
  unfold mulOkB Builtin.Int.intTooBig
  have : decide (((Builtin.Int.intBits a : Int) + (Builtin.Int.intBits b : Int)) > (bitsLine : Int)) = false := by
    rw [decide_eq_false_iff_not, show bitsLine = 2 ^ 27 from rfl]
    lia
  simp only [this, Bool.and_false, Bool.not_false]
theorem pylong_small {a b : Int} (h : b.natAbs.log2 / 30 + 1 ≤ 300) : Builtin.divisionGoesByPylong a b = false := by
  unfold Builtin.divisionGoesByPylong
  simp only [Bool.and_eq_false_iff, decide_eq_false_iff_not]
  left
  split <;> lia
theorem pylong_near {a b : Int} (h : a.natAbs.log2 / 30 ≤ b.natAbs.log2 / 30 + 150) (hb : b ≠ 0) : Builtin.divisionGoesByPylong a b = false := by
  unfold Builtin.divisionGoesByPylong
  simp only [Bool.and_eq_false_iff, decide_eq_false_iff_not]
  right
  have hb' : (b == 0) = false := by simpa using hb
  rw [hb']
  simp only [Bool.false_eq_true, if_false]
  split <;> lia
theorem bnop_div {a b : Int} (hb : b ≠ 0) (h : Builtin.divisionGoesByPylong a b = false) : bnop .FloorDiv (.int a) (.int b) = some (.int (a.fdiv b)) := if_pos ⟨hb, h⟩
theorem bnop_mod {a b : Int} (hb : b ≠ 0) : bnop .Mod (.int a) (.int b) = some (.int (a.fmod b)) := if_pos hb
theorem bnop_pow {a n : Int} {m : Nat} (hn : 0 ≤ n) (ha : Builtin.Int.intBits a ≤ m) (h : (m : Int) * n ≤ 2 ^ 27) : bnop .Pow (.int a) (.int n) = some (.int (a ^ n.toNat)) := by
  show (if _ then _ else _) = _
  rw [if_pos ⟨hn, Int.le_trans (Int.mul_le_mul_of_nonneg_right (by lia) hn) h⟩]

theorem bitAnd_mask {x : Int} {k : Nat} (hx : 0 ≤ x) : Builtin.bitAnd x (2 ^ k - 1) = x % 2 ^ k := by
  have hp : (0 : Int) < 2 ^ k := Int.pow_pos (by decide)
  obtain ⟨n, rfl⟩ := Int.eq_ofNat_of_zero_le hx
  have e : (2 ^ k - 1 : Int) = ((2 ^ k - 1 : Nat) : Int) := by
    have : 0 < 2 ^ k := Nat.two_pow_pos k
    rw [Int.natCast_sub (by lia)]; push_cast; rfl
  rw [e]
  unfold Builtin.bitAnd
  have h1 : decide ((0 : Int) ≤ (n : Int)) = true := by simp
  have h2 : decide ((0 : Int) ≤ ((2 ^ k - 1 : Nat) : Int)) = true := by simp
  rw [h1, h2]
  show (((n : Int).toNat &&& ((2 ^ k - 1 : Nat) : Int).toNat : Nat) : Int) = _
  rw [Int.toNat_natCast, Int.toNat_natCast, Nat.and_two_pow_sub_one_eq_mod]
  push_cast; rfl
theorem bitOr_nat (x y : Nat) : Builtin.bitOr (x : Int) (y : Int) = ((x ||| y : Nat) : Int) := by
  unfold Builtin.bitOr Builtin.bitAnd
  have h1 : decide ((0 : Int) ≤ Builtin.bitNot (x : Int)) = false := by unfold Builtin.bitNot; simp; lia
  have h2 : decide ((0 : Int) ≤ Builtin.bitNot (y : Int)) = false := by unfold Builtin.bitNot; simp; lia
  rw [h1, h2]
  have e : ∀ z : Int, Builtin.bitNot (Builtin.bitNot z) = z := fun z => by unfold Builtin.bitNot; lia
  show Builtin.bitNot (Builtin.bitNot _) = _
  rw [e, e, e, Int.toNat_natCast, Int.toNat_natCast]
theorem bitOr_shl {x y : Int} {k : Nat} (hx : 0 ≤ x) (hy : 0 ≤ y) (h : y < 2 ^ k) : Builtin.bitOr (x * 2 ^ k) y = x * 2 ^ k + y := by
  obtain ⟨n, rfl⟩ := Int.eq_ofNat_of_zero_le hx
  obtain ⟨m, rfl⟩ := Int.eq_ofNat_of_zero_le hy
  have e : ((n : Int) * 2 ^ k) = ((n * 2 ^ k : Nat) : Int) := by push_cast; rfl
  rw [e, bitOr_nat]
  have hm : m < 2 ^ k := by
    have e : ((2 ^ k : Nat) : Int) = 2 ^ k := by push_cast; rfl
    lia
  have := Nat.two_pow_add_eq_or_of_lt hm n
  rw [Nat.mul_comm, ← this]
  push_cast; rfl
end Nw

namespace Nw
set_option tactic.hygienic false

/-- names frozen before a line (law 1) -/
noncomputable def fz1 (l : Nat) : List Str := if l = 126 then ["words"] else if l = 151 then ["tops"] else if l = 158 then ["due"] else if l = 199 then ["straight"] else []

structure O1 where
  sc : Str → Slot → Option PV
  sm : Str → Slot → List PV → Option PV
  nw : List PV → Option Int
noncomputable def O1.orc (o : O1) (fns : List (Str × Rel)) : Orc where
  consts := [("_DIV_LIMIT", .int 4000)]
  fns := fns
  sc := o.sc
  sm := o.sm
  nw := fun f ps => if f = "_Accumulator" then o.nw ps else none
  ic := [("reversed", revPV)]
  ic2 := fun _ _ _ => none
  fz := fz1

noncomputable def div3S (lim : Nat) : Rel := fun ps r => ∃ (a12 a3 b b1 b2 : Int) (m : Nat), ps = [.int a12, .int a3, .int b, .int b1, .int b2, .int m] ∧
  (1 ≤ m ∧ m ≤ lim ∧ 0 ≤ a3 ∧ a3 < 2 ^ m ∧ 0 ≤ b2 ∧ b2 < 2 ^ m ∧ 2 ^ (m - 1) ≤ b1 ∧ b1 < 2 ^ m ∧ b = b1 * 2 ^ m + b2 ∧ 0 ≤ a12 ∧ a12 < b) ∧ r = .tup [.int ((a12 * 2 ^ m + a3) / b), .int ((a12 * 2 ^ m + a3) % b)]
noncomputable def div2S (lim : Nat) : Rel := fun ps r => ∃ (a b : Int) (m : Nat), ps = [.int a, .int b, .int m] ∧ (1 ≤ m ∧ m ≤ lim ∧ 2 ^ (m - 1) ≤ b ∧ b < 2 ^ m ∧ 0 ≤ a ∧ a < b * 2 ^ m) ∧ r = .tup [.int (a / b), .int (a % b)]

/-- the guess is too great by two at most -/
theorem div3_math {a12 a3 b b1 b2 p : Int} (hp : 0 < p) (h3 : 0 ≤ a3) (h3' : a3 < p) (h2 : 0 ≤ b2) (h2' : b2 < p) (h1 : p ≤ 2 * b1) (h1' : b1 < p) (hb : b = b1 * p + b2) (h0 : 0 ≤ a12) (h0' : a12 < b) {q r : Int}
    (hq : a12 = q * b1 + r) (hr : 0 ≤ r) (hqp : q ≤ p - 1) (hrb : r < b1 ∨ q = p - 1) : a12 * p + a3 = q * b + (r * p + a3 - q * b2) ∧ r * p + a3 - q * b2 < b ∧ -(2 * b) < r * p + a3 - q * b2 := by
  have e1 : a12 * p + a3 = q * b + (r * p + a3 - q * b2) := by
    rw [hq, hb, Int.add_mul, Int.mul_add, Int.mul_assoc]
    lia
  have hb1 : 0 < b1 := by lia
  have hb0 : 0 < b := by
    have : 0 < b1 * p := Int.mul_pos hb1 hp
    lia
  refine ⟨e1, ?_, ?_⟩
  · rcases hrb with h | h
    · have hq0 : 0 ≤ q := by
        by_cases hn : 0 ≤ q
        · exact hn
        · have : q * b1 ≤ -1 * b1 := Int.mul_le_mul_of_nonneg_right (by lia) (by lia)
          lia
      have g1 : 0 ≤ q * b2 := Int.mul_nonneg hq0 h2
      have g2 : (r + 1) * p ≤ b1 * p := Int.mul_le_mul_of_nonneg_right (by lia) (by lia)
      rw [Int.add_mul] at g2
      lia
    · have g1 : (a12 + 1) * p ≤ b * p := Int.mul_le_mul_of_nonneg_right (by lia) (by lia)
      rw [Int.add_mul] at g1
      have g2 : q * b = b * p - b := by rw [h, Int.sub_mul, Int.mul_comm]; lia
      lia
  · have g0 : 0 ≤ r * p := Int.mul_nonneg hr (by lia)
    have g1 : q * b2 ≤ p * b2 := Int.mul_le_mul_of_nonneg_right (by lia) h2
    have g2 : p * b2 ≤ p * (p - 1) := Int.mul_le_mul_of_nonneg_left (by lia) (by lia)
    rw [Int.mul_sub] at g2
    have g3 : p * p ≤ 2 * b1 * p := Int.mul_le_mul_of_nonneg_right h1 (by lia)
    rw [Int.mul_assoc] at g3
    have g5 : q * b2 ≤ (p - 1) * b2 := Int.mul_le_mul_of_nonneg_right (by lia) h2
    rw [Int.sub_mul] at g5
    lia
theorem quot_of {a b q r : Int} (hb : 0 < b) (e : a = q * b + r) (h0 : 0 ≤ r) (h1 : r < b) : a / b = q ∧ a % b = r := by
  have h := (Int.ediv_emod_unique hb (a := a) (r := r) (q := q)).mpr ⟨by rw [Int.mul_comm b q]; lia, h0, h1⟩
  exact h


section
variable {o : O1} {lim : Nat}
noncomputable abbrev C3 (o : O1) (lim : Nat) : CfgS := (o.orc [("_div2n1n", div2S lim)]).cfg

theorem bnop_or {x y : Int} {k : Nat} (hx : 0 ≤ x) (hy : 0 ≤ y) (h : y < 2 ^ k) : bnop .BitOr (.int (x * 2 ^ k)) (.int y) = some (.int (x * 2 ^ k + y)) := by
  show some (PV.int _) = _
  rw [bitOr_shl hx hy h]

/-- the loop that mends the guess -/
theorem mend {N : Names} {n : Nat} {a b : Int} (hN : (isLC N "q" && isLC N "r") = true) : ∀ (k fuel : Nat) (ρ : Rho) (q r : Int), k + 1 ≤ fuel → -(k * b) ≤ r → r < b →
    ρ "q" = some (.imm (.int q)) → ρ "r" = some (.imm (.int r)) → ρ "b" = some (.imm (.int b)) → a = q * b + r →
    ∃ ρ' q' r', (∀ (p1 p2 p3 p4 p5 p6 p7 p8 p9 : Pos) (k1 k2 : Nat), fz1 p5.line = [] → fz1 p8.line = [] → whileGo (fun ρ => evt (C3 o lim) N (n + 5) ρ (.Compare (.Name "r" p1) [.Lt] [.Constant (.int 0) k1 p2] p3)) (execs (exec (C3 o lim) N (n + 5)) [.AugAssign (.Name "q" p4) .Sub (.Constant (.int 1) k2 p6) p5, .AugAssign (.Name "r" p7) .Add (.Name "b" p9) p8]) fuel ρ (ρ', .next)) ∧
      ρ' "q" = some (.imm (.int q')) ∧ ρ' "r" = some (.imm (.int r')) ∧ 0 ≤ r' ∧ r' < b ∧ a = q' * b + r' := by
  simp only [Bool.and_eq_true] at hN
  intro k
  induction k with
  | zero =>
    intro fuel ρ q r hf h1 h2 hq hr hb ha
    obtain ⟨f, rfl⟩ : ∃ f, fuel = f + 1 := ⟨fuel - 1, by lia⟩
    refine ⟨ρ, q, r, fun p1 p2 p3 p4 p5 p6 p7 p8 p9 k1 k2 hl hl2 => ?_, hq, hr, by lia, h2, ha⟩
    have ht : evt (C3 o lim) N (n + 5) ρ (.Compare (.Name "r" p1) [.Lt] [.Constant (.int 0) k1 p2] p3) (false, ρ) := t_pure (e_cmp (e_name hr rfl) e_int (by show some (decide (r < 0)) = _; rw [decide_eq_false (by lia)]) rfl)
    exact ⟨_, _, ht, .inl ⟨rfl, rfl⟩⟩
  | succ k ih =>
    intro fuel ρ q r hf h1 h2 hq hr hb ha
    obtain ⟨f, rfl⟩ : ∃ f, fuel = f + 1 := ⟨fuel - 1, by lia⟩
    by_cases hz : 0 ≤ r
    · refine ⟨ρ, q, r, fun p1 p2 p3 p4 p5 p6 p7 p8 p9 k1 k2 hl hl2 => ?_, hq, hr, hz, h2, ha⟩
      have ht : evt (C3 o lim) N (n + 5) ρ (.Compare (.Name "r" p1) [.Lt] [.Constant (.int 0) k1 p2] p3) (false, ρ) := t_pure (e_cmp (e_name hr rfl) e_int (by show some (decide (r < 0)) = _; rw [decide_eq_false (by lia)]) rfl)
      exact ⟨_, _, ht, .inl ⟨rfl, rfl⟩⟩
    · have e1 : (k + 1 : Nat) * b = k * b + b := by rw [Int.natCast_add, Int.add_mul]; simp
      obtain ⟨ρ', q', r', g, g1, g2, g3, g4, g5⟩ := ih f ((ρ.set "q" (.imm (.int (q - 1)))).set "r" (.imm (.int (r + b)))) (q - 1) (r + b) (by lia) (by rw [e1] at h1; lia) (by lia) rfl rfl hb (by rw [ha, Int.sub_mul]; lia)
      refine ⟨ρ', q', r', fun p1 p2 p3 p4 p5 p6 p7 p8 p9 k1 k2 hl hl2 => ?_, g1, g2, g3, g4, g5⟩
      have ht : evt (C3 o lim) N (n + 5) ρ (.Compare (.Name "r" p1) [.Lt] [.Constant (.int 0) k1 p2] p3) (true, ρ) := t_pure (e_cmp (e_name hr rfl) e_int (by show some (decide (r < 0)) = _; rw [decide_eq_true (by lia)]) rfl)
      have hbody : execs (exec (C3 o lim) N (n + 5)) [.AugAssign (.Name "q" p4) .Sub (.Constant (.int 1) k2 p6) p5, .AugAssign (.Name "r" p7) .Add (.Name "b" p9) p8] ρ ((ρ.set "q" (.imm (.int (q - 1)))).set "r" (.imm (.int (r + b))), .next) := by
        refine x_cons (x_exec hl (x_aug (by rw [hN.1]; rfl) hq e_int rfl)) ?_
        refine x_cons (x_exec hl2 (x_aug (by rw [hN.2]; rfl) hr (e_name hb rfl) rfl)) rfl
      exact ⟨_, _, ht, .inr ⟨rfl, _, .next, hbody, g p1 p2 p3 p4 p5 p6 p7 p8 p9 k1 k2 hl hl2⟩⟩
end
end Nw

namespace Nw
set_option tactic.hygienic false

theorem sz {ps : List PV} {k : Nat} (h : ps.length = k) (hk : decide (k ≤ 16777216) = true) : ps.length ≤ sizeLine := by
  rw [sizeLine_eq, h]; exact of_decide_eq_true hk
theorem bind_cons {N : Names} {x : Str} {pos : Pos} {p : PV} {es : List Expr} {ps : List PV} {ρ ρ1 : Rho} (h : isLC N x = true) (h2 : bindNames false N es ps (ρ.set x (.imm p)) = some ρ1) : bindNames false N (.Name x pos :: es) (p :: ps) ρ = some ρ1 := by
  show (if _ then _ else none) = _
  rw [if_pos (by dsimp only; rw [h]; rfl)]
  exact h2
theorem swap2 {N : Names} {x y : Str} {p1 p2 : Pos} {a b : PV} {ρ : Rho} (h : (isLC N x && isLC N y) = true) : bindNames false N [.Name x p1, .Name y p2] [a, b] ρ = some ((ρ.set x (.imm a)).set y (.imm b)) := by
  have h := Bool.and_eq_true_iff.mp h
  exact bind_cons h.1 (bind_cons h.2 rfl)
theorem bind2 {N : Names} {x y : Str} {p1 p2 tp : Pos} {k : Nat} {a b : PV} {ρ : Rho} (h : (isLC N x && isLC N y) = true) : bindT false N (.Tuple [.Name x p1, .Name y p2] k tp) (.tup [a, b]) ρ = some ((ρ.set x (.imm a)).set y (.imm b)) := swap2 (p1 := p1) (p2 := p2) h
theorem pow_lt_add {a : Int} {m l : Nat} (h : a < 2 ^ m) (hl : m ≤ l) : a < 2 ^ l := by
  have : ((2 ^ m : Nat) : Int) ≤ ((2 ^ l : Nat) : Int) := Int.ofNat_le.mpr (Nat.pow_le_pow_right (by decide) hl)
  push_cast at this
  lia

set_option maxHeartbeats 4000000 in
theorem div3_run {o : O1} {lim : Nat} (hlim : lim ≤ 100000) : ∀ ps r, div3S lim ps r → runFn (C3 o lim) n4.1 20 ["a12", "a3", "b", "b1", "b2", "n"] b4.1 ps r := by
  rintro ps r ⟨a12, a3, b, b1, b2, m, rfl, ⟨hn, hl, c1, c2, c3, c4, c5, c6, c7, c8, c9⟩, rfl⟩
  have hp : (0 : Int) < 2 ^ m := Int.pow_pos (by decide)
  have hpm : (2 : Int) ^ m = 2 * 2 ^ (m - 1) := by
    rw [show m = (m - 1) + 1 by lia, Int.pow_succ, Nat.add_sub_cancel, Int.mul_comm]
  have hb1 : 0 < b1 := by have : (0 : Int) < 2 ^ (m - 1) := Int.pow_pos (by decide); lia
  have hbb : b1 * 2 ^ m ≤ b := by lia
  have hb0 : 0 < b := by have := Int.mul_pos hb1 hp; lia
  have hsh : bnop .RShift (.int a12) (.int m) = some (.int (a12 / 2 ^ m)) := by
    rw [bnop_shr (by lia), Int.toNat_natCast, Int.fdiv_eq_ediv_of_nonneg _ (by lia)]
  unfold b4 n4
  -- the tail
  have tail : ∀ (ρ : Rho) (q r : Int), ρ "q" = some (.imm (.int q)) → ρ "r" = some (.imm (.int r)) → ρ "b" = some (.imm (.int b)) → ρ "b2" = some (.imm (.int b2)) → ρ "a3" = some (.imm (.int a3)) → ρ "n" = some (.imm (.int m)) →
      a12 = q * b1 + r → 0 ≤ r → 0 ≤ q → q ≤ 2 ^ m - 1 → (r < b1 ∨ q = 2 ^ m - 1) → r < 2 ^ (m + m + 1) →
      ∃ ρ', execs (exec (C3 o lim) n4.1 20) (b4.1.drop 1) ρ (ρ', .ret (.tup [.int ((a12 * 2 ^ m + a3) / b), .int ((a12 * 2 ^ m + a3) % b)])) := by
    intro ρ q r hq hr hb hb2 ha3 hn' e hr0 hq0 hqp hor hrs
    obtain ⟨m1, m2, m3⟩ := div3_math hp c1 c2 c3 c4 (by lia) c6 c7 c8 c9 e hr0 hqp hor
    unfold b4 n4
    have l1 : bnop .LShift (.int r) (.int m) = some (.int (r * 2 ^ m)) := by
      rw [bnop_shl (m := m + m + 1) hr0 hrs (by lia) (by lia), Int.toNat_natCast]
    have l2 : bnop .Mult (.int q) (.int b2) = some (.int (q * b2)) := bnop_mul (m := m) (l := m) hq0 (by lia) c3 c4 (by lia)
    obtain ⟨ρ', q', r', g, g1, g2, g3, g4, g5⟩ := mend (o := o) (lim := lim) (N := n4.1) (n := 14) (by decide) 2 19 (ρ.set "r" (.imm (.int (r * 2 ^ m + a3 - q * b2)))) q (r * 2 ^ m + a3 - q * b2) (by decide) (by lia) m2 hq rfl hb m1
    obtain ⟨d1, d2⟩ := quot_of hb0 g5 g3 g4
    refine ⟨ρ', ?_⟩
    rw [d1, d2]
    refine x_cons (x_exec rfl (x_name (by decide) rfl (m_pure (e_bin (e_bin (e_bin (e_name hr rfl) (e_name hn' rfl) l1) (e_name ha3 rfl) (bnop_or hr0 c1 c2)) (e_bin (e_name hq rfl) (e_name hb2 rfl) l2) rfl) rfl))) ?_
    refine x_cons (x_exec rfl (x_while (g _ _ _ _ _ _ _ _ _ _ _ rfl rfl))) ?_
    refine x_ret (x_exec rfl (x_return (m_tup (evs_cons (e_name g1 rfl) (evs_cons (e_name g2 rfl) evs_nil)) rfl (sz rfl rfl))))
  have hdm := Int.emod_add_mul_ediv a12 b1
  by_cases hcase : a12 / 2 ^ m = b1
  · -- the upper half is full
    have ha12 : a12 < b1 * 2 ^ m + 2 ^ m := by lia
    have hle : b1 * 2 ^ m ≤ a12 := by
      have := Int.ediv_mul_le a12 (show (2 : Int) ^ m ≠ 0 by lia)
      rw [hcase] at this
      exact this
    have l1 : bnop .LShift (.int 1) (.int m) = some (.int (1 * 2 ^ m)) := by
      rw [bnop_shl (m := 1) (by lia) (by decide) (by lia) (by lia), Int.toNat_natCast]
    have hb1m := pow_lt_add c6 (show m ≤ m + 1 by lia)
    have l2 : bnop .LShift (.int b1) (.int m) = some (.int (b1 * 2 ^ m)) := by
      rw [bnop_shl (m := m) (by lia) c6 (by lia) (by lia), Int.toNat_natCast]
    have hr0 : 0 ≤ a12 - b1 * 2 ^ m + b1 := by lia
    have hrs : a12 - b1 * 2 ^ m + b1 < 2 ^ (m + m + 1) := by
      have : a12 - b1 * 2 ^ m + b1 < 2 ^ (m + 1) := by rw [Int.pow_succ]; lia
      exact pow_lt_add this (by lia)
    obtain ⟨ρ', ht⟩ := tail ((((rho0 ["a12", "a3", "b", "b1", "b2", "n"] [.int a12, .int a3, .int b, .int b1, .int b2, .int m]).set "r" (.imm (.int (a12 - b1 * 2 ^ m + b1)))).set "q" (.imm (.int (1 * 2 ^ m - 1))))) (1 * 2 ^ m - 1) (a12 - b1 * 2 ^ m + b1) rfl rfl rfl rfl rfl rfl
      (by rw [Int.sub_mul, Int.one_mul, Int.mul_comm b1]; lia) hr0 (by lia) (by lia) (.inr (by lia)) hrs
    refine run_of rfl (x_cons (x_exec rfl (x_if (t_pure (e_cmp (e_bin (e_name rfl rfl) (e_name rfl rfl) hsh) (e_name rfl rfl) (show _ = some true from by rw [hcase]; exact congrArg some (beq_self_eq_true b1)) rfl)) ?_)) ht)
    refine x_cons (x_exec rfl (x_swap (by decide) (by decide) (evs_cons (e_bin (e_bin e_int (e_name rfl rfl) l1) e_int rfl) (evs_cons (e_bin (e_bin (e_name rfl rfl) (e_bin (e_name rfl rfl) (e_name rfl rfl) l2) rfl) (e_name rfl rfl) rfl) evs_nil)) (swap2 (by decide)))) rfl
  · -- the guess by the upper half
    have hlt : a12 < b1 * 2 ^ m := by
      have h1 : a12 / 2 ^ m ≤ b1 := by
        have : a12 < (b1 + 1) * 2 ^ m := by rw [Int.add_mul]; lia
        have := Int.ediv_lt_of_lt_mul hp this
        lia
      have h2 : a12 / 2 ^ m < b1 := by lia
      exact (Int.ediv_lt_iff_lt_mul hp).mp h2
    have hd : div2S lim [.int a12, .int b1, .int m] (.tup [.int (a12 / b1), .int (a12 % b1)]) := ⟨a12, b1, m, rfl, ⟨hn, hl, c5, c6, c8, hlt⟩, rfl⟩
    have r0 := Int.emod_nonneg a12 (show b1 ≠ 0 by lia)
    have r1 := Int.emod_lt_of_pos a12 hb1
    have q0 := Int.ediv_nonneg c8 (show 0 ≤ b1 by lia)
    have q1 : a12 / b1 < 2 ^ m := Int.ediv_lt_of_lt_mul hb1 (by rw [Int.mul_comm]; exact hlt)
    obtain ⟨ρ', ht⟩ := tail ((((rho0 ["a12", "a3", "b", "b1", "b2", "n"] [.int a12, .int a3, .int b, .int b1, .int b2, .int m]).set "q" (.imm (.int (a12 / b1)))).set "r" (.imm (.int (a12 % b1))))) (a12 / b1) (a12 % b1) rfl rfl rfl rfl rfl rfl
      (by rw [Int.mul_comm]; lia) r0 q0 (by lia) (.inl r1) (pow_lt_add (m := m) (by lia) (by lia))
    refine run_of rfl (x_cons (x_exec rfl (x_if (t_pure (e_cmp (e_bin (e_name rfl rfl) (e_name rfl rfl) hsh) (e_name rfl rfl) (show _ = some false from congrArg some (beq_eq_false_iff_ne.mpr hcase)) rfl)) ?_)) ht)
    refine x_cons (x_exec rfl (x_tup (by intro vs a b; nofun) (e_call rfl (evs_cons (e_name rfl rfl) (evs_cons (e_name rfl rfl) (evs_cons (e_name rfl rfl) evs_nil))) hd) (bind2 (by decide)))) rfl
end Nw

namespace Nw
set_option tactic.hygienic false

noncomputable abbrev C2 (o : O1) (g : Rel) : CfgS := (o.orc [("divmod", ofF divmodPV), ("_div3n2n", g)]).cfg

theorem fgl {f : Str} {N : Names} {ρ : Rho} (h1 : (okName f && N.lookup f == some .globalImplicit) = true) (h2 : ρ f = none) : (okName f && N.lookup f == some .globalImplicit && (ρ f).isNone) = true := by
  rw [h1, h2]; rfl
theorem log2_le {a : Int} {m : Nat} (h0 : 0 ≤ a) (h : a < 2 ^ m) (hm : 0 < m) : a.natAbs.log2 < m := by
  by_cases hz : a = 0
  · subst hz; simpa using hm
  · have e : ((2 ^ m : Nat) : Int) = 2 ^ m := by push_cast; rfl
    exact (Nat.log2_lt (by lia)).mpr (by lia)
theorem log2_ge {a : Int} {m : Nat} (h : 2 ^ m ≤ a) : m ≤ a.natAbs.log2 := by
  have hp : (0 : Int) < 2 ^ m := Int.pow_pos (by decide)
  have e : ((2 ^ m : Nat) : Int) = 2 ^ m := by push_cast; rfl
  exact (Nat.le_log2 (by lia)).mpr (by lia)

/-- the division in two halves -/
theorem div2_math {a b p q1 r1 q2 r2 : Int} (hb : 0 < b) (h1 : a / p = q1 * b + r1) (h2 : r1 * p + a % p = q2 * b + r2) (h3 : 0 ≤ r2) (h4 : r2 < b) : a / b = q1 * p + q2 ∧ a % b = r2 := by
  refine quot_of hb ?_ h3 h4
  have := Int.emod_add_mul_ediv a p
  rw [h1] at this
  rw [Int.mul_add, Int.mul_comm p r1] at this
  rw [Int.add_mul, Int.mul_assoc q1, Int.mul_comm p b, ← Int.mul_assoc, Int.mul_comm (q1 * b) p]
  lia

theorem inop_shl {a n : Int} : inop .LShift (.int a) (.int n) = if 0 ≤ n ∧ (Builtin.Int.intBits a : Int) + n ≤ 2 ^ 27 then some (.int (a * 2 ^ n.toNat)) else none := rfl
theorem inop_shr {a n : Int} : inop .RShift (.int a) (.int n) = if 0 ≤ n then some (.int (a.fdiv (2 ^ n.toNat))) else none := rfl
theorem shl1 {x : Int} {m : Nat} (h0 : 0 ≤ x) (h : x < 2 ^ m) (hm : m ≤ 200000) : inop .LShift (.int x) (.int 1) = some (.int (x * 2)) := by
  have := intBits_le h0 h
  rw [inop_shl, if_pos ⟨by decide, by lia⟩, show (1 : Int).toNat = 1 from rfl, Int.pow_succ, Int.pow_zero, Int.one_mul]

theorem shr_pow {a : Int} {k : Nat} {n : Int} (hn : n = (k : Int)) : bnop .RShift (.int a) (.int n) = some (.int (a / 2 ^ k)) := by
  subst hn
  rw [bnop_shr (by lia), Int.toNat_natCast, Int.fdiv_eq_ediv_of_nonneg]
  exact Int.le_of_lt (Int.pow_pos (by decide))
theorem and_mask {a : Int} {k : Nat} (h0 : 0 ≤ a) : bnop .BitAnd (.int a) (.int (1 * 2 ^ k - 1)) = some (.int (a % 2 ^ k)) := by
  rw [Int.one_mul]
  show some (PV.int _) = _
  rw [bitAnd_mask h0]
theorem ediv_lt_pow {a : Int} {k j : Nat} (h : a < 2 ^ (k + j)) : a / 2 ^ j < 2 ^ k := by
  have hp : (0 : Int) < 2 ^ j := Int.pow_pos (by decide)
  apply Int.ediv_lt_of_lt_mul hp
  rw [← Int.pow_add]
  exact h
theorem le_ediv_pow {a : Int} {k j : Nat} (h : 2 ^ (k + j) ≤ a) : 2 ^ k ≤ a / 2 ^ j := by
  have hp : (0 : Int) < 2 ^ j := Int.pow_pos (by decide)
  apply Int.le_ediv_of_mul_le hp
  rw [← Int.pow_add]
  exact h
theorem div3S_val {lim : Nat} {a12 a3 b b1 b2 n : Int} {m : Nat} {x q r : Int} (hn : n = (m : Int)) (h1 : 1 ≤ m) (hl : m ≤ lim) (h3 : 0 ≤ a3) (h3' : a3 < 2 ^ m) (h4 : 0 ≤ b2) (h4' : b2 < 2 ^ m) (h5 : 2 ^ (m - 1) ≤ b1) (h6 : b1 < 2 ^ m) (hb : b = b1 * 2 ^ m + b2) (h0 : 0 ≤ a12) (h0' : a12 < b)
    (hx : a12 * 2 ^ m + a3 = x) (hq : x / b = q) (hr : x % b = r) : div3S lim [.int a12, .int a3, .int b, .int b1, .int b2, .int n] (.tup [.int q, .int r]) := by
  subst hn hx hq hr
  exact ⟨_, _, _, _, _, m, rfl, ⟨h1, hl, h3, h3', h4, h4', h5, h6, hb, h0, h0'⟩, rfl⟩

set_option maxHeartbeats 8000000 in
theorem half_run {o : O1} {a b : Int} {h pad : Nat} (hh : 1 ≤ h) (hh4 : h ≤ 4000) (hpad : pad = 0 ∨ pad = 1) (c1 : 2 ^ (h + h - 1) ≤ b) (c2 : b < 2 ^ (h + h)) (c3 : 0 ≤ a) (c4 : a < b * 2 ^ (h + h)) {ρ : Rho}
    (ga : ρ "a" = some (.imm (.int a))) (gb : ρ "b" = some (.imm (.int b))) (gn : ρ "n" = some (.imm (.int ((h + h : Nat) : Int)))) (gp : ρ "pad" = some (.imm (.int pad))) (gf : ρ "_div3n2n" = none) :
    ∃ ρ', execs (exec (C2 o (div3S 4000)) n3.1 20) (b3.1.drop 3) ρ (ρ', .ret (.tup [.int (a / b), .int (if pad = 0 then a % b else (a % b) / 2)])) := by
  have hp : (0 : Int) < 2 ^ h := Int.pow_pos (by decide)
  have hpp : (0 : Int) < 2 ^ (h + h - 1) := Int.pow_pos (by decide)
  have hb0 : 0 < b := by lia
  have b1a : (2 : Int) ^ (h - 1) ≤ b / 2 ^ h := le_ediv_pow (by rw [show h - 1 + h = h + h - 1 by lia]; exact c1)
  have b1b : b / 2 ^ h < 2 ^ h := ediv_lt_pow c2
  have b2a := Int.emod_nonneg b (show (2 : Int) ^ h ≠ 0 by lia)
  have b2b := Int.emod_lt_of_pos b hp
  have hbe : b = b / 2 ^ h * 2 ^ h + b % 2 ^ h := by rw [Int.mul_comm]; have := Int.emod_add_mul_ediv b (2 ^ h); lia
  have ah0 := Int.ediv_nonneg c3 (show 0 ≤ (2 : Int) ^ h by lia)
  have a3a := Int.emod_nonneg (a / 2 ^ h) (show (2 : Int) ^ h ≠ 0 by lia)
  have a3b := Int.emod_lt_of_pos (a / 2 ^ h) hp
  have a0a := Int.emod_nonneg a (show (2 : Int) ^ h ≠ 0 by lia)
  have a0b := Int.emod_lt_of_pos a hp
  have e2 : a / 2 ^ (h + h) = a / 2 ^ h / 2 ^ h := by rw [Int.pow_add, Int.ediv_ediv_of_nonneg (by lia)]
  have a12a : 0 ≤ a / 2 ^ (h + h) := by rw [e2]; exact Int.ediv_nonneg ah0 (by lia)
  have a12b : a / 2 ^ (h + h) < b := Int.ediv_lt_of_lt_mul (Int.pow_pos (by decide)) c4
  have r1a := Int.emod_nonneg (a / 2 ^ h) (show b ≠ 0 by lia)
  have r1b := Int.emod_lt_of_pos (a / 2 ^ h) hb0
  have d1 : div3S 4000 [.int (a / 2 ^ (h + h)), .int (a / 2 ^ h % 2 ^ h), .int b, .int (b / 2 ^ h), .int (b % 2 ^ h), .int h] (.tup [.int (a / 2 ^ h / b), .int (a / 2 ^ h % b)]) :=
    div3S_val (x := a / 2 ^ h) rfl hh hh4 a3a a3b b2a b2b b1a b1b hbe a12a a12b (by rw [e2, Int.mul_comm]; have := Int.emod_add_mul_ediv (a / 2 ^ h) (2 ^ h); lia) rfl rfl
  generalize hx : a / 2 ^ h % b * 2 ^ h + a % 2 ^ h = x
  have d2 : div3S 4000 [.int (a / 2 ^ h % b), .int (a % 2 ^ h), .int b, .int (b / 2 ^ h), .int (b % 2 ^ h), .int h] (.tup [.int (x / b), .int (x % b)]) :=
    div3S_val (x := x) rfl hh hh4 a0a a0b b2a b2b b1a b1b hbe r1a r1b hx rfl rfl
  have x0 : 0 ≤ x := by rw [← hx]; have := Int.mul_nonneg r1a (Int.le_of_lt hp); lia
  have xb : x < 2 ^ h * b := by
    have : (a / 2 ^ h % b + 1) * 2 ^ h ≤ b * 2 ^ h := Int.mul_le_mul_of_nonneg_right (by lia) (by lia)
    rw [Int.add_mul, Int.mul_comm b] at this
    lia
  have q2a := Int.ediv_nonneg x0 (Int.le_of_lt hb0)
  have q2b : x / b < 2 ^ h := Int.ediv_lt_of_lt_mul hb0 xb
  have q1a := Int.ediv_nonneg ah0 (Int.le_of_lt hb0)
  have ab : a < 2 ^ (h + h + (h + h)) := by
    have : b * 2 ^ (h + h) ≤ 2 ^ (h + h) * 2 ^ (h + h) := Int.mul_le_mul_of_nonneg_right (by lia) (Int.le_of_lt (Int.pow_pos (by decide)))
    rw [← Int.pow_add] at this
    lia
  have q1b : a / 2 ^ h / b < 2 ^ (h + h + (h + h)) := by
    have := Int.ediv_le_self b ah0
    have := Int.ediv_le_self (2 ^ h) c3
    lia
  obtain ⟨m1, m2⟩ := div2_math (a := a) (b := b) (p := 2 ^ h) (q1 := a / 2 ^ h / b) (r1 := a / 2 ^ h % b) (q2 := x / b) (r2 := x % b) hb0 (by have := Int.emod_add_mul_ediv (a / 2 ^ h) b; rw [Int.mul_comm]; lia)
    (by rw [hx]; have := Int.emod_add_mul_ediv x b; rw [Int.mul_comm]; lia) (Int.emod_nonneg x (by lia)) (Int.emod_lt_of_pos x hb0)
  unfold b3 n3
  have s1 : bnop .RShift (.int ((h + h : Nat) : Int)) (.int 1) = some (.int h) := by
    rw [shr_pow (k := 1) (n := 1) rfl, show (((h + h : Nat) : Int) / 2 ^ 1) = h by lia]
  have s2 : bnop .LShift (.int 1) (.int h) = some (.int (1 * 2 ^ h)) := by
    rw [bnop_shl (m := 1) (by lia) (by decide) (by lia) (by lia), Int.toNat_natCast]
  have s3 : bnop .LShift (.int (a / 2 ^ h / b)) (.int h) = some (.int (a / 2 ^ h / b * 2 ^ h)) := by
    rw [bnop_shl q1a q1b (by lia) (by lia), Int.toNat_natCast]
  refine g_cons (x_exec rfl (x_name (by decide) rfl (m_pure (e_bin (e_name gn rfl) e_int s1) rfl))) ?_
  refine g_cons (x_exec rfl (x_name (by decide) rfl (m_pure (e_bin (e_bin e_int (e_name rfl rfl) s2) e_int rfl) rfl))) ?_
  refine g_cons (x_exec rfl (x_swap (by decide) (by decide) (evs_cons (e_bin (e_name gb rfl) (e_name rfl rfl) (shr_pow rfl)) (evs_cons (e_bin (e_name gb rfl) (e_name rfl rfl) (and_mask (by lia))) evs_nil)) (swap2 (by decide)))) ?_
  refine g_cons (x_exec rfl (x_tup (by intro vs a b; nofun) (e_call (fgl rfl gf) (evs_cons (e_bin (e_name ga rfl) (e_name gn rfl) (shr_pow rfl)) (evs_cons (e_bin (e_bin (e_name ga rfl) (e_name rfl rfl) (shr_pow rfl)) (e_name rfl rfl) (and_mask ah0)) (evs_cons (e_name gb rfl) (evs_cons (e_name rfl rfl) (evs_cons (e_name rfl rfl) (evs_cons (e_name rfl rfl) evs_nil)))))) d1) (bind2 (by decide)))) ?_
  refine g_cons (x_exec rfl (x_tup (by intro vs a b; nofun) (e_call (fgl rfl gf) (evs_cons (e_name rfl rfl) (evs_cons (e_bin (e_name ga rfl) (e_name rfl rfl) (and_mask c3)) (evs_cons (e_name gb rfl) (evs_cons (e_name rfl rfl) (evs_cons (e_name rfl rfl) (evs_cons (e_name rfl rfl) evs_nil)))))) d2) (bind2 (by decide)))) ?_
  have fin : bnop .BitOr (.int (a / 2 ^ h / b * 2 ^ h)) (.int (x / b)) = some (.int (a / b)) := by
    rw [bnop_or q1a q2a q2b, m1]
  rcases hpad with rfl | rfl
  · rw [if_pos rfl, m2]
    refine g_cons (x_exec rfl (x_if (t_int (i := 0) (b := false) (e_name gp rfl) rfl) rfl)) ?_
    exact g_ret (x_exec rfl (x_return (m_tup (evs_cons (e_bin (e_bin (e_name rfl rfl) (e_name rfl rfl) s3) (e_name rfl rfl) fin) (evs_cons (e_name rfl rfl) evs_nil)) rfl (sz rfl rfl))))
  · rw [if_neg (by decide), m2]
    have sh : inop .RShift (.int (x % b)) (.int 1) = some (.int (x % b / 2)) := by
      rw [inop_shr, if_pos (by decide), show (1 : Int).toNat = 1 from rfl, Int.pow_succ, Int.pow_zero, Int.one_mul, Int.fdiv_eq_ediv_of_nonneg _ (by decide)]
    refine g_cons (x_exec rfl (x_if (t_int (i := 1) (b := true) (e_name gp rfl) rfl) (x_cons (x_exec rfl (x_aug rfl rfl e_int sh)) rfl))) ?_
    exact g_ret (x_exec rfl (x_return (m_tup (evs_cons (e_bin (e_bin (e_name rfl rfl) (e_name rfl rfl) s3) (e_name rfl rfl) fin) (evs_cons (e_name rfl rfl) evs_nil)) rfl (sz rfl rfl))))

set_option maxHeartbeats 8000000 in
theorem div2_run {o : O1} {lim : Nat} {g : Rel} (hg : 4000 < lim → g = div3S 4000 ∧ lim ≤ 7999) : ∀ ps r, div2S lim ps r → runFn (C2 o g) n3.1 20 ["a", "b", "n"] b3.1 ps r := by
  rintro ps r ⟨a, b, m, rfl, ⟨hn, hl, c1, c2, c3, c4⟩, rfl⟩
  have hlim : lim ≤ 7999 := by
    by_cases hq : 4000 < lim
    · exact (hg hq).2
    · lia
  have hp : (0 : Int) < 2 ^ (m - 1) := Int.pow_pos (by decide)
  have hb0 : 0 < b := by lia
  have ha2 : a < 2 ^ (m + m) := by
    have : b * 2 ^ m ≤ 2 ^ m * 2 ^ m := Int.mul_le_mul_of_nonneg_right (by lia) (by lia)
    rw [← Int.pow_add] at this
    lia
  unfold b3 n3
  by_cases hcase : (Builtin.Int.intBits a : Int) - m ≤ 4000
  · refine run_of (ρ1 := rho0 ["a", "b", "n"] [.int a, .int b, .int m]) rfl (x_ret (x_exec rfl (x_if (t_pure (e_cmp (e_bin (e_meth rfl rfl (e_name rfl rfl) evs_nil rfl) (e_name rfl rfl) rfl) (e_glob rfl rfl rfl rfl) (show _ = some true from congrArg some (decide_eq_true hcase)) rfl)) ?_)))
    refine x_ret (x_exec rfl (x_return (m_pure (e_call rfl (evs_cons (e_name rfl rfl) (evs_cons (e_name rfl rfl) evs_nil)) ?_) rfl)))
    show (if _ then _ else _) = _
    rw [if_pos, Int.fdiv_eq_ediv_of_nonneg _ (by lia), Int.fmod_eq_emod_of_nonneg _ (by lia)]
    refine ⟨by lia, pylong_near ?_ (by lia)⟩
    have hb1 := log2_ge c1
    have ha1 : a.natAbs.log2 < Builtin.Int.intBits a ∨ a = 0 := by
      unfold Builtin.Int.intBits
      by_cases hz : a = 0
      · exact .inr hz
      · have hz' : (a == 0) = false := by simpa using hz
        rw [hz']
        left; simp
    rcases ha1 with h | h
    · lia
    · subst h; simp
  · have hm4 : 4000 < m := by
      have := intBits_le c3 ha2
      lia
    obtain ⟨rfl, _⟩ := hg (by lia)
    have hand : bnop .BitAnd (.int m) (.int 1) = some (.int ((m % 2 : Nat) : Int)) := by
      show some (PV.int _) = _
      rw [show (1 : Int) = 2 ^ 1 - 1 by decide, bitAnd_mask (by lia)]
      congr 2
    have ht : evt (C2 o (div3S 4000)) n3.1 19 (rho0 ["a", "b", "n"] [.int a, .int b, .int m]) (.Compare (.BinOp (.Call (.Attribute (.Name "a" ⟨7, 7, 7, 8⟩) "bit_length" ⟨7, 7, 7, 19⟩) [] [] ⟨7, 7, 7, 21⟩) .Sub (.Name "n" ⟨7, 24, 7, 25⟩) ⟨7, 7, 7, 25⟩) [.LtE] [.Name "_DIV_LIMIT" ⟨7, 29, 7, 39⟩] ⟨7, 7, 7, 39⟩) (false, rho0 ["a", "b", "n"] [.int a, .int b, .int m]) :=
      t_pure (e_cmp (e_bin (e_meth rfl rfl (e_name rfl rfl) evs_nil rfl) (e_name rfl rfl) rfl) (e_glob rfl rfl rfl rfl) (show _ = some false from congrArg some (decide_eq_false hcase)) rfl)
    refine run_ex rfl (g_cons (x_exec rfl (x_if ht rfl)) ?_)
    refine g_cons (x_exec rfl (x_name (by decide) rfl (m_pure (e_bin (e_name rfl rfl) e_int hand) rfl))) ?_
    have h2 : (2 : Int) ^ m = 2 * 2 ^ (m - 1) := by
      rw [show m = (m - 1) + 1 by lia, Int.pow_succ, Nat.add_sub_cancel, Int.mul_comm]
    rcases Nat.mod_two_eq_zero_or_one m with hm | hm
    · rw [hm]
      have e : m = m / 2 + m / 2 := by lia
      refine g_cons (x_exec rfl (x_if (t_int (i := 0) (b := false) (e_name rfl rfl) rfl) rfl)) ?_
      have := half_run (o := o) (a := a) (b := b) (h := m / 2) (pad := 0) (by lia) (by lia) (.inl rfl) (by rw [← e]; exact c1) (by rw [← e]; exact c2) c3 (by rw [← e]; exact c4)
        (ρ := (rho0 ["a", "b", "n"] [.int a, .int b, .int m]).set "pad" (.imm (.int 0))) rfl rfl (by rw [← e]; rfl) rfl rfl
      rw [if_pos rfl] at this
      exact this
    · rw [hm]
      have e : m + 1 = (m + 1) / 2 + (m + 1) / 2 := by lia
      have hp1 : (2 : Int) ^ (m + 1) = 2 ^ m * 2 := Int.pow_succ ..
      have hadd : inop .Add (.int m) (.int 1) = some (.int ((m + 1 : Nat) : Int)) := rfl
      refine g_cons (x_exec rfl (x_if (t_int (i := 1) (b := true) (e_name rfl rfl) rfl) (x_cons (x_exec rfl (x_aug rfl rfl e_int (shl1 c3 ha2 (by lia)))) (x_cons (x_exec rfl (x_aug rfl rfl e_int (shl1 (by lia) c2 (by lia)))) (x_cons (x_exec rfl (x_aug rfl rfl e_int hadd)) rfl))))) ?_
      have := half_run (o := o) (a := a * 2) (b := b * 2) (h := (m + 1) / 2) (pad := 1) (by lia) (by lia) (.inr rfl) (by rw [← e, Nat.add_sub_cancel]; lia) (by rw [← e]; lia) (by lia)
        (by rw [← e, hp1, ← Int.mul_assoc, Int.mul_comm b 2, Int.mul_assoc 2 b]; lia)
        (ρ := ((((rho0 ["a", "b", "n"] [.int a, .int b, .int m]).set "pad" (.imm (.int 1))).set "a" (.imm (.int (a * 2)))).set "b" (.imm (.int (b * 2)))).set "n" (.imm (.int ((m + 1 : Nat) : Int)))) rfl rfl (by rw [← e]; rfl) rfl rfl
      rw [if_neg (by decide)] at this
      have q1 : a * 2 / (b * 2) = a / b := Int.mul_ediv_mul_of_pos_left a b (by decide)
      have q2 : a * 2 % (b * 2) / 2 = a % b := by
        have := Int.emod_add_mul_ediv (a * 2) (b * 2)
        rw [q1] at this
        have h3 := Int.emod_add_mul_ediv a b
        rw [Int.mul_comm b 2, Int.mul_assoc] at this
        rw [Int.mul_comm b 2]
        lia
      rw [q1, q2] at this
      exact this
end Nw

namespace Nw
set_option tactic.hygienic false

/-! plain values that may be compared -/
mutual
noncomputable def wf : Nat → PV → Bool
  | _, .none => true
  | _, .bool _ => true
  | _, .int _ => true
  | _, .str x => PyData.strOk x
  | 0, .tup _ => false
  | 0, .list _ => false
  | d + 1, .tup xs => wfs d xs
  | d + 1, .list xs => wfs d xs
  | _, .rng _ _ => false
  | _, .qn _ => false
noncomputable def wfs : Nat → List PV → Bool
  | _, [] => true
  | d, x :: xs => wf d x && wfs d xs
end
mutual
theorem wf_spec : ∀ (d : Nat) (p : PV), wf d p = true → isData p = true ∧ (toPy p).canLay0 = true ∧ (toPy p).depth ≤ d
  | _, .none, _ => ⟨rfl, rfl, Nat.zero_le _⟩
  | _, .bool _, _ => ⟨rfl, rfl, Nat.zero_le _⟩
  | _, .int _, _ => ⟨rfl, rfl, Nat.zero_le _⟩
  | _, .str x, h => ⟨rfl, by simpa [wf, toPy, PyData.canLay0] using h, Nat.zero_le _⟩
  | 0, .tup _, h => by simp [wf] at h
  | 0, .list _, h => by simp [wf] at h
  | d + 1, .tup xs, h => by
    obtain ⟨h1, h2, h3⟩ := wfs_spec d xs (by simpa [wf] using h)
    exact ⟨by simpa [isData] using h1, by simpa [toPy, PyData.canLay0] using h2, by simpa [toPy, PyData.depth] using h3⟩
  | d + 1, .list xs, h => by
    obtain ⟨h1, h2, h3⟩ := wfs_spec d xs (by simpa [wf] using h)
    exact ⟨by simpa [isData] using h1, by simpa [toPy, PyData.canLay0] using h2, by simpa [toPy, PyData.depth] using h3⟩
  | _, .rng _ _, h => by simp [wf] at h
  | _, .qn _, h => by simp [wf] at h
theorem wfs_spec : ∀ (d : Nat) (ps : List PV), wfs d ps = true → isDatas ps = true ∧ PyData.canLayAll0 (toPys ps) = true ∧ PyData.depthAll (toPys ps) ≤ d
  | _, [], _ => ⟨rfl, rfl, Nat.zero_le _⟩
  | d, p :: ps, h => by
    simp only [wfs, Bool.and_eq_true] at h
    obtain ⟨a1, a2, a3⟩ := wf_spec d p h.1
    obtain ⟨b1, b2, b3⟩ := wfs_spec d ps h.2
    exact ⟨by simp [isDatas, a1, b1], by simp [toPys, PyData.canLayAll0, a2, b2], by simp [toPys, PyData.depthAll]; lia⟩
end
theorem wfs_map {α : Type} {d : Nat} {f : α → PV} : ∀ {l : List α}, (∀ a ∈ l, wf d (f a) = true) → wfs d (l.map f) = true
  | [], _ => by simp [wfs]
  | a :: l, h => by
    simp only [List.map_cons, wfs, Bool.and_eq_true]
    exact ⟨h a (.head _), wfs_map fun b hb => h b (.tail _ hb)⟩
theorem shaped_wf {d : Nat} {p : PV} (h : wf d p = true) (hd : d ≤ 64) : isData p = true ∧ SeqAt.shaped (toPy p) = true := by
  obtain ⟨h1, h2, h3⟩ := wf_spec d p h
  refine ⟨h1, ?_⟩
  unfold SeqAt.shaped
  rw [h2]
  simp; lia
theorem eqOk_wf {d e : Nat} {a b : PV} (ha : wf d a = true) (hb : wf e b = true) (hd : d ≤ 64) (he : e ≤ 64) : eqOk a b = true := by
  obtain ⟨h1, h2⟩ := shaped_wf ha hd
  obtain ⟨h3, h4⟩ := shaped_wf hb he
  unfold eqOk
  rw [h1, h2, h3, h4]; rfl
theorem eqv_self {d : Nat} {a : PV} (ha : wf d a = true) : eqvPV a a = true := SeqAt.eqv_refl _ (wf_spec d a ha).2.1

theorem cmp_list_ne {c : Cfg} {xs ys : List PV} {b : Bool} (ha : wf 9 (.list xs) = true) (hb : wf 9 (.list ys) = true) (e : (!eqvPV (.list xs) (.list ys)) = b) : c.cmp .NotEq (.list xs) (.list ys) = some b := by
  unfold Cfg.cmp
  rw [show cmpPV .NotEq (.list xs) (.list ys) = some b from by
    show (if _ then _ else _) = _
    rw [if_pos (eqOk_wf ha hb (by decide) (by decide)), e]]; rfl
theorem cmp_tup_ne {c : Cfg} {xs ys : List PV} {b : Bool} (ha : wf 9 (.tup xs) = true) (hb : wf 9 (.tup ys) = true) (e : (!eqvPV (.tup xs) (.tup ys)) = b) : c.cmp .NotEq (.tup xs) (.tup ys) = some b := by
  unfold Cfg.cmp
  rw [show cmpPV .NotEq (.tup xs) (.tup ys) = some b from by
    show (if _ then _ else _) = _
    rw [if_pos (eqOk_wf ha hb (by decide) (by decide)), e]]; rfl
theorem cmp_list_eq {c : Cfg} {xs ys : List PV} {b : Bool} (ha : wf 9 (.list xs) = true) (hb : wf 9 (.list ys) = true) (e : eqvPV (.list xs) (.list ys) = b) : c.cmp .Eq (.list xs) (.list ys) = some b := by
  unfold Cfg.cmp
  rw [show cmpPV .Eq (.list xs) (.list ys) = some b from by
    show (if _ then _ else _) = _
    rw [if_pos (eqOk_wf ha hb (by decide) (by decide)), e]]; rfl

noncomputable abbrev intsPV (xs : List Int) : List PV := xs.map .int
theorem eqvAll_ints : ∀ (xs ys : List Int), PyData.eqvAll (toPys (intsPV xs)) (toPys (intsPV ys)) = decide (xs = ys)
  | [], [] => by simp [toPys, PyData.eqvAll]
  | [], _ :: _ => by simp [toPys, PyData.eqvAll]
  | _ :: _, [] => by simp [toPys, PyData.eqvAll]
  | x :: xs, y :: ys => by
    simp only [List.map_cons, toPys, toPy, PyData.eqvAll, PyData.eqv, eqvAll_ints xs ys]
    by_cases h : x = y <;> by_cases h2 : xs = ys <;> simp [h, h2]
theorem eqv_ints (xs ys : List Int) : eqvPV (.list (intsPV xs)) (.list (intsPV ys)) = decide (xs = ys) := by
  unfold eqvPV
  simp only [toPy, PyData.eqv]
  exact eqvAll_ints xs ys
theorem wf_ints (xs : List Int) : wf 9 (.list (intsPV xs)) = true := wfs_map fun _ _ => rfl
end Nw

namespace Nw
set_option tactic.hygienic false

theorem items_rng0 {n : Int} {m : Nat} (h : n = (m : Int)) (hm : m < 2 ^ 30) : itemsPV (.rng 0 n) = some ((List.range m).map fun (k : Nat) => PV.int k) := by
  subst h
  unfold itemsPV
  dsimp only
  rw [if_pos ⟨by lia, by lia⟩]
  simp
theorem items_rng {a n : Int} {l m : Nat} (ha : a = (l : Int)) (h : n = (m : Int)) (hl : l < 2 ^ 30) (hm : m < 2 ^ 30) : itemsPV (.rng a n) = some ((List.range (m - l)).map fun (k : Nat) => PV.int ((l + k : Nat) : Int)) := by
  subst h ha
  unfold itemsPV
  dsimp only
  rw [if_pos ⟨by lia, by lia⟩]
  rw [show ((m : Int) - (l : Int)).toNat = m - l by lia]
  simp

/-- the share, cut off, tells how far north -/
theorem heights_math {u n P k : Int} (hn : 0 < n) (hn2 : n ≤ 10) (hP : 100 ≤ P) (hk : 0 ≤ k) (hkn : k ≤ n) : k * ((u * P - 1) / n + 1) / P = k * u / n := by
  generalize hc : (u * P - 1) / n + 1 = c
  have e1 := Int.emod_add_mul_ediv (u * P - 1) n
  have m0 := Int.emod_nonneg (u * P - 1) (show n ≠ 0 by lia)
  have m1 := Int.emod_lt_of_pos (u * P - 1) hn
  rw [show (u * P - 1) / n = c - 1 by lia, Int.mul_sub] at e1
  -- n c = u P + e
  generalize (u * P - 1) % n = e at e1 m0 m1
  have e2 := Int.emod_add_mul_ediv (k * u) n
  have g0 := Int.emod_nonneg (k * u) (show n ≠ 0 by lia)
  have g1 := Int.emod_lt_of_pos (k * u) hn
  generalize k * u / n = f at e2 ⊢
  generalize k * u % n = g at e2 g0 g1
  have hP0 : 0 < P := by lia
  -- d = k c - f P
  have key : n * (k * c - f * P) = g * P + k * (n * c - u * P) := by
    rw [Int.mul_sub, Int.mul_sub, ← Int.mul_assoc k u P, ← e2, Int.add_mul, Int.mul_left_comm n k c, Int.mul_assoc n f P]
    lia
  have he : n * c - u * P = n - 1 - e := by lia
  rw [he] at key
  have b1 : 0 ≤ k * (n - 1 - e) := Int.mul_nonneg hk (by lia)
  have b2 : k * (n - 1 - e) ≤ n * (n - 1 - e) := Int.mul_le_mul_of_nonneg_right hkn (by lia)
  have b3 : n * (n - 1 - e) ≤ 10 * (n - 1 - e) := Int.mul_le_mul_of_nonneg_right hn2 (by lia)
  have b4 : 0 ≤ g * P := Int.mul_nonneg g0 (by lia)
  have b5 : (g + 1) * P ≤ n * P := Int.mul_le_mul_of_nonneg_right (by lia) (by lia)
  rw [Int.add_mul] at b5
  have d0 : 0 ≤ k * c - f * P := by
    by_cases h : 0 ≤ k * c - f * P
    · exact h
    · have : n * (k * c - f * P) ≤ n * (-1) := Int.mul_le_mul_of_nonneg_left (by lia) (by lia)
      lia
  have d1 : k * c - f * P < P := by
    by_cases h : k * c - f * P < P
    · exact h
    · have : n * P ≤ n * (k * c - f * P) := Int.mul_le_mul_of_nonneg_left (by lia) (by lia)
      lia
  exact (quot_of hP0 (q := f) (r := k * c - f * P) (by lia) d0 d1).1

noncomputable def htList (u n : Nat) : List Int := (List.range (n + 1)).map fun k => ((k * u / n : Nat) : Int)
noncomputable def htS : Rel := fun ps r => ∃ u n p : Nat, ps = [.int u, .int n, .int p] ∧ (u ≤ n ∧ 1 ≤ n ∧ n ≤ 10 ∧ 7 ≤ p ∧ p ≤ 7906) ∧ r = .list (intsPV (htList u n))

noncomputable abbrev CH (o : O1) : CfgS := (o.orc [("range", ofF rangePV), ("_div3n2n", div3S 7999)]).cfg

/-- the call of the division -/
theorem heights_call {u n p : Nat} (hu : 0 < u) (hun : u ≤ n) (hn : n ≤ 10) (hp : 7 ≤ p) (hp2 : p ≤ 7906) {T : Int} (hT : T = 2 ^ p * (2 ^ (p - 1) + 2 ^ (p / 2)) - 1) :
    (2 : Int) ^ (p + p - 1) ≤ n * (T / n) ∧ (n : Int) * (T / n) < 2 ^ (p + p) ∧ 0 ≤ T / n ∧ T / n ≤ T ∧ T < 2 ^ (p + p) ∧ 0 ≤ ((u : Int) * 2 ^ p - 1) * (T / n) ∧ ((u : Int) * 2 ^ p - 1) * (T / n) < n * (T / n) * 2 ^ p ∧ ((u : Int) * 2 ^ p - 1) * (T / n) / (n * (T / n)) = ((u : Int) * 2 ^ p - 1) / n := by
  have hP : (0 : Int) < 2 ^ p := Int.pow_pos (by decide)
  have hp2' : (2 : Int) ^ p = 2 * 2 ^ (p - 1) := by rw [show p = (p - 1) + 1 by lia, Int.pow_succ, Nat.add_sub_cancel, Int.mul_comm]
  have hH : (8 : Int) ≤ 2 ^ (p / 2) := by
    have : ((2 ^ 3 : Nat) : Int) ≤ ((2 ^ (p / 2) : Nat) : Int) := Int.ofNat_le.mpr (Nat.pow_le_pow_right (by decide) (by lia))
    push_cast at this
    lia
  have hH2 : (2 : Int) ^ (p / 2) ≤ 2 ^ (p - 1) := by
    have : ((2 ^ (p / 2) : Nat) : Int) ≤ ((2 ^ (p - 1) : Nat) : Int) := Int.ofNat_le.mpr (Nat.pow_le_pow_right (by decide) (by lia))
    push_cast at this
    lia
  have hPb : (128 : Int) ≤ 2 ^ p := by
    have : ((2 ^ 7 : Nat) : Int) ≤ ((2 ^ p : Nat) : Int) := Int.ofNat_le.mpr (Nat.pow_le_pow_right (by decide) hp)
    push_cast at this
    lia
  have e1 : (2 : Int) ^ p * 2 ^ (p - 1) = 2 ^ (p + p - 1) := by rw [← Int.pow_add]; congr 1; lia
  have e2 : (2 : Int) ^ p * 2 ^ p = 2 ^ (p + p) := by rw [← Int.pow_add]
  rw [Int.mul_add, e1] at hT
  have g1 : 2 ^ p * 8 ≤ (2 : Int) ^ p * 2 ^ (p / 2) := Int.mul_le_mul_of_nonneg_left hH (by lia)
  have g2 : (2 : Int) ^ p * 2 ^ (p / 2) ≤ 2 ^ p * 2 ^ (p - 1) := Int.mul_le_mul_of_nonneg_left hH2 (by lia)
  rw [e1] at g2
  have e3 : (2 : Int) ^ (p + p) = 2 * 2 ^ (p + p - 1) := by rw [show p + p = (p + p - 1) + 1 by lia, Int.pow_succ, Nat.add_sub_cancel, Int.mul_comm]
  have hn0 : (0 : Int) < n := by lia
  have m0 := Int.emod_nonneg T (show (n : Int) ≠ 0 by lia)
  have m1 := Int.emod_lt_of_pos T hn0
  have me := Int.emod_add_mul_ediv T n
  have pp : (0 : Int) < 2 ^ (p + p - 1) := Int.pow_pos (by decide)
  have f0 : 0 ≤ T / n := Int.ediv_nonneg (by lia) (by lia)
  have f1 : T / n ≤ T := Int.ediv_le_self _ (by lia)
  have f2 : 0 < T / n := by
    by_cases h : 0 < T / n
    · exact h
    · have : T / n = 0 := by lia
      rw [this] at me
      lia
  have u1 : (1 : Int) * 2 ^ p ≤ u * 2 ^ p := Int.mul_le_mul_of_nonneg_right (by lia) (by lia)
  have u2 : (u : Int) * 2 ^ p ≤ n * 2 ^ p := Int.mul_le_mul_of_nonneg_right (by lia) (by lia)
  refine ⟨by lia, by lia, f0, f1, by lia, Int.mul_nonneg (by lia) f0, ?_, ?_⟩
  · have : ((u : Int) * 2 ^ p - 1) * (T / n) < (n * 2 ^ p) * (T / n) := Int.mul_lt_mul_of_pos_right (by lia) f2
    rw [Int.mul_assoc] at this
    rw [Int.mul_assoc, Int.mul_comm (T / n)]
    exact this
  · exact Int.mul_ediv_mul_of_pos_left _ _ f2
theorem le_of_pow {p l : Nat} (h : p ≤ l) : ((2 : Int) ^ p) ≤ 2 ^ l := by
  have : ((2 ^ p : Nat) : Int) ≤ ((2 ^ l : Nat) : Int) := Int.ofNat_le.mpr (Nat.pow_le_pow_right (by decide) h)
  push_cast at this
  lia

set_option maxHeartbeats 8000000 in
theorem heights_run {o : O1} : ∀ ps r, htS ps r → runFn (CH o) n13.1 20 ["ups", "size", "places"] b13.1 ps r := by
  rintro ps r ⟨u, n, p, rfl, ⟨hun, hn1, hn, hp, hp2⟩, rfl⟩
  have hu : (0 : Int) ≤ u := Int.natCast_nonneg u
  have hP : (0 : Int) < 2 ^ p := Int.pow_pos (by decide)
  have hPb : (128 : Int) ≤ 2 ^ p := le_of_pow (p := 7) (l := p) (by lia)
  have s1 : bnop .Pow (.int 2) (.int p) = some (.int (2 ^ p)) := by
    rw [bnop_pow (m := 2) (by lia) (by decide) (by lia), Int.toNat_natCast]
  unfold b13 n13
  have out : ∀ (ρ : Rho) (c : Int), ρ "share" = some (.imm (.int c)) → ρ "power" = some (.imm (.int (2 ^ p))) → ρ "size" = some (.imm (.int n)) → ρ "range" = none → 0 ≤ c → c < 2 ^ (p + 5) → (∀ k : Nat, k ≤ n → (k : Int) * c / 2 ^ p = (k * u / n : Nat)) →
      ∃ ρ', execs (exec (CH o) n13.1 20) (b13.1.drop 3) ρ (ρ', .ret (.list (intsPV (htList u n)))) := by
    intro ρ c h1 h2 h3 h4 hc0 hc1 hk
    unfold b13 n13
    refine g_ret (x_exec rfl (x_return (m_pure (e_comp (items := (List.range (n + 1)).map fun (k : Nat) => PV.int k) rfl (e_call1 (fgl rfl h4) rfl (e_bin (e_name h3 rfl) e_int rfl) rfl) (items_rng0 (by lia) (by lia)) ?_ ?_) rfl)))
    · have e : intsPV (htList u n) = (List.range (n + 1)).map fun (k : Nat) => PV.int ((k : Int) * c / 2 ^ p) := by
        unfold intsPV htList
        rw [List.map_map]
        refine List.map_congr_left fun k hk' => ?_
        rw [List.mem_range] at hk'
        show PV.int _ = PV.int _
        rw [hk k (by lia)]
      rw [e]
      refine comp1_map fun k hk' => ?_
      rw [List.mem_range] at hk'
      have m1 : bnop .Mult (.int k) (.int c) = some (.int (k * c)) := bnop_mul (m := 4) (l := p + 5) (by lia) (by lia) hc0 hc1 (by lia)
      have m2 : bnop .FloorDiv (.int (k * c)) (.int (2 ^ p)) = some (.int (k * c / 2 ^ p)) := by
        rw [bnop_div (by lia) (pylong_small ?_), Int.fdiv_eq_ediv_of_nonneg _ (by lia)]
        have := log2_le (a := 2 ^ p) (m := p + 1) (by lia) (by rw [Int.pow_succ]; lia) (by lia)
        lia
      exact ⟨_, rfl, e_bin (e_bin (e_name rfl rfl) (e_name h1 rfl) m1) (e_name h2 rfl) m2⟩
    · unfold intsPV htList
      rw [List.length_map, List.length_map, List.length_range, sizeLine_eq]
      lia
  refine run_ex rfl (g_cons (x_exec rfl (x_name (by decide) rfl (m_pure (e_bin e_int (e_name rfl rfl) s1) rfl))) ?_)
  refine g_cons (x_exec rfl (x_name (by decide) rfl (m_pure e_int rfl))) ?_
  by_cases hz : u = 0
  · subst hz
    refine g_cons (x_exec rfl (x_if (t_pure (e_cmp (e_name rfl rfl) e_int (show _ = some false from rfl) rfl)) rfl)) ?_
    exact out _ 0 rfl rfl rfl rfl (by lia) (Int.pow_pos (by decide)) (fun k hk => by simp)
  · obtain ⟨c1, c2, c3, c4, c5, c6, c7, c8⟩ := heights_call (u := u) (n := n) (p := p) (by lia) (by lia) (by lia) (by lia) (by lia) rfl
    generalize hT : (2 : Int) ^ p * (2 ^ (p - 1) + 2 ^ (p / 2)) - 1 = T at *
    generalize hf : T / n = f at *
    generalize hw : ((u : Int) * 2 ^ p - 1) * f = w at *
    generalize hd : (n : Int) * f = d at *
    have hp2' : (2 : Int) ^ p = 2 * 2 ^ (p - 1) := by rw [show p = (p - 1) + 1 by lia, Int.pow_succ, Nat.add_sub_cancel, Int.mul_comm]
    have pp : (0 : Int) < 2 ^ (p + p - 1) := Int.pow_pos (by decide)
    have hH2 : (2 : Int) ^ (p / 2) ≤ 2 ^ (p - 1) := le_of_pow (by lia)
    have hH0 : (0 : Int) < 2 ^ (p / 2) := Int.pow_pos (by decide)
    have hd0 : 0 < d := by lia
    have q0 := Int.ediv_nonneg c6 (Int.le_of_lt hd0)
    have r0 := Int.emod_nonneg w (show d ≠ 0 by lia)
    have r1 := Int.emod_lt_of_pos w hd0
    have re := Int.emod_add_mul_ediv w d
    have D2 : bnop .FloorDiv (.int (2 ^ p)) (.int 2) = some (.int (2 ^ (p - 1))) := by
      rw [bnop_div (by decide) (pylong_small (by decide)), Int.fdiv_eq_ediv_of_nonneg _ (by decide), show (2 : Int) ^ p / 2 = 2 ^ (p - 1) by lia]
    have D3 : bnop .FloorDiv (.int p) (.int 2) = some (.int ((p / 2 : Nat) : Int)) := by
      rw [bnop_div (by decide) (pylong_small (by decide)), Int.fdiv_eq_ediv_of_nonneg _ (by decide), show ((p : Int) / 2) = ((p / 2 : Nat) : Int) by lia]
    have P2 : bnop .Pow (.int 2) (.int ((p / 2 : Nat) : Int)) = some (.int (2 ^ (p / 2))) := by
      rw [bnop_pow (m := 2) (by lia) (by decide) (by lia), Int.toNat_natCast]
    have M1 : bnop .Mult (.int (2 ^ p)) (.int (2 ^ (p - 1) + 2 ^ (p / 2))) = some (.int (2 ^ p * (2 ^ (p - 1) + 2 ^ (p / 2)))) :=
      bnop_mul (m := p + 1) (l := p + 1) (by lia) (by rw [Int.pow_succ]; lia) (by lia) (by rw [Int.pow_succ]; lia) (by lia)
    have S1 : bnop .Sub (.int (2 ^ p * (2 ^ (p - 1) + 2 ^ (p / 2)))) (.int 1) = some (.int T) := by
      show some (PV.int _) = _
      rw [hT]
    have D4 : bnop .FloorDiv (.int T) (.int n) = some (.int f) := by
      rw [bnop_div (by lia) (pylong_small ?_), Int.fdiv_eq_ediv_of_nonneg _ (by lia), hf]
      have := log2_le (a := n) (m := 4) (by lia) (by lia) (by lia)
      lia
    have u2 : (u : Int) * 2 ^ p ≤ 10 * 2 ^ p := Int.mul_le_mul_of_nonneg_right (by lia) (by lia)
    have u1 : (1 : Int) * 2 ^ p ≤ u * 2 ^ p := Int.mul_le_mul_of_nonneg_right (by lia) (by lia)
    have hp5 : (2 : Int) ^ (p + 5) = 32 * 2 ^ p := by rw [Int.pow_add, Int.mul_comm]; rfl
    have M2 : bnop .Mult (.int u) (.int (2 ^ p)) = some (.int (u * 2 ^ p)) := bnop_mul (m := 4) (l := p + 1) (by lia) (by lia) (by lia) (by rw [Int.pow_succ]; lia) (by lia)
    have M3 : bnop .Mult (.int (u * 2 ^ p - 1)) (.int f) = some (.int w) := by
      rw [bnop_mul (m := p + 5) (l := p + p) (by lia) (by lia) c3 (by lia) (by lia), hw]
    have M4 : bnop .Mult (.int n) (.int f) = some (.int d) := by
      rw [bnop_mul (m := 4) (l := p + p) (by lia) (by lia) c3 (by lia) (by lia), hd]
    have N1 : bnop .Mod (.int w) (.int (2 ^ p)) = some (.int (w % 2 ^ p)) := by rw [bnop_mod (by lia), Int.fmod_eq_emod_of_nonneg _ (by lia)]
    have N2 : bnop .Mod (.int d) (.int (2 ^ p)) = some (.int (d % 2 ^ p)) := by rw [bnop_mod (by lia), Int.fmod_eq_emod_of_nonneg _ (by lia)]
    have hq : w / d = ((u : Int) * 2 ^ p - 1) / n := c8
    have qb : w / d < 2 ^ (p + 4) := by
      rw [hq]
      have := Int.ediv_le_self (n : Int) (show 0 ≤ (u : Int) * 2 ^ p - 1 by lia)
      rw [Int.pow_add]
      lia
    have M5 : bnop .Mult (.int (w / d)) (.int d) = some (.int (w / d * d)) := bnop_mul (m := p + 4) (l := p + p) q0 qb (by lia) (by lia) (by lia)
    have S2 : bnop .Sub (.int w) (.int (w / d * d)) = some (.int (w % d)) := by
      show some (PV.int _) = _
      rw [show w - w / d * d = w % d by rw [Int.mul_comm]; lia]
    have D5 : bnop .FloorDiv (.int (w % d)) (.int d) = some (.int 0) := by
      rw [bnop_div (by lia) (pylong_near ?_ (by lia)), Int.fdiv_eq_ediv_of_nonneg _ (by lia), Int.ediv_eq_zero_of_lt r0 r1]
      have h1 := log2_le (a := w % d) (m := p + p) r0 (by lia) (by lia)
      have h2 := log2_ge (a := d) (m := p + p - 1) c1
      lia
    have D : div3S 7999 [.int (w / 2 ^ p), .int (w % 2 ^ p), .int d, .int (d / 2 ^ p), .int (d % 2 ^ p), .int p] (.tup [.int (w / d), .int (w % d)]) :=
      div3S_val (x := w) rfl (by lia) (by lia) (Int.emod_nonneg w (by lia)) (Int.emod_lt_of_pos w hP) (Int.emod_nonneg d (by lia)) (Int.emod_lt_of_pos d hP)
        (le_ediv_pow (by rw [show p - 1 + p = p + p - 1 by lia]; exact c1)) (ediv_lt_pow c2) (by rw [Int.mul_comm]; have := Int.emod_add_mul_ediv d (2 ^ p); lia)
        (Int.ediv_nonneg c6 (by lia)) (Int.ediv_lt_of_lt_mul hP c7) (by rw [Int.mul_comm]; have := Int.emod_add_mul_ediv w (2 ^ p); lia) rfl rfl
    refine' g_cons (x_exec rfl (x_if (t_pure (e_cmp (e_name rfl rfl) e_int (show _ = some true from congrArg some (decide_eq_true (by lia))) rfl)) ?_)) ?_
    rotate_left
    · refine x_cons (x_exec rfl (x_name (by decide) rfl (m_pure (e_bin (e_bin (e_bin (e_name rfl rfl) (e_bin (e_bin (e_name rfl rfl) e_int D2) (e_bin e_int (e_bin (e_name rfl rfl) e_int D3) P2) rfl) M1) e_int S1) (e_name rfl rfl) D4) rfl))) ?_
      refine x_cons (x_exec rfl (x_name (by decide) rfl (m_pure (e_bin (e_bin (e_bin (e_name rfl rfl) (e_name rfl rfl) M2) e_int rfl) (e_name rfl rfl) M3) rfl))) ?_
      refine x_cons (x_exec rfl (x_name (by decide) rfl (m_pure (e_bin (e_name rfl rfl) (e_name rfl rfl) M4) rfl))) ?_
      refine x_cons (x_exec rfl (x_name (by decide) rfl (m_pure (e_call rfl (evs_cons (e_bin (e_name rfl rfl) (e_name rfl rfl) (shr_pow rfl)) (evs_cons (e_bin (e_name rfl rfl) (e_name rfl rfl) N1) (evs_cons (e_name rfl rfl) (evs_cons (e_bin (e_name rfl rfl) (e_name rfl rfl) (shr_pow rfl)) (evs_cons (e_bin (e_name rfl rfl) (e_name rfl rfl) N2) (evs_cons (e_name rfl rfl) evs_nil)))))) D) rfl))) ?_
      refine x_cons (x_exec rfl (x_if (t_pure (e_or (p := false) (q := false) (e_cmp (e_name rfl rfl) (e_tup (evs_cons (e_sub rfl (e_name rfl rfl) e_int rfl) (evs_cons (e_bin (e_name rfl rfl) (e_bin (e_sub rfl (e_name rfl rfl) e_int rfl) (e_name rfl rfl) M5) S2) evs_nil)) (sz rfl rfl)) (cmp_tup_ne rfl rfl (by rw [eqv_self (d := 9) rfl]; rfl)) rfl)
        (fun _ => e_cmp (e_bin (e_sub rfl (e_name rfl rfl) e_int rfl) (e_name rfl rfl) D5) e_int (show _ = some false from rfl) rfl))) rfl)) ?_
      exact x_cons (x_exec rfl (x_name (by decide) rfl (m_pure (e_bin (e_sub rfl (e_name rfl rfl) e_int rfl) e_int rfl) rfl))) rfl
    · refine out _ (w / d + 1) rfl rfl rfl rfl (by lia) ?_ (fun k hk => ?_)
      · rw [hp5]; rw [Int.pow_add] at qb; lia
      · rw [hq, heights_math (by lia) (by lia) (by lia) (by lia) (by lia)]
        push_cast; rfl
end Nw

namespace Nw
set_option tactic.hygienic false

/-! ways as texts -/
noncomputable def E (u v : Nat) (bs : List Bool) : Str := ⟨(bs.map fun b => if b then v else u).toArray⟩
section
variable {u v : Nat}
theorem E_cps (bs : List Bool) : (E u v bs).cps.toList = bs.map fun b => if b then v else u := rfl
theorem E_len (bs : List Bool) : (E u v bs).length = bs.length := by simp [E, Str.length]
theorem E_drop (bs : List Bool) (k : Nat) : (⟨((E u v bs).cps.toList.drop k).toArray⟩ : Str) = E u v (bs.drop k) := by
  rw [E_cps, ← List.map_drop]; rfl
theorem E_take (bs : List Bool) (k : Nat) : (⟨((E u v bs).cps.toList.take k).toArray⟩ : Str) = E u v (bs.take k) := by
  rw [E_cps, ← List.map_take]; rfl
theorem E_beq (h : u ≠ v) : ∀ (xs ys : List Bool), ((E u v xs).cps.toList == (E u v ys).cps.toList) = (xs == ys)
  | [], [] => rfl
  | [], _ :: _ => rfl
  | _ :: _, [] => rfl
  | x :: xs, y :: ys => by
    have := E_beq h xs ys
    rw [E_cps, E_cps] at this
    rw [E_cps, E_cps]
    simp only [List.map_cons, List.cons_beq_cons]
    rw [this]
    congr 1
    cases x <;> cases y <;> simp [h, Ne.symm h]
noncomputable def ltB : List Bool → List Bool → Bool
  | [], [] => false
  | [], _ :: _ => true
  | _ :: _, [] => false
  | a :: xs, b :: ys => (!a && b) || (a == b && ltB xs ys)
theorem lt_map (h : u < v) : ∀ (xs ys : List Bool), decide ((xs.map fun b => if b then v else u) < (ys.map fun b => if b then v else u)) = ltB xs ys
  | [], [] => by simp [ltB]
  | [], _ :: _ => by simp [ltB]
  | _ :: _, [] => by simp [ltB]
  | x :: xs, y :: ys => by
    have ih := lt_map h xs ys
    simp only [List.map_cons, List.cons_lt_cons_iff, ltB]
    rw [Bool.decide_or, Bool.decide_and, ih]
    congr 1
    · cases x <;> cases y <;> simp <;> lia
    · congr 1
      cases x <;> cases y <;> simp <;> lia
theorem E_lt (h : u < v) (xs ys : List Bool) : ltStr (E u v xs) (E u v ys) = ltB xs ys := lt_map h xs ys
theorem lt_pre : ∀ (p xs ys : List Nat), decide (p ++ xs < p ++ ys) = decide (xs < ys)
  | [], _, _ => rfl
  | a :: p, xs, ys => by
    have ih := lt_pre p xs ys
    simp only [List.cons_append, List.cons_lt_cons_iff, Bool.decide_or, Bool.decide_and, ih]
    simp
theorem beq_pre (p xs ys : List Nat) : (p ++ xs == p ++ ys) = (xs == ys) := by
  induction p with
  | nil => rfl
  | cons a p ih => simp only [List.cons_append, List.cons_beq_cons, ih, beq_self_eq_true, Bool.true_and]

/-- the name of a word -/
theorem qn_cps {y z : Str} (h : z.length ≠ 0) : (qnText y z).cps.toList = (Str.ofString "{" ++ y ++ Str.ofString "}").cps.toList ++ z.cps.toList := by
  unfold qnText
  rw [if_neg h]
  exact Array.toList_append ..
theorem qn_lt {y a b : Str} (ha : a.length ≠ 0) (hb : b.length ≠ 0) : ltStr (qnText y a) (qnText y b) = ltStr a b := by
  unfold ltStr
  rw [qn_cps ha, qn_cps hb, lt_pre]
theorem qn_beq {y a b : Str} (ha : a.length ≠ 0) (hb : b.length ≠ 0) : ((qnText y a).cps.toList == (qnText y b).cps.toList) = (a.cps.toList == b.cps.toList) := by
  rw [qn_cps ha, qn_cps hb, beq_pre]

theorem glued_cps : ∀ (l : List Str) (a : Array Nat), (l.foldl (fun acc p => acc ++ (Str.ofString "").cps ++ p.cps) a).toList = a.toList ++ (l.map (·.cps.toList)).flatten
  | [], a => by simp
  | x :: l, a => by
    rw [List.foldl_cons, glued_cps l]
    have : (Str.ofString "").cps = #[] := by decide +kernel
    simp [this]
theorem join_cps (l : List Str) : (Txt.join "" l).cps.toList = (l.map (·.cps.toList)).flatten := by
  cases l with
  | nil => rfl
  | cons x l =>
    show ((l.foldl _ x.cps)).toList = _
    rw [glued_cps]; rfl
theorem str_ext {a b : Str} (h : a.cps.toList = b.cps.toList) : a = b := by
  cases a; cases b
  congr 1
  exact Array.ext' h
theorem E_join (l : List (List Bool)) : Txt.join "" (l.map (E u v)) = E u v l.flatten := by
  apply str_ext
  rw [join_cps, E_cps, List.map_map, List.map_flatten]
  rfl
theorem E_join2 (a b : List Bool) : Txt.join "" [E u v a, E u v b] = E u v (a ++ b) := by
  have := E_join (u := u) (v := v) [a, b]
  simpa using this
theorem E_ok (hu : u < 0x110000) (hv : v < 0x110000) (bs : List Bool) : PyData.strOk (E u v bs) = true := by
  unfold PyData.strOk E
  rw [List.all_toArray, List.all_map, List.all_eq_true]
  intro b _
  cases b <;> simp [hu, hv]
theorem joinOk_small {l : List Str} (h : (l.map (·.length)).sum ≤ 1000000) : JoinOk "" l = true := by
  have key : ∀ (l : List Str) (a : Nat), l.foldl (fun a x => a + x.length + (Str.ofString "").length) a = a + (l.map (·.length)).sum := by
    intro l
    induction l with
    | nil => intro a; simp
    | cons x l ih => intro a; rw [List.foldl_cons, ih]; have : (Str.ofString "").length = 0 := (by decide +kernel); simp only [this, List.map_cons, List.sum_cons]; lia
  unfold JoinOk Builtin.Str.tooLong
  rw [List.foldl_toArray, key, sizeLine_eq]
  simp; lia
open PySem.StrLaws PySem.Builtin PySem.Builtin.Str in
theorem subAt_one (s : Str) (c k : Nat) (hk : k < s.cps.toList.length) : subAt s ⟨#[c]⟩ k = (s.cps.toList[k] == c) := by
  unfold subAt
  have e : s.cps.extract k (k + (⟨#[c]⟩ : Str).length) = #[s.cps.toList[k]] := by
    apply Array.ext'
    rw [Array.toList_extract]
    show (s.cps.toList.drop k).take (k + 1 - k) = _
    rw [List.drop_eq_getElem_cons hk, show k + 1 - k = 1 by lia]
    rfl
  rw [e]
  show (#[s.cps.toList[k]] == #[c]) = _
  by_cases h : s.cps.toList[k] = c
  · rw [h]; simp
  · have h1 : (s.cps.toList[k] == c) = false := by simpa using h
    rw [h1]
    simp
    simpa using h
open PySem.StrLaws PySem.Builtin PySem.Builtin.Str in
theorem occ_one (s : Str) (c n : Nat) (hn : s.cps.toList.length = n) : ∀ (m k : Nat) (found : Array Nat) (free : Nat), k + m = n + 1 → free ≤ k → found.size ≤ k →
    (forIn (List.range' k m) (found, free) (occBody s ⟨#[c]⟩ n (n + 1))).run.fst.size = found.size + (s.cps.toList.drop k).count c
  | 0, k, found, free, h1, h2, h3 => by
    rw [List.drop_eq_nil_of_le (by lia)]
    rfl
  | m + 1, k, found, free, h1, h2, h3 => by
    rw [List.range'_succ, List.forIn_cons]
    unfold occBody
    by_cases hk : k < n
    · have e := List.drop_eq_getElem_cons (l := s.cps.toList) (i := k) (by lia)
      rw [e, List.count_cons, subAt_one s c k (by lia)]
      by_cases hc : (s.cps.toList[k] == c) = true
      · rw [if_pos ⟨⟨⟨by show found.size < n + 1; lia, h2⟩, by show k + 1 ≤ n; lia⟩, hc⟩, hc]
        have := occ_one s c n hn m (k + 1) (found.push k) (k + 1) (by lia) (by lia) (by rw [Array.size_push]; lia)
        rw [Array.size_push] at this
        show (forIn (List.range' (k + 1) m) (found.push k, k + 1) (occBody s ⟨#[c]⟩ n (n + 1))).run.fst.size = _
        rw [this]; simp; lia
      · rw [if_neg (fun h => hc h.2)]
        have := occ_one s c n hn m (k + 1) found free (by lia) (by lia) (by lia)
        show (forIn (List.range' (k + 1) m) (found, free) (occBody s ⟨#[c]⟩ n (n + 1))).run.fst.size = _
        have hc' : (s.cps.toList[k] == c) = false := by simpa using hc
        rw [this, hc']; rfl
    · rw [if_neg (by show ¬(((_ < _ ∧ _ ≤ _) ∧ k + 1 ≤ n) ∧ _); lia)]
      have := occ_one s c n hn m (k + 1) found free (by lia) (by lia) (by lia)
      show (forIn (List.range' (k + 1) m) (found, free) (occBody s ⟨#[c]⟩ n (n + 1))).run.fst.size = _
      rw [this, List.drop_eq_nil_of_le (by lia), List.drop_eq_nil_of_le (by lia)]
theorem count_one (s : Str) (c : Nat) : Txt.count s ⟨#[c]⟩ = ((s.cps.toList.count c : Nat) : Int) := by
  unfold Txt.count
  rw [StrLaws.occ_eq, Array.length_toList]
  have := occ_one s c s.cps.toList.length rfl (s.cps.toList.length + 1) 0 #[] 0 (by lia) (Nat.le_refl _) (Nat.le_refl _)
  have e : s.length = s.cps.toList.length := by simp [Str.length]
  rw [e, Nat.sub_zero, this]
  simp
theorem E_count (h : u ≠ v) (bs : List Bool) (b : Bool) : Txt.count (E u v bs) (E u v [b]) = ((bs.count b : Nat) : Int) := by
  show Txt.count (E u v bs) ⟨#[if b then v else u]⟩ = _
  rw [count_one, E_cps]
  congr 1
  induction bs with
  | nil => rfl
  | cons a bs ih =>
    rw [List.map_cons, List.count_cons, List.count_cons, ih]
    congr 1
    cases a <;> cases b <;> simp [h, Ne.symm h]
end
end Nw

namespace Nw
set_option tactic.hygienic false

theorem minL_mem {α : Type} (lt : α → α → Bool) : ∀ (xs : List α) (x : α), minL lt x xs ∈ x :: xs
  | [], x => by simp [minL]
  | y :: ys, x => by
    unfold minL
    have := minL_mem lt ys (if lt y x then y else x)
    rcases List.mem_cons.mp this with h | h
    · rw [h]; split <;> simp
    · exact .tail _ (.tail _ h)
theorem minL_E {u v : Nat} (h : u < v) : ∀ (xs : List (List Bool)) (x : List Bool), minL ltStr (E u v x) (xs.map (E u v)) = E u v (minL ltB x xs)
  | [], x => rfl
  | y :: ys, x => by
    show minL ltStr (if ltStr (E u v y) (E u v x) then E u v y else E u v x) (ys.map (E u v)) = E u v (minL ltB (if ltB y x then y else x) ys)
    rw [E_lt h, ← minL_E h ys]
    congr 1
    split <;> rfl
theorem strsOf_map {α : Type} (f : α → Str) : ∀ l : List α, strsOf (l.map fun a => PV.str (f a)) = some (l.map f)
  | [] => rfl
  | a :: l => by
    show (strsOf (l.map fun a => PV.str (f a))).map (f a :: ·) = _
    rw [strsOf_map f l]; rfl
noncomputable def minOf : List (List Bool) → List Bool
  | [] => []
  | x :: xs => minL ltB x xs
theorem min_E {u v : Nat} (h : u < v) {l : List (List Bool)} (hl : l ≠ []) : minPV [.list (l.map fun a => PV.str (E u v a))] = some (.str (E u v (minOf l))) := by
  cases l with
  | nil => exact absurd rfl hl
  | cons x xs =>
    unfold minPV; dsimp only
    rw [strsOf_map]
    show some (PV.str (minL ltStr (E u v x) (xs.map (E u v)))) = _
    rw [minL_E h]; rfl
theorem minOf_mem {l : List (List Bool)} (hl : l ≠ []) : minOf l ∈ l := by
  cases l with
  | nil => exact absurd rfl hl
  | cons x xs => exact minL_mem ltB xs x

/-! the words of a way -/
noncomputable def endsFrom (j : Nat) (w : List Bool) : List (List Bool) := (List.range (w.length - j)).map fun k => w.drop (j + k)
noncomputable def partB (w : List Bool) : List Bool := if w.length > 1 then minOf (endsFrom 1 w) else w
noncomputable def cutB (w : List Bool) : List Bool × List Bool := (w.take (w.length - (partB w).length), partB w)
noncomputable def wordsB : Nat → List Bool → List (List Bool × List Bool)
  | 0, _ => []
  | n + 1, way => if way.isEmpty then [] else cutB (minOf (endsFrom 0 way)) :: wordsB n (way.take (way.length - (minOf (endsFrom 0 way)).length))

theorem ends_ne {j : Nat} {w : List Bool} (h : j < w.length) : endsFrom j w ≠ [] := by
  unfold endsFrom
  intro e
  rw [List.map_eq_nil_iff, List.range_eq_nil] at e
  lia
theorem ends_len {j : Nat} {w x : List Bool} (h : x ∈ endsFrom j w) : 0 < x.length ∧ x.length ≤ w.length - j := by
  unfold endsFrom at h
  obtain ⟨k, hk, rfl⟩ := List.mem_map.mp h
  rw [List.mem_range] at hk
  rw [List.length_drop]
  lia
theorem part_len {w : List Bool} (h : 0 < w.length) : 0 < (partB w).length ∧ (partB w).length ≤ w.length := by
  unfold partB
  split
  · rename_i h1
    have := ends_len (minOf_mem (ends_ne (j := 1) h1))
    lia
  · lia

noncomputable def pairW (u v : Nat) (p : List Bool × List Bool) : PV := .tup [.str (E u v p.1), .str (E u v p.2)]

theorem slot_imm {ρ : Rho} {x : Str} {pos : Pos} {p : PV} (h : ρ x = some (.imm p)) : slotOf ρ (.Name x pos) = none := by
  unfold slotOf; dsimp only
  rw [h]
theorem len_E {u v : Nat} {bs : List Bool} (h : bs.length ≤ 1000) : lenPV [.str (E u v bs)] = some (.int bs.length) := by
  unfold lenPV; dsimp only
  rw [if_pos (by rw [E_len]; lia), E_len]
theorem slice_drop {u v : Nat} {bs : List Bool} {k : Nat} (h : bs.length ≤ 1000) (hk : k ≤ bs.length) : slicePV (.str (E u v bs)) (some (k : Int)) none = some (.str (E u v (bs.drop k))) := by
  show (if _ then _ else _) = _
  rw [if_pos ⟨by lia, by rw [E_len]; lia, by rw [E_len, sizeLine_eq]; lia⟩, Int.toNat_natCast, E_drop]
theorem slice_take {u v : Nat} {bs : List Bool} {k : Nat} (h : bs.length ≤ 1000) (hk : k ≤ bs.length) : slicePV (.str (E u v bs)) none (some (k : Int)) = some (.str (E u v (bs.take k))) := by
  show (if _ then _ else _) = _
  rw [if_pos ⟨by lia, by rw [E_len]; lia, by rw [E_len, sizeLine_eq]; lia⟩, Int.toNat_natCast, E_take]

theorem e_lenE {c : Cfg} {n : Nat} {N : Names} {ρ : Rho} {a : Expr} {pn pos : Pos} {u v : Nat} {bs : List Bool} (hf : (okName ("len" : Str) && N.lookup ("len" : Str) == some .globalImplicit && (ρ ("len" : Str)).isNone) = true) (hs : slotOf ρ a = none) (h1 : ev c n N ρ a (.str (E u v bs))) (hc : ∀ ps, c.call "len" ps = ofF lenPV ps) (hb : bs.length ≤ 1000) :
    ev c (n + 1) N ρ (.Call (.Name "len" pn) [a] [] pos) (.int bs.length) := e_call1 hf hs h1 (by rw [hc]; exact len_E hb)

noncomputable abbrev CW (o : O1) : CfgS := (o.orc [("len", ofF lenPV), ("range", ofF rangePV), ("min", ofF minPV)]).cfg


theorem min_ends {u v j : Nat} {w : List Bool} (h : u < v) (hj : j < w.length) : minPV [.list ((List.range (w.length - j)).map fun (k : Nat) => PV.str (E u v (w.drop (j + k))))] = some (.str (E u v (minOf (endsFrom j w)))) := by
  have := min_E h (ends_ne hj)
  unfold endsFrom at this ⊢
  rw [List.map_map] at this
  exact this

theorem min_ends0 {u v : Nat} {w : List Bool} (h : u < v) (hj : 0 < w.length) : minPV [.list ((List.range w.length).map fun (k : Nat) => PV.str (E u v (w.drop k)))] = some (.str (E u v (minOf (endsFrom 0 w)))) := by
  have := min_ends (j := 0) h hj
  simpa using this
theorem E_nonempty {u v : Nat} {bs : List Bool} (h : bs ≠ []) {c : Cfg} : c.cmp .NotEq (.str (E u v bs)) (.str "") = some true := by
  cases bs with
  | nil => exact absurd rfl h
  | cons a bs => rfl
theorem sub_nat {a b : Nat} (h : b ≤ a) : bnop .Sub (.int (a : Int)) (.int (b : Int)) = some (.int ((a - b : Nat) : Int)) := by
  show some (PV.int _) = _
  congr 2
  lia

set_option maxHeartbeats 4000000 in
theorem words_loop {o : O1} {u v : Nat} (huv : u < v) : ∀ (f fuel : Nat) (ρ : Rho) (way : List Bool) (acc : List PV), way.length ≤ f → f < fuel → way.length ≤ 1000 → acc.length + f < 1000 → ρ "words" = some (.lst acc) → ρ "way" = some (.imm (.str (E u v way))) →
    ρ "min" = none → ρ "range" = none → ρ "len" = none →
    ∃ ρ', (∀ t body p, b12.1[1]? = some (.While t body [] p) → whileGo (fun ρ => evt (CW o) n12.1 19 ρ t) (execs (exec (CW o) n12.1 19) body) fuel ρ (ρ', .next)) ∧ ρ' "words" = some (.lst (acc ++ (wordsB f way).map (pairW u v))) := by
  intro f
  induction f with
  | zero =>
    intro fuel ρ way acc h1 h2 h3 h4 hws hw hm hr hl
    obtain ⟨g, rfl⟩ : ∃ g, fuel = g + 1 := ⟨fuel - 1, by lia⟩
    have hnil : way = [] := List.eq_nil_of_length_eq_zero (by lia)
    subst hnil
    refine ⟨ρ, while_all rfl ?_, by simpa [wordsB] using hws⟩
    exact wh_false (t_pure (b := false) (e_cmp (e_name hw rfl) e_str rfl rfl))
  | succ f ih =>
    intro fuel ρ way acc h1 h2 h3 h4 hws hw hm hr hl
    obtain ⟨g, rfl⟩ : ∃ g, fuel = g + 1 := ⟨fuel - 1, by lia⟩
    by_cases hnil : way = []
    · subst hnil
      refine ⟨ρ, while_all rfl ?_, by simpa [wordsB] using hws⟩
      exact wh_false (t_pure (b := false) (e_cmp (e_name hw rfl) e_str rfl rfl))
    · have hpos : 0 < way.length := List.length_pos_iff.mpr hnil
      generalize hword : minOf (endsFrom 0 way) = word
      have wl : 0 < word.length ∧ word.length ≤ way.length - 0 := by rw [← hword]; exact ends_len (minOf_mem (ends_ne hpos))
      have pl := part_len wl.1
      have rest : ∀ ρ2 : Rho, ρ2 "words" = some (.lst acc) → ρ2 "way" = some (.imm (.str (E u v way))) → ρ2 "word" = some (.imm (.str (E u v word))) → ρ2 "part" = some (.imm (.str (E u v (partB word)))) → ρ2 "len" = none →
          ∀ t body p, b12.1[1]? = some (.While t body [] p) → execs (exec (CW o) n12.1 19) (body.drop 3) ρ2 ((ρ2.set "words" (.lst (acc ++ [pairW u v (cutB word)]))).set "way" (.imm (.str (E u v (way.take (way.length - word.length))))), .next) := by
        intro ρ2 g1 g2 g3 g4 g5
        refine while_all rfl ?_
        refine x_cons (x_exec rfl (x_append rfl g1 (e_tup (evs_cons (e_slice (slot_imm g3) (e_name g3 rfl) part_none (part_some (e_bin (e_lenE (fgl rfl g5) (slot_imm g3) (e_name g3 rfl) (fun _ => rfl) (by lia)) (e_lenE (fgl rfl g5) (slot_imm g4) (e_name g4 rfl) (fun _ => rfl) (by lia)) (sub_nat pl.2))) (slice_take (by lia) (by lia))) (evs_cons (e_name g4 rfl) evs_nil)) (sz rfl rfl)) (by rw [sizeLine_eq]; lia))) ?_
        exact x_cons (x_exec rfl (x_name (by decide) rfl (m_pure (e_slice (slot_imm g2) (e_name g2 rfl) part_none (part_some (e_bin (e_lenE (fgl rfl g5) (slot_imm g2) (e_name g2 rfl) (fun _ => rfl) (by lia)) (e_lenE (fgl rfl g5) (slot_imm g3) (e_name g3 rfl) (fun _ => rfl) (by lia)) (sub_nat (by lia)))) (slice_take (by lia) (by lia))) rfl))) rfl
      have step : ∃ ρ3 : Rho, (∀ t body p, b12.1[1]? = some (.While t body [] p) → execs (exec (CW o) n12.1 19) body ρ (ρ3, .next)) ∧ ρ3 "words" = some (.lst (acc ++ [pairW u v (cutB word)])) ∧ ρ3 "way" = some (.imm (.str (E u v (way.take (way.length - word.length))))) ∧ ρ3 "min" = none ∧ ρ3 "range" = none ∧ ρ3 "len" = none := by
        by_cases hone : word.length > 1
        · refine ⟨((((ρ.set "word" (.imm (.str (E u v word)))).set "part" (.imm (.str (E u v word)))).set "part" (.imm (.str (E u v (partB word))))).set "words" (.lst (acc ++ [pairW u v (cutB word)]))).set "way" (.imm (.str (E u v (way.take (way.length - word.length))))), while_all rfl ?_, rfl, rfl, hm, hr, hl⟩
          have hrest := rest (((ρ.set "word" (.imm (.str (E u v word)))).set "part" (.imm (.str (E u v word)))).set "part" (.imm (.str (E u v (partB word))))) hws hw rfl rfl hl _ _ _ rfl
          have mw : minPV [.list ((List.range way.length).map fun (k : Nat) => PV.str (E u v (way.drop k)))] = some (.str (E u v word)) := by rw [min_ends0 huv hpos, hword]
          have mp : minPV [.list ((List.range (word.length - 1)).map fun (k : Nat) => PV.str (E u v (word.drop (1 + k))))] = some (.str (E u v (partB word))) := by
            rw [min_ends huv hone]; unfold partB; rw [if_pos hone]
          refine x_cons (x_exec rfl (x_name (by decide) rfl (m_pure (e_call1 (fgl rfl hm) rfl (e_comp rfl (e_call1 (fgl rfl hr) rfl (e_lenE (fgl rfl hl) (slot_imm hw) (e_name hw rfl) (fun _ => rfl) h3) rfl) (items_rng0 rfl (by lia)) (comp1_map fun k hk => ⟨_, rfl, e_slice (slot_imm hw) (e_name hw rfl) (part_some (e_name rfl rfl)) part_none (slice_drop h3 (by rw [List.mem_range] at hk; lia))⟩) (by rw [List.length_map, List.length_range, sizeLine_eq]; lia)) mw) rfl))) ?_
          refine x_cons (x_exec rfl (x_name (by decide) rfl (m_pure (e_name rfl rfl) rfl))) ?_
          refine x_cons (x_exec rfl (x_if (t_pure (b := true) (e_cmp (e_lenE (fgl rfl hl) rfl (e_name rfl rfl) (fun _ => rfl) (by lia)) e_int (show _ = some true from congrArg some (decide_eq_true (by lia))) rfl)) (x_cons (x_exec rfl (x_name (by decide) rfl (m_pure (e_call1 (fgl rfl hm) rfl (e_comp rfl (e_call (fgl rfl hr) (evs_cons e_int (evs_cons (e_lenE (fgl rfl hl) rfl (e_name rfl rfl) (fun _ => rfl) (by lia)) evs_nil)) rfl) (items_rng (l := 1) rfl rfl (by lia) (by lia)) (comp1_map fun k hk => ⟨_, rfl, e_slice rfl (e_name rfl rfl) (part_some (e_name rfl rfl)) part_none (slice_drop (by lia) (by rw [List.mem_range] at hk; lia))⟩) (by rw [List.length_map, List.length_range, sizeLine_eq]; lia)) mp) rfl))) rfl))) ?_
          exact hrest
        · refine ⟨(((ρ.set "word" (.imm (.str (E u v word)))).set "part" (.imm (.str (E u v word)))).set "words" (.lst (acc ++ [pairW u v (cutB word)]))).set "way" (.imm (.str (E u v (way.take (way.length - word.length))))), while_all rfl ?_, rfl, rfl, hm, hr, hl⟩
          have hpw : partB word = word := by unfold partB; rw [if_neg hone]
          have hrest := rest ((ρ.set "word" (.imm (.str (E u v word)))).set "part" (.imm (.str (E u v word)))) hws hw rfl (by rw [hpw]; rfl) hl _ _ _ rfl
          have mw : minPV [.list ((List.range way.length).map fun (k : Nat) => PV.str (E u v (way.drop k)))] = some (.str (E u v word)) := by rw [min_ends0 huv hpos, hword]
          refine x_cons (x_exec rfl (x_name (by decide) rfl (m_pure (e_call1 (fgl rfl hm) rfl (e_comp rfl (e_call1 (fgl rfl hr) rfl (e_lenE (fgl rfl hl) (slot_imm hw) (e_name hw rfl) (fun _ => rfl) h3) rfl) (items_rng0 rfl (by lia)) (comp1_map fun k hk => ⟨_, rfl, e_slice (slot_imm hw) (e_name hw rfl) (part_some (e_name rfl rfl)) part_none (slice_drop h3 (by rw [List.mem_range] at hk; lia))⟩) (by rw [List.length_map, List.length_range, sizeLine_eq]; lia)) mw) rfl))) ?_
          refine x_cons (x_exec rfl (x_name (by decide) rfl (m_pure (e_name rfl rfl) rfl))) ?_
          refine x_cons (x_exec rfl (x_if (t_pure (b := false) (e_cmp (e_lenE (fgl rfl hl) rfl (e_name rfl rfl) (fun _ => rfl) (by lia)) e_int (show _ = some false from congrArg some (decide_eq_false (by lia))) rfl)) rfl)) ?_
          exact hrest
      obtain ⟨ρ3, s1, s2, s3, s4, s5, s6⟩ := step
      obtain ⟨ρ', w1, w2⟩ := ih g ρ3 (way.take (way.length - word.length)) (acc ++ [pairW u v (cutB word)]) (by rw [List.length_take]; lia) (by lia) (by rw [List.length_take]; lia) (by rw [List.length_append]; simp only [List.length_cons, List.length_nil]; lia) s2 s3 s4 s5 s6
      refine ⟨ρ', while_all rfl ?_, ?_⟩
      · exact wh_next (t_pure (b := true) (e_cmp (e_name hw rfl) e_str (E_nonempty hnil) rfl)) (s1 _ _ _ rfl) (w1 _ _ _ rfl)
      · rw [w2]
        have he : way.isEmpty = false := by rw [List.isEmpty_eq_false_iff]; exact hnil
        have hW : wordsB (f + 1) way = cutB word :: wordsB f (way.take (way.length - word.length)) := by
          show (if way.isEmpty then _ else _) = _
          rw [he, if_neg (by decide), hword]
        rw [hW, List.map_cons, List.append_assoc]
        rfl

set_option maxHeartbeats 4000000 in
theorem words_run {o : O1} {u v : Nat} (huv : u < v) {way : List Bool} (hw : way.length ≤ 17) : runFn (CW o) n12.1 20 ["way"] b12.1 [.str (E u v way)] (.list ((wordsB way.length way).map (pairW u v))) := by
  obtain ⟨ρ', w1, w2⟩ := words_loop (o := o) huv way.length 19 ((rho0 ["way"] [.str (E u v way)]).set "words" (.lst [])) way [] (Nat.le_refl _) (by lia) (by lia) (by simp; lia) rfl rfl rfl rfl rfl
  have w1' := fun t body p hb => w1 t body p hb
  unfold b12 n12 at *
  refine run_ex rfl (g_cons (x_exec rfl (x_nil (by decide))) ?_)
  refine g_cons (x_exec rfl (x_while (w1' _ _ _ rfl))) ?_
  have hfz : ρ'.freeze ["words"] "words" = some (.imm (.list ((wordsB way.length way).map (pairW u v)))) := by
    unfold Rho.freeze
    rw [w2]
    rfl
  exact g_ret (x_execf rfl rfl (x_return (m_pure (e_name hfz rfl) rfl)))
end Nw

namespace Nw
set_option tactic.hygienic false

/-- a word's heights are those of the straight line -/
noncomputable def htsB (bs : List Bool) : List Int := (List.range (bs.length + 1)).map fun k => (((bs.take k).count true : Nat) : Int)
noncomputable def straightB (bs : List Bool) : Bool := decide (htList (bs.count true) bs.length = htsB bs)

noncomputable abbrev CSt (o : O1) : CfgS := (o.orc [("len", ofF lenPV), ("range", ofF rangePV), ("_law_heights", htS)]).cfg

theorem htS_val {u n : Nat} (h1 : u ≤ n) (h2 : 1 ≤ n) (h3 : n ≤ 10) {q : Int} (hq : 7 ≤ q ∧ q ≤ 7906) : htS [.int u, .int n, .int q] (.list (intsPV (htList u n))) := by
  obtain ⟨p, rfl⟩ := Int.eq_ofNat_of_zero_le (show 0 ≤ q by lia)
  exact ⟨u, n, p, rfl, ⟨h1, h2, h3, by lia, by lia⟩, rfl⟩

theorem idx_last {ps : List PV} {p : PV} (h : ps.length < 1000) (hl : ps[ps.length - 1]? = some p) (h0 : 0 < ps.length) : idxPV (.list ps) (-1) = some p := by
  unfold idxPV; dsimp only
  rw [if_pos (by lia)]
  have : seqIndex? (-1) ps.length = some (ps.length - 1) := by
    unfold seqIndex?
    have h1 : (decide ((0 : Int) ≤ -1 + (ps.length : Int)) && decide (-1 + (ps.length : Int) < (ps.length : Int))) = true := by
      simp; lia
    simp only [show (-1 : Int) < 0 by decide, if_true, h1]
    congr 1
    lia
  rw [this]
  exact hl

set_option maxHeartbeats 4000000 in
theorem straight_run {o : O1} {u v : Nat} (huv : u < v) {bs : List Bool} (h0 : 0 < bs.length) (hl : bs.length ≤ 10) {q : Int} (hq : 7 ≤ q ∧ q ≤ 7906) :
    runFn (CSt o) n14.1 20 ["word", "north", "places"] b14.1 [.str (E u v bs), .str (E u v [true]), .int q] (.bool (straightB bs)) := by
  unfold b14 n14
  have hc : ∀ k, countPV (.str (E u v (bs.take k))) [.str (E u v [true])] = some (.int (((bs.take k).count true : Nat) : Int)) := fun k => by
    unfold countPV; dsimp only
    rw [E_count (Nat.ne_of_lt huv)]
  refine run_ex rfl (g_cons (x_exec rfl (x_comp (by decide) (items := (List.range (bs.length + 1)).map fun (k : Nat) => PV.int k) (out := intsPV (htsB bs)) rfl (e_call1 rfl rfl (e_bin (e_lenE rfl rfl (e_name rfl rfl) (fun _ => rfl) (by lia)) e_int rfl) rfl) (items_rng0 (by lia) (by lia)) ?_ ?_)) ?_)
  · have e : intsPV (htsB bs) = (List.range (bs.length + 1)).map fun (k : Nat) => PV.int (((bs.take k).count true : Nat) : Int) := by
      unfold intsPV htsB; rw [List.map_map]; rfl
    rw [e]
    refine comp1_map fun k hk => ?_
    rw [List.mem_range] at hk
    exact ⟨_, rfl, e_meth rfl rfl (e_slice rfl (e_name rfl rfl) part_none (part_some (e_name rfl rfl)) (slice_take (by lia) (by lia))) (evs_cons (e_name rfl rfl) evs_nil) (hc k)⟩
  · unfold intsPV htsB
    rw [List.length_map, List.length_map, List.length_range, sizeLine_eq]; lia
  · have hlen : (intsPV (htsB bs)).length = bs.length + 1 := by unfold intsPV htsB; rw [List.length_map, List.length_map, List.length_range]
    have hlast : (intsPV (htsB bs))[(intsPV (htsB bs)).length - 1]? = some (.int ((bs.count true : Nat) : Int)) := by
      rw [hlen]
      unfold intsPV htsB
      simp
    refine g_ret (x_exec rfl (x_return (m_pure (e_cmp (e_call rfl (evs_cons (e_sub rfl (e_name rfl rfl) (j := -1) ?_ (idx_last (by lia) hlast (by lia))) (evs_cons (e_lenE rfl rfl (e_name rfl rfl) (fun _ => rfl) (by lia)) (evs_cons (e_name rfl rfl) evs_nil))) (htS_val (List.count_le_length ..) h0 hl hq)) (e_name rfl rfl) (cmp_list_eq (wf_ints _) (wf_ints _) (eqv_ints _ _)) rfl) rfl)))
    first | exact e_int | exact e_un e_int rfl
end Nw

namespace Nw
set_option tactic.hygienic false

theorem intBits_small {a : Int} (h : -(2 ^ 60) < a ∧ a < 2 ^ 60) : Builtin.Int.intBits a ≤ 60 := by
  unfold Builtin.Int.intBits
  split
  · lia
  · rename_i hz
    have hz' : a ≠ 0 := by simpa using hz
    have : a.natAbs.log2 < 60 := (Nat.log2_lt (by lia)).mpr (by lia)
    lia
theorem bnop_muls {a b : Int} (h : -(2 ^ 60) < a ∧ a < 2 ^ 60) : bnop .Mult (.int a) (.int b) = some (.int (a * b)) := by
  have := intBits_small h
  show (if _ then _ else _) = _
  rw [if_pos]
  unfold mulOkB
  have e : decide (Builtin.Int.intBits a > shortFactorBits) = false := by
    rw [decide_eq_false_iff_not, show shortFactorBits = 64 from rfl]; lia
  rw [e]; rfl
theorem idx_nat {ps : List PV} {k : Nat} {p : PV} (h : ps.length < 1000000) (hk : ps[k]? = some p) : idxPV (.list ps) (k : Int) = some p := by
  have hlt : k < ps.length := (List.getElem?_eq_some_iff.mp hk).1
  unfold idxPV; dsimp only
  rw [if_pos (by lia)]
  have : seqIndex? (k : Int) ps.length = some k := by
    unfold seqIndex?
    have h1 : (decide ((0 : Int) ≤ (k : Int)) && decide ((k : Int) < (ps.length : Int))) = true := by
      simp; lia
    simp only [show ¬ ((k : Int) < 0) by lia, if_false, h1, if_true, Int.toNat_natCast]
  rw [this]
  exact hk

section
variable {α β : Type} {ρ : Rho} {N : Names}
theorem forGo_nil {g : Rho → Rho × FlowP → Prop} {target : Expr} : forGo N g target [] ρ (ρ, .next) := rfl
theorem forGo_cons {g : Rho → Rho × FlowP → Prop} {target : Expr} {p : PV} {ps : List PV} {ρ1 ρ2 : Rho} {r : Rho × FlowP} (h1 : bindT false N target p ρ = some ρ1) (h2 : g ρ1 (ρ2, .next)) (h3 : forGo N g target ps ρ2 r) : forGo N g target (p :: ps) ρ r := by
  exact ⟨_, _, .next, h1, h2, h3⟩
end
theorem flatMap_len {α β : Type} {g : α → List β} {K : Nat} : ∀ (l : List α), (∀ a ∈ l, (g a).length ≤ K) → (l.flatMap g).length ≤ l.length * K
  | [], _ => by simp
  | a :: l, h => by
    have h1 := h a (.head _)
    have h2 := flatMap_len l fun b hb => h b (.tail _ hb)
    rw [List.flatMap_cons, List.length_append, List.length_cons, Nat.succ_mul]
    lia

/-! the columns' tops -/
noncomputable def colsGo : List Bool → Nat → List Nat × Nat
  | [], t => ([], t)
  | true :: r, t => colsGo r (t + 1)
  | false :: r, t => (t :: (colsGo r t).1, (colsGo r t).2)
noncomputable def colsB (bs : List Bool) : List Nat := (colsGo bs 0).1 ++ [(colsGo bs 0).2]
noncomputable def condB (T : List Nat) (a b c : Nat) : Bool := decide ((T.getD b 0 + 1) * (c - a) ≤ T.getD a 0 * (c - b) + T.getD c 0 * (b - a))
noncomputable def ptsB (T : List Nat) : List (Nat × Nat) :=
  (List.range T.length).flatMap fun c => (List.range c).flatMap fun b => (List.range b).flatMap fun a => if condB T a b c then [(b, T.getD b 0 + 1)] else []
noncomputable def ptPV (p : Nat × Nat) : PV := .tup [.int p.1, .int p.2]

theorem colsGo_len : ∀ (bs : List Bool) (t : Nat), (colsGo bs t).1.length ≤ bs.length ∧ (colsGo bs t).2 ≤ t + bs.length ∧ ∀ x ∈ (colsGo bs t).1, x ≤ t + bs.length
  | [], t => by simp [colsGo]
  | true :: r, t => by
    obtain ⟨h1, h2, h3⟩ := colsGo_len r (t + 1)
    simp only [colsGo, List.length_cons]
    exact ⟨by lia, by lia, fun x hx => by have := h3 x hx; lia⟩
  | false :: r, t => by
    obtain ⟨h1, h2, h3⟩ := colsGo_len r t
    simp only [colsGo, List.length_cons]
    refine ⟨by lia, by lia, fun x hx => ?_⟩
    rcases List.mem_cons.mp hx with rfl | hx
    · lia
    · have := h3 x hx; lia

noncomputable abbrev CP (o : O1) : CfgS := (o.orc [("len", ofF lenPV), ("range", ofF rangePV)]).cfg

theorem tops_loop {o : O1} {u v : Nat} (huv : u < v) : ∀ (bs : List Bool) (ρ : Rho) (acc : List Nat) (t : Nat), bs.length + acc.length ≤ 1000 → ρ "tops" = some (.lst (acc.map fun (k : Nat) => PV.int k)) → ρ "top" = some (.imm (.int t)) → ρ "north" = some (.imm (.str (E u v [true]))) →
    ∃ ρ', (∀ tg it body p, b15.1[2]? = some (.For tg it body [] p) → forGo n15.1 (execs (exec (CP o) n15.1 19) body) tg (bs.map fun b => .str (E u v [b])) ρ (ρ', .next)) ∧
      ρ' "tops" = some (.lst ((acc ++ (colsGo bs t).1).map fun (k : Nat) => PV.int k)) ∧ ρ' "top" = some (.imm (.int (colsGo bs t).2)) ∧ ρ' "range" = ρ "range" ∧ ρ' "len" = ρ "len"
  | [], ρ, acc, t, h0, h1, h2, h3 => ⟨ρ, fun _ _ _ _ _ => rfl, by simpa [colsGo] using h1, by simpa [colsGo] using h2, rfl, rfl⟩
  | true :: r, ρ, acc, t, h0, h1, h2, h3 => by
    rw [List.length_cons] at h0
    obtain ⟨ρ', g1, g2, g3, g4, g5⟩ := tops_loop huv r ((ρ.set "sign" (.imm (.str (E u v [true])))).set "top" (.imm (.int ((t + 1 : Nat) : Int)))) acc (t + 1) (by lia) h1 rfl h3
    refine ⟨ρ', for_all rfl ?_, g2, g3, g4, g5⟩
    have hcmp : (CP o).base.cmp .Eq (.str (E u v [true])) (.str (E u v [true])) = some true := by
      show some ((E u v [true]).cps.toList == (E u v [true]).cps.toList) = _
      rw [E_beq (Nat.ne_of_lt huv)]; rfl
    have hadd : inop .Add (.int t) (.int 1) = some (.int ((t + 1 : Nat) : Int)) := rfl
    refine forGo_cons (ρ1 := ρ.set "sign" (.imm (.str (E u v [true])))) rfl ?_ (g1 _ _ _ _ rfl)
    exact x_cons (x_exec rfl (x_if (t_pure (b := true) (e_cmp (e_name rfl rfl) (e_name h3 rfl) hcmp rfl)) (x_cons (x_exec rfl (x_aug rfl h2 e_int hadd)) rfl))) rfl
  | false :: r, ρ, acc, t, h0, h1, h2, h3 => by
    rw [List.length_cons] at h0
    obtain ⟨ρ', g1, g2, g3, g4, g5⟩ := tops_loop huv r ((ρ.set "sign" (.imm (.str (E u v [false])))).set "tops" (.lst ((acc ++ [t]).map fun (k : Nat) => PV.int k))) (acc ++ [t]) t (by rw [List.length_append, List.length_singleton]; lia) rfl h2 h3
    refine ⟨ρ', for_all rfl ?_, by rw [g2]; simp [colsGo], g3, g4, g5⟩
    have hcmp : (CP o).base.cmp .Eq (.str (E u v [false])) (.str (E u v [true])) = some false := by
      show some ((E u v [false]).cps.toList == (E u v [true]).cps.toList) = _
      rw [E_beq (Nat.ne_of_lt huv)]; rfl
    refine forGo_cons (ρ1 := ρ.set "sign" (.imm (.str (E u v [false])))) rfl ?_ (g1 _ _ _ _ rfl)
    rw [List.map_append]
    exact x_cons (x_exec rfl (x_if (t_pure (b := false) (e_cmp (e_name rfl rfl) (e_name h3 rfl) hcmp rfl)) (x_cons (x_exec rfl (x_append rfl h1 (e_name h2 rfl) (by rw [List.length_map, sizeLine_eq]; lia))) rfl))) rfl

theorem condB_int {T : List Nat} {a b c : Nat} (h1 : a ≤ b) (h2 : b ≤ c) :
    decide (((T.getD a 0 : Nat) : Int) * ((c : Int) - b) + ((T.getD c 0 : Nat) : Int) * ((b : Int) - a) ≥ (((T.getD b 0 : Nat) : Int) + 1) * ((c : Int) - a)) = condB T a b c := by
  unfold condB
  rw [show (c : Int) - b = ((c - b : Nat) : Int) by lia, show (b : Int) - a = ((b - a : Nat) : Int) by lia, show (c : Int) - a = ((c - a : Nat) : Int) by lia]
  apply decide_eq_decide.mpr
  rw [ge_iff_le]
  constructor
  · intro h
    have h' : (((T.getD b 0 + 1) * (c - a) : Nat) : Int) ≤ ((T.getD a 0 * (c - b) + T.getD c 0 * (b - a) : Nat) : Int) := by push_cast; exact h
    lia
  · intro h
    have h' : (((T.getD b 0 + 1) * (c - a) : Nat) : Int) ≤ ((T.getD a 0 * (c - b) + T.getD c 0 * (b - a) : Nat) : Int) := Int.ofNat_le.mpr h
    push_cast at h'
    exact h'

theorem pts_map (T : List Nat) : (ptsB T).map ptPV = (List.range T.length).flatMap fun c => (List.range c).flatMap fun b => (List.range b).flatMap fun a => if condB T a b c then [PV.tup [.int (b : Int), .int ((T.getD b 0 : Nat) + 1 : Int)]] else [] := by
  unfold ptsB
  simp only [List.map_flatMap]
  congr 1; funext c
  congr 1; funext b
  congr 1; funext a
  split <;> rfl
theorem pts_len {T : List Nat} (h : T.length ≤ 101) : ((ptsB T).map ptPV).length ≤ sizeLine := by
  rw [List.length_map, sizeLine_eq]
  have h3 : ∀ b ∈ List.range 101, ∀ c, ((List.range b).flatMap fun a => if condB T a b c then [(b, T.getD b 0 + 1)] else []).length ≤ 101 := by
    intro b hb c
    rw [List.mem_range] at hb
    have := flatMap_len (K := 1) (g := fun a => if condB T a b c then [(b, T.getD b 0 + 1)] else []) (List.range b) (fun a _ => by split <;> simp)
    rw [List.length_range] at this
    lia
  have h2 : ∀ c ∈ List.range T.length, ((List.range c).flatMap fun b => (List.range b).flatMap fun a => if condB T a b c then [(b, T.getD b 0 + 1)] else []).length ≤ 10201 := by
    intro c hc
    rw [List.mem_range] at hc
    have := flatMap_len (K := 101) (g := fun b => (List.range b).flatMap fun a => if condB T a b c then [(b, T.getD b 0 + 1)] else []) (List.range c) (fun b hb => h3 b (by rw [List.mem_range] at hb ⊢; lia) c)
    rw [List.length_range] at this
    lia
  have h1 := flatMap_len (K := 10201) _ h2
  rw [List.length_range] at h1
  unfold ptsB
  lia
theorem e_lenL {c : Cfg} {n : Nat} {N : Names} {ρ : Rho} {a : Expr} {pn pos : Pos} {xs : List PV} (hf : (okName ("len" : Str) && N.lookup ("len" : Str) == some .globalImplicit && (ρ ("len" : Str)).isNone) = true) (hs : slotOf ρ a = none) (h1 : ev c n N ρ a (.list xs)) (hc : ∀ ps, c.call "len" ps = ofF lenPV ps) (hb : xs.length ≤ 100000) :
    ev c (n + 1) N ρ (.Call (.Name "len" pn) [a] [] pos) (.int xs.length) := e_call1 hf hs h1 (by rw [hc]; show lenPV _ = _; unfold lenPV; dsimp only; rw [if_pos (by lia)])

set_option maxHeartbeats 4000000 in
theorem points_run {o : O1} {u v : Nat} (huv : u < v) {bs : List Bool} (hl : bs.length ≤ 100) :
    runFn (CP o) n15.1 20 ["way", "north"] b15.1 [.str (E u v bs), .str (E u v [true])] (.list ((ptsB (colsB bs)).map ptPV)) := by
  obtain ⟨ρ', w1, w2, w3, w4, w5⟩ := tops_loop (o := o) huv bs (((rho0 ["way", "north"] [.str (E u v bs), .str (E u v [true])]).set "tops" (.lst [])).set "top" (.imm (.int 0))) [] 0 (by simp; lia) rfl rfl rfl
  obtain ⟨c1, c2, c3⟩ := colsGo_len bs 0
  unfold b15 n15 at *
  refine run_ex rfl (g_cons (x_exec rfl (x_nil (by decide))) (g_cons (x_exec rfl (x_name (by decide) rfl (m_pure e_int rfl))) ?_))
  refine g_cons (x_exec rfl (x_for (its := bs.map fun b => .str (E u v [b])) rfl rfl (e_name rfl rfl) ?_ (w1 _ _ _ _ rfl))) ?_
  · show some ((E u v bs).cps.toList.map fun c => PV.str ⟨#[c]⟩) = _
    rw [E_cps, List.map_map]; rfl
  refine g_cons (x_exec rfl (x_append rfl w2 (e_name w3 rfl) (by rw [List.length_map, sizeLine_eq]; simp; lia))) ?_
  have hcl : (colsB bs).length ≤ 101 := by unfold colsB; rw [List.length_append, List.length_singleton]; lia
  have hcv : ∀ k, (colsB bs).getD k 0 ≤ 100 := by
    intro k
    rw [List.getD_eq_getElem?_getD]
    cases q : (colsB bs)[k]? with
    | none => simp
    | some x =>
      have := List.mem_of_getElem? q
      unfold colsB at this
      rcases List.mem_append.mp this with h | h
      · have := c3 x h; simp; lia
      · rw [List.mem_singleton] at h; subst h; simp; lia
  have hT : (ρ'.set "tops" (.lst (([] ++ (colsGo bs 0).1).map (fun (k : Nat) => PV.int k) ++ [.int (colsGo bs 0).2]))).freeze ["tops"] "tops" = some (.imm (.list ((colsB bs).map fun (k : Nat) => PV.int k))) := by
    rw [show (colsB bs).map (fun (k : Nat) => PV.int k) = ([] ++ (colsGo bs 0).1).map (fun (k : Nat) => PV.int k) ++ [.int (colsGo bs 0).2] by unfold colsB; simp]
    rfl
  have hr' : (ρ'.set "tops" (.lst (([] ++ (colsGo bs 0).1).map (fun (k : Nat) => PV.int k) ++ [.int (colsGo bs 0).2]))).freeze ["tops"] "range" = none := w4
  have hl' : (ρ'.set "tops" (.lst (([] ++ (colsGo bs 0).1).map (fun (k : Nat) => PV.int k) ++ [.int (colsGo bs 0).2]))).freeze ["tops"] "len" = none := w5
  generalize hρ : (ρ'.set "tops" (.lst (([] ++ (colsGo bs 0).1).map (fun (k : Nat) => PV.int k) ++ [.int (colsGo bs 0).2]))).freeze ["tops"] = ρ2 at *
  generalize colsB bs = T at *
  refine g_ret (x_execf rfl hρ (x_return (m_pure (e_comp (items := (List.range T.length).map fun (k : Nat) => PV.int k) rfl (e_call1 (fgl rfl hr') rfl (e_lenL (fgl rfl hl') (slot_imm hT) (e_name hT rfl) (fun _ => rfl) (by rw [List.length_map]; lia)) rfl) (items_rng0 (by rw [List.length_map]) (by lia)) ?_ (pts_len hcl)) rfl)))
  rw [pts_map]
  have hix : ∀ k, k < T.length → idxPV (.list (T.map fun (k : Nat) => PV.int k)) (k : Int) = some (.int ((T.getD k 0 : Nat) : Int)) := by
    intro k hk
    refine idx_nat (by rw [List.length_map]; lia) ?_
    rw [List.getElem?_map, List.getD_eq_getElem?_getD, List.getElem?_eq_getElem hk]; rfl
  refine comp_nest fun c hc => ?_
  rw [List.mem_range] at hc
  refine ⟨_, _, _, rfl, rfl, e_call1 rfl rfl (e_name rfl rfl) rfl, items_rng0 rfl (by lia), ?_⟩
  refine comp_nest fun b hb => ?_
  rw [List.mem_range] at hb
  refine ⟨_, _, _, rfl, rfl, e_call1 rfl rfl (e_name rfl rfl) rfl, items_rng0 rfl (by lia), ?_⟩
  refine comp1_if fun a ha => ?_
  rw [List.mem_range] at ha
  have m1 := hcv a
  have m2 := hcv b
  have m3 := hcv c
  refine ⟨_, rfl, e_cmp (e_bin (e_bin (e_sub (slot_imm hT) (e_name hT rfl) (e_name rfl rfl) (hix a (by lia))) (e_bin (e_name rfl rfl) (e_name rfl rfl) rfl) (bnop_muls (by lia))) (e_bin (e_sub (slot_imm hT) (e_name hT rfl) (e_name rfl rfl) (hix c (by lia))) (e_bin (e_name rfl rfl) (e_name rfl rfl) rfl) (bnop_muls (by lia))) rfl)
    (e_bin (e_bin (e_sub (slot_imm hT) (e_name hT rfl) (e_name rfl rfl) (hix b (by lia))) e_int rfl) (e_bin (e_name rfl rfl) (e_name rfl rfl) rfl) (bnop_muls (by lia))) ?_ rfl, fun _ => ?_⟩
  · rw [← condB_int (T := T) (Nat.le_of_lt ha) (Nat.le_of_lt hb)]
    rfl
  · exact e_tup (evs_cons (e_name rfl rfl) (evs_cons (e_bin (e_sub (slot_imm hT) (e_name hT rfl) (e_name rfl rfl) (hix b (by lia))) e_int rfl) evs_nil)) (sz rfl rfl)
end Nw

namespace Nw
set_option tactic.hygienic false

noncomputable def qnPV : List PV → Option PV
  | [.str y, .str z] => if y.length + z.length + 2 ≤ sizeLine then some (.qn (qnText y z)) else none
  | _ => none
theorem str5 : ∀ b1 b2 b3 b4 b5 : Bool, strPV [.list [.bool b1, .bool b2, .bool b3, .bool b4, .bool b5]] = some (.str (toPy (.list [.bool b1, .bool b2, .bool b3, .bool b4, .bool b5])).shown) := by
  have key : ∀ b1 b2 b3 b4 b5 : Bool, (isDatas [.bool b1, .bool b2, .bool b3, .bool b4, .bool b5] && (toPy (.list [.bool b1, .bool b2, .bool b3, .bool b4, .bool b5])).showable && !(toPy (.list [.bool b1, .bool b2, .bool b3, .bool b4, .bool b5])).hasDict && decide ((toPy (.list [.bool b1, .bool b2, .bool b3, .bool b4, .bool b5])).depth ≤ 60) && decide ((toPy (.list [.bool b1, .bool b2, .bool b3, .bool b4, .bool b5])).shown.length ≤ sizeLine)) = true := by
    rw [sizeLine_eq]; decide +kernel
  intro b1 b2 b3 b4 b5
  unfold strPV; dsimp only
  rw [if_pos (key b1 b2 b3 b4 b5)]

theorem brace : (Str.ofString "{" ++ Str.ofString "w" ++ Str.ofString "}") = Str.ofString "{w}" := by decide +kernel
theorem qn_w {z : Str} (h : z.length ≠ 0) : Str.ofString "{w}" ++ z = qnText (Str.ofString "w") z := by
  unfold qnText
  rw [if_neg h, brace]
theorem qn_empty (y : Str) : qnText y (Str.ofString "") = y := by
  unfold qnText
  rw [if_pos (by decide +kernel)]

noncomputable def aheadB (one other : List Bool) : Nat := one.count true * other.count false
noncomputable def namedB (one other : List Bool) : Bool :=
  ltB one other == decide (aheadB one other < aheadB other one) && (!ltB other one) == decide (aheadB one other ≤ aheadB other one) && (one == other) == (aheadB one other == aheadB other one) &&
    (!ltB one other) == decide (aheadB one other ≥ aheadB other one) && ltB other one == decide (aheadB one other > aheadB other one)

noncomputable abbrev CN (o : O1) : CfgS := (o.orc [("str", ofF strPV), ("QName", ofF qnPV)]).cfg

section
variable {c : Cfg} {u v : Nat} {one other : List Bool}
theorem cmp_qn {op : CmpOp} {x y : Str} {b : PV} {r : Bool} (hc : c.cmpq = cmpQ) (hb : b = .qn y ∨ b = .str y) (hop : isRich op = true) (h : cmpPV op (.str x) (.str y) = some r) : c.cmp op (.qn x) b = some r := by
  unfold Cfg.cmp
  have h0 : cmpPV op (.qn x) b = none := by
    rcases hb with rfl | rfl <;> cases op <;> first | rfl | cases hop
  rw [h0]
  show c.cmpq op (.qn x) b = _
  rw [hc]
  rcases hb with rfl | rfl
  · show (if _ then _ else _) = _
    rw [if_pos hop, h]
  · show (if _ then _ else _) = _
    rw [if_pos hop, h]
end

theorem nat_mul_int (a b : Nat) : ((a : Int) * (b : Int)) = ((a * b : Nat) : Int) := by push_cast; rfl
theorem count_lt (bs : List Bool) (b : Bool) (h : bs.length ≤ 1000) : -(2 ^ 60) < ((bs.count b : Nat) : Int) ∧ ((bs.count b : Nat) : Int) < 2 ^ 60 := by
  have := List.count_le_length (a := b) (l := bs)
  lia

set_option maxHeartbeats 8000000 in
theorem named_run {o : O1} {u v : Nat} (huv : u < v) {one other : List Bool} (h1 : one ≠ []) (h2 : other ≠ []) (l1 : one.length ≤ 100) (l2 : other.length ≤ 100) (hn : namedB one other = true) :
    runFn (CN o) n16.1 20 ["one", "other", "signs"] b16.1 [.str (E u v one), .str (E u v other), .tup [.str (E u v [false]), .str (E u v [true])]] (.bool true) := by
  unfold namedB at hn
  simp only [Bool.and_eq_true, beq_iff_eq] at hn
  obtain ⟨⟨⟨⟨n1, n2⟩, n3⟩, n4⟩, n5⟩ := hn
  have huv' := Nat.ne_of_lt huv
  have hc : ∀ (bs : List Bool) (b : Bool), countPV (.str (E u v bs)) [.str (E u v [b])] = some (.int ((bs.count b : Nat) : Int)) := fun bs b => by
    unfold countPV; dsimp only
    rw [E_count huv']
  have z1 : (E u v one).length ≠ 0 := by rw [E_len]; intro h; exact h1 (List.length_eq_zero_iff.mp h)
  have z2 : (E u v other).length ≠ 0 := by rw [E_len]; intro h; exact h2 (List.length_eq_zero_iff.mp h)
  have m1 : bnop .Mult (.int ((one.count true : Nat) : Int)) (.int ((other.count false : Nat) : Int)) = some (.int ((aheadB one other : Nat) : Int)) := by
    rw [bnop_muls (count_lt _ _ (by lia)), nat_mul_int]; rfl
  have m2 : bnop .Mult (.int ((other.count true : Nat) : Int)) (.int ((one.count false : Nat) : Int)) = some (.int ((aheadB other one : Nat) : Int)) := by
    rw [bnop_muls (count_lt _ _ (by lia)), nat_mul_int]; rfl
  generalize aheadB one other = A at *
  generalize aheadB other one = B at *
  have q1 : qnPV [.str (Str.ofString "w"), .str (E u v one)] = some (.qn (qnText (Str.ofString "w") (E u v one))) := by
    unfold qnPV; dsimp only
    rw [if_pos]
    rw [E_len, show (Str.ofString "w").length = 1 by decide +kernel, sizeLine_eq]; lia
  have q2 : qnPV [.str (Str.ofString "w"), .str (E u v other)] = some (.qn (qnText (Str.ofString "w") (E u v other))) := by
    unfold qnPV; dsimp only
    rw [if_pos]
    rw [E_len, show (Str.ofString "w").length = 1 by decide +kernel, sizeLine_eq]; lia
  have hadd : bnop .Add (.str (Str.ofString "{w}")) (.str (E u v other)) = some (.str (qnText (Str.ofString "w") (E u v other))) := by
    show (if _ then _ else _) = _
    rw [if_pos, qn_w z2]
    rw [E_len, show (Str.ofString "{w}").length = 3 by decide +kernel, sizeLine_eq]; lia
  have tl : (qnText (Str.ofString "w") (E u v other)).length ≤ 200 := by
    rw [← qn_w z2]
    show (Str.append _ _).cps.size ≤ _
    unfold Str.append
    rw [Array.size_append]
    have := E_len (u := u) (v := v) other
    unfold Str.length at this
    rw [this, show (Str.ofString "{w}").cps.size = 3 by decide +kernel]; lia
  have q3 : qnPV [.str (qnText (Str.ofString "w") (E u v other)), .str (Str.ofString "")] = some (.qn (qnText (Str.ofString "w") (E u v other))) := by
    unfold qnPV; dsimp only
    rw [if_pos, qn_empty]
    rw [show (Str.ofString "").length = 0 by decide +kernel, sizeLine_eq]; lia
  generalize hx : qnText (Str.ofString "w") (E u v one) = X at *
  generalize hy : qnText (Str.ofString "w") (E u v other) = Y at *
  have k1 : cmpPV .Lt (.str X) (.str Y) = some (decide ((A : Int) < B)) := by
    show some (ltStr X Y) = _
    rw [← hx, ← hy, qn_lt z1 z2, E_lt huv, n1]
    congr 1
    apply decide_eq_decide.mpr; lia
  have k2 : cmpPV .LtE (.str X) (.str Y) = some (decide ((A : Int) ≤ B)) := by
    show some (!ltStr Y X) = _
    rw [← hx, ← hy, qn_lt z2 z1, E_lt huv, n2]
    congr 1
    apply decide_eq_decide.mpr; lia
  have k3 : cmpPV .Eq (.str X) (.str Y) = some ((A : Int) == B) := by
    show some (X.cps.toList == Y.cps.toList) = _
    rw [← hx, ← hy, qn_beq z1 z2, E_beq huv', n3]
    have e : (A == B) = ((A : Int) == B) := by
      rw [Bool.eq_iff_iff, beq_iff_eq, beq_iff_eq]; lia
    rw [e]
  have k4 : cmpPV .GtE (.str X) (.str Y) = some (decide ((A : Int) ≥ B)) := by
    show some (!ltStr X Y) = _
    rw [← hx, ← hy, qn_lt z1 z2, E_lt huv, n4]
    congr 1
    apply decide_eq_decide.mpr; lia
  have k5 : cmpPV .Gt (.str X) (.str Y) = some (decide ((A : Int) > B)) := by
    show some (ltStr Y X) = _
    rw [← hx, ← hy, qn_lt z2 z1, E_lt huv, n5]
    congr 1
    apply decide_eq_decide.mpr; lia
  unfold b16 n16
  refine run_ex rfl (g_cons (x_exec rfl (x_name (by decide) rfl (m_pure (e_bin (e_meth rfl rfl (e_name rfl rfl) (evs_cons (e_sub rfl (e_name rfl rfl) e_int rfl) evs_nil) (hc one true)) (e_meth rfl rfl (e_name rfl rfl) (evs_cons (e_sub rfl (e_name rfl rfl) e_int rfl) evs_nil) (hc other false)) m1) rfl))) ?_)
  refine g_cons (x_exec rfl (x_name (by decide) rfl (m_pure (e_bin (e_meth rfl rfl (e_name rfl rfl) (evs_cons (e_sub rfl (e_name rfl rfl) e_int rfl) evs_nil) (hc other true)) (e_meth rfl rfl (e_name rfl rfl) (evs_cons (e_sub rfl (e_name rfl rfl) e_int rfl) evs_nil) (hc one false)) m2) rfl))) ?_
  refine g_cons (x_exec rfl (x_slot (sl := .lst [.bool (decide ((A : Int) < B)), .bool (decide ((A : Int) ≤ B)), .bool ((A : Int) == B), .bool (decide ((A : Int) ≥ B)), .bool (decide ((A : Int) > B))]) (by decide) rfl ?_)) ?_
  · exact f_list (evs_cons (p := .bool (decide ((A : Int) < B))) (e_cmp (e_name rfl rfl) (e_name rfl rfl) rfl rfl) (evs_cons (p := .bool (decide ((A : Int) ≤ B))) (e_cmp (e_name rfl rfl) (e_name rfl rfl) rfl rfl) (evs_cons (p := .bool ((A : Int) == B)) (e_cmp (e_name rfl rfl) (e_name rfl rfl) rfl rfl) (evs_cons (p := .bool (decide ((A : Int) ≥ B))) (e_cmp (e_name rfl rfl) (e_name rfl rfl) rfl rfl) (evs_cons (p := .bool (decide ((A : Int) > B))) (e_cmp (e_name rfl rfl) (e_name rfl rfl) rfl rfl) evs_nil))))) (sz rfl rfl)
  refine g_cons (x_exec rfl (x_name (by decide) rfl (m_pure (e_call rfl (evs_cons e_str (evs_cons (e_name rfl rfl) evs_nil)) q1) rfl))) ?_
  have hq : (CN o).base.cmpq = cmpQ := rfl
  generalize hs : (toPy (.list [.bool (decide ((A : Int) < B)), .bool (decide ((A : Int) ≤ B)), .bool ((A : Int) == B), .bool (decide ((A : Int) ≥ B)), .bool (decide ((A : Int) > B))])).shown = S at *
  have hstr : strPV [.list [.bool (decide ((A : Int) < B)), .bool (decide ((A : Int) ≤ B)), .bool ((A : Int) == B), .bool (decide ((A : Int) ≥ B)), .bool (decide ((A : Int) > B))]] = some (.str S) := by rw [str5, hs]
  have hss : (CN o).base.cmp .NotEq (.str S) (.str S) = some false := by
    show some (S.cps.toList != S.cps.toList) = _
    simp
  have once : ∀ (ρ : Rho) (T : PV), (T = .qn Y ∨ T = .str Y) → ρ "name" = some (.imm (.qn X)) → ρ "twin" = some (.imm T) → ρ "str" = none → ((ρ.freeze ["due"]) "due" = some (.imm (.list [.bool (decide ((A : Int) < B)), .bool (decide ((A : Int) ≤ B)), .bool ((A : Int) == B), .bool (decide ((A : Int) ≥ B)), .bool (decide ((A : Int) > B))]))) →
      ∀ tg it body p, b16.1[4]? = some (.For tg it body [] p) → execs (exec (CN o) n16.1 19) body ρ (ρ.freeze ["due"], .next) := by
    intro ρ T hT g1 g2 g3 g4
    refine for_all rfl ?_
    have f1 : (ρ.freeze ["due"]) "name" = some (.imm (.qn X)) := g1
    have f2 : (ρ.freeze ["due"]) "twin" = some (.imm T) := g2
    have f3 : (ρ.freeze ["due"]) "str" = none := g3
    generalize hρ : ρ.freeze ["due"] = ρ1 at *
    refine x_cons (x_execf rfl hρ (x_if (t_pure (b := false) (e_cmp (e_call1 (fgl rfl f3) rfl (e_list (evs_cons (e_cmp (e_name f1 rfl) (e_name f2 rfl) (cmp_qn hq hT rfl k1) rfl) (evs_cons (e_cmp (e_name f1 rfl) (e_name f2 rfl) (cmp_qn hq hT rfl k2) rfl) (evs_cons (e_cmp (e_name f1 rfl) (e_name f2 rfl) (cmp_qn hq hT rfl k3) rfl) (evs_cons (e_cmp (e_name f1 rfl) (e_name f2 rfl) (cmp_qn hq hT rfl k4) rfl) (evs_cons (e_cmp (e_name f1 rfl) (e_name f2 rfl) (cmp_qn hq hT rfl k5) rfl) evs_nil))))) (sz rfl rfl)) hstr) (e_call1 (fgl rfl f3) (slot_imm g4) (e_name g4 rfl) hstr) hss rfl)) rfl)) rfl
  refine g_cons (x_exec rfl (x_for rfl rfl (e_list (evs_cons (e_call rfl (evs_cons e_str (evs_cons (e_name rfl rfl) evs_nil)) q2) (evs_cons (e_call rfl (evs_cons (e_bin e_str (e_name rfl rfl) hadd) (evs_cons e_str evs_nil)) q3) (evs_cons (e_bin e_str (e_name rfl rfl) hadd) evs_nil))) (sz rfl rfl)) (by unfold itemsPV; dsimp only; rw [if_pos (by rw [sizeLine_eq]; exact (by decide : 3 < 16777216))])
    (forGo_cons rfl (once _ _ (.inl rfl) rfl rfl rfl rfl _ _ _ _ rfl) (forGo_cons rfl (once _ _ (.inl rfl) rfl rfl rfl rfl _ _ _ _ rfl) (forGo_cons rfl (once _ _ (.inr rfl) rfl rfl rfl rfl _ _ _ _ rfl) forGo_nil))))) ?_
  exact g_ret (x_exec rfl (x_return (m_pure e_boolc rfl)))
end Nw

namespace Nw
set_option tactic.hygienic false

theorem e_strE {c : Cfg} {n : Nat} {N : Names} {ρ : Rho} {i s : Str} {j : Nat} {pos : Pos} (h : i = s) : ev c (n + 1) N ρ (.Constant (.str i) j pos) (.str s) := by subst h; exact e_str

/-! what the script tells -/
noncomputable def cellStep (xs : List Int) (c : Int × Int × Int) (k : Nat) : Int × Int × Int :=
  if k % 3 = 0 then (c.1 + xs.getD k 0, c.2.1, c.2.2) else if k % 3 = 1 then (c.1, c.2.1 + xs.getD k 0, c.2.2) else (c.1, c.2.1, c.2.2 + xs.getD k 0)
noncomputable def cellsOf (xs : List Int) : Int × Int × Int := (List.range xs.length).foldl (cellStep xs) (598, 3, 4314)
noncomputable def prs : List (Nat × Nat) := [(38, 60), (32, 120), (65, 97), (9, 32), (34, 62), (97, 233)]
noncomputable def signPV (p : Nat × Nat) : PV := .tup [.str (E p.1 p.2 [false]), .str (E p.1 p.2 [true])]
noncomputable def sgOf (b : Int) : Nat := ((b.fdiv 4).fmod 6).toNat
noncomputable def bitsOf (a b : Int) : List Bool := (List.range (7 + b.fmod 4).toNat).map fun k => decide ((a.fdiv (2 ^ k)).fmod 2 = 1)

noncomputable abbrev CD (o : O1) : CfgS := (o.orc [("len", ofF lenPV), ("range", ofF rangePV)]).cfg

theorem fmod_bd {a b : Int} (hb : 0 < b) : 0 ≤ a.fmod b ∧ a.fmod b < b := by
  rw [Int.fmod_eq_emod_of_nonneg _ (by lia)]
  exact ⟨Int.emod_nonneg _ (by lia), Int.emod_lt_of_pos _ hb⟩

theorem slot_lst {ρ : Rho} {x : Str} {pos : Pos} {ps : List PV} (h : ρ x = some (.lst ps)) (hx : okName x = true) : slotOf ρ (.Name x pos) = some (.lst ps) := by
  unfold slotOf; dsimp only
  rw [h]; dsimp only
  rw [if_pos hx]
theorem three_ok {a b c : PV} {j : Nat} (h : j < 3) : 0 ≤ (j : Int) ∧ (j : Int) < ([a, b, c].length : Int) ∧ [a, b, c].length < 2 ^ 60 :=
  ⟨by lia, by show (j : Int) < 3; lia, (by decide : 3 < 2 ^ 60)⟩

theorem cells_loop {o : O1} {xs : List Int} (hx : xs.length ≤ 1000) : ∀ (l : List Nat) (ρ : Rho) (c : Int × Int × Int), (∀ k ∈ l, k < xs.length) → ρ "cells" = some (.lst [.int c.1, .int c.2.1, .int c.2.2]) → ρ "script" = some (.imm (.list (intsPV xs))) →
    ∃ ρ', (∀ tg it body p, b11.1[1]? = some (.For tg it body [] p) → forGo n11.1 (execs (exec (CD o) n11.1 19) body) tg (l.map fun (k : Nat) => PV.int k) ρ (ρ', .next)) ∧
      ρ' "cells" = some (.lst [.int (l.foldl (cellStep xs) c).1, .int (l.foldl (cellStep xs) c).2.1, .int (l.foldl (cellStep xs) c).2.2]) ∧ ρ' "range" = ρ "range" ∧ ρ' "len" = ρ "len"
  | [], ρ, c, _, h1, h2 => ⟨ρ, fun _ _ _ _ _ => rfl, h1, rfl, rfl⟩
  | k :: l, ρ, c, h0, h1, h2 => by
    have hk := h0 k (.head _)
    obtain ⟨ρ', g1, g2, g3, g4⟩ := cells_loop (o := o) hx l ((ρ.set "place" (.imm (.int k))).set "cells" (.lst [.int (cellStep xs c k).1, .int (cellStep xs c k).2.1, .int (cellStep xs c k).2.2])) (cellStep xs c k) (fun j hj => h0 j (.tail _ hj)) rfl h2
    refine ⟨ρ', for_all rfl ?_, g2, g3, g4⟩
    have hix : idxPV (.list (intsPV xs)) (k : Int) = some (.int (xs.getD k 0)) := by
      refine idx_nat (by rw [List.length_map]; lia) ?_
      rw [List.getElem?_map, List.getD_eq_getElem?_getD, List.getElem?_eq_getElem hk]; rfl
    have hmod : bnop .Mod (.int k) (.int 3) = some (.int ((k % 3 : Nat) : Int)) := by
      rw [bnop_mod (by decide), Int.fmod_eq_emod_of_nonneg _ (by decide)]; rfl
    refine forGo_cons (ρ1 := ρ.set "place" (.imm (.int k))) rfl ?_ (g1 _ _ _ _ rfl)
    have h3 : k % 3 = 0 ∨ k % 3 = 1 ∨ k % 3 = 2 := by lia
    rcases h3 with h3 | h3 | h3
    · rw [h3] at hmod
      unfold cellStep
      rw [if_pos h3]
      exact x_cons (x_exec rfl (x_augi (j := ((0 : Nat) : Int)) rfl h1 (e_bin (e_name rfl rfl) e_int hmod) (three_ok (by decide)) rfl (e_sub (slot_imm h2) (e_name h2 rfl) (e_name rfl rfl) hix) rfl)) rfl
    · rw [h3] at hmod
      unfold cellStep
      rw [if_neg (by lia), if_pos h3]
      exact x_cons (x_exec rfl (x_augi (j := ((1 : Nat) : Int)) rfl h1 (e_bin (e_name rfl rfl) e_int hmod) (three_ok (by decide)) rfl (e_sub (slot_imm h2) (e_name h2 rfl) (e_name rfl rfl) hix) rfl)) rfl
    · rw [h3] at hmod
      unfold cellStep
      rw [if_neg (by lia), if_neg (by lia)]
      exact x_cons (x_exec rfl (x_augi (j := ((2 : Nat) : Int)) rfl h1 (e_bin (e_name rfl rfl) e_int hmod) (three_ok (by decide)) rfl (e_sub (slot_imm h2) (e_name h2 rfl) (e_name rfl rfl) hix) rfl)) rfl
theorem pairs_lit : [PV.tup [.str "&", .str "<"], .tup [.str " ", .str "x"], .tup [.str "A", .str "a"], .tup [.str "\t", .str " "], .tup [.str "\"", .str ">"], .tup [.str "a", .str "é"]] = prs.map signPV := by
  have h1 : Str.ofString "&" = E 38 60 [false] := by decide +kernel
  have h2 : Str.ofString "<" = E 38 60 [true] := by decide +kernel
  have h3 : Str.ofString " " = E 32 120 [false] := by decide +kernel
  have h4 : Str.ofString "x" = E 32 120 [true] := by decide +kernel
  have h5 : Str.ofString "A" = E 65 97 [false] := by decide +kernel
  have h6 : Str.ofString "a" = E 65 97 [true] := by decide +kernel
  have h7 : Str.ofString "\t" = E 9 32 [false] := by decide +kernel
  have h8 : E 32 120 [false] = E 9 32 [true] := by decide +kernel
  have h9 : Str.ofString "\"" = E 34 62 [false] := by decide +kernel
  have h10 : Str.ofString ">" = E 34 62 [true] := by decide +kernel
  have h11 : E 65 97 [true] = E 97 233 [false] := by decide +kernel
  have h12 : Str.ofString "é" = E 97 233 [true] := by decide +kernel
  show _ = [signPV (38, 60), signPV (32, 120), signPV (65, 97), signPV (9, 32), signPV (34, 62), signPV (97, 233)]
  unfold signPV
  dsimp only
  rw [← h8, ← h11, ← h1, ← h2, ← h3, ← h4, ← h5, ← h6, ← h7, ← h9, ← h10, ← h12]

noncomputable def drawPV (c : Int × Int × Int) : PV :=
  .tup [.str (E (prs.getD (sgOf c.2.1) (0, 0)).1 (prs.getD (sgOf c.2.1) (0, 0)).2 (bitsOf c.1 c.2.1)), signPV (prs.getD (sgOf c.2.1) (0, 0)), .int ((c.2.1.fdiv 24).fmod 3), .int (7 + c.2.2.fmod 7900)]

theorem sg_lt (b : Int) : sgOf b < 6 := by
  unfold sgOf
  have := fmod_bd (a := b.fdiv 4) (b := 6) (by decide)
  lia
theorem bits_len (a b : Int) : 7 ≤ (bitsOf a b).length ∧ (bitsOf a b).length ≤ 10 := by
  unfold bitsOf
  rw [List.length_map, List.length_range]
  have := fmod_bd (a := b) (b := 4) (by decide)
  lia
theorem prs_at {i : Nat} (h : i < 6) : ∃ p, prs[i]? = some p ∧ prs.getD i (0, 0) = p ∧ p.1 < p.2 ∧ p.2 < 0x110000 := by
  have : i = 0 ∨ i = 1 ∨ i = 2 ∨ i = 3 ∨ i = 4 ∨ i = 5 := by lia
  rcases this with rfl | rfl | rfl | rfl | rfl | rfl <;> exact ⟨_, rfl, rfl, by decide, by decide⟩
set_option maxHeartbeats 4000000 in
theorem draws_run {o : O1} {xs : List Int} (hx : xs.length ≤ 1000) : runFn (CD o) n11.1 20 ["script"] b11.1 [.list (intsPV xs)] (drawPV (cellsOf xs)) := by
  obtain ⟨ρ', w1, w2, w3, w4⟩ := cells_loop (o := o) hx (List.range xs.length) ((rho0 ["script"] [.list (intsPV xs)]).set "cells" (.lst [.int 598, .int 3, .int 4314])) (598, 3, 4314) (fun k hk => List.mem_range.mp hk) rfl rfl
  change ρ' "cells" = some (.lst [.int (cellsOf xs).1, .int (cellsOf xs).2.1, .int (cellsOf xs).2.2]) at w2
  generalize cellsOf xs = cc at *
  obtain ⟨a, b, c⟩ := cc
  change ρ' "cells" = some (.lst [.int a, .int b, .int c]) at w2
  show runFn _ _ _ _ _ _ (PV.tup [.str (E (prs.getD (sgOf b) (0, 0)).1 (prs.getD (sgOf b) (0, 0)).2 (bitsOf a b)), signPV (prs.getD (sgOf b) (0, 0)), .int ((b.fdiv 24).fmod 3), .int (7 + c.fmod 7900)])
  obtain ⟨p, hp1, hp2, hp3, hp4⟩ := prs_at (sg_lt b)
  rw [hp2]
  have hsg : (b.fdiv 4).fmod 6 = ((sgOf b : Nat) : Int) := by
    unfold sgOf
    have := fmod_bd (a := b.fdiv 4) (b := 6) (by decide)
    lia
  have dv : ∀ (x y : Int), 0 < y → y < 2 ^ 60 → bnop .FloorDiv (.int x) (.int y) = some (.int (x.fdiv y)) := fun x y h1 h2 => by
    rw [bnop_div (by lia) (pylong_small ?_)]
    have := log2_le (a := y) (m := 60) (by lia) h2 (by decide)
    lia
  have M1 : bnop .Mod (.int (b.fdiv 4)) (.int 6) = some (.int ((sgOf b : Nat) : Int)) := by rw [bnop_mod (by decide), hsg]
  have hix : idxPV (.list [PV.tup [.str "&", .str "<"], .tup [.str " ", .str "x"], .tup [.str "A", .str "a"], .tup [.str "\t", .str " "], .tup [.str "\"", .str ">"], .tup [.str "a", .str "é"]]) ((sgOf b : Nat) : Int) = some (signPV p) := by rw [pairs_lit]; exact idx_nat (by decide) (by rw [List.getElem?_map, hp1]; rfl)
  have hm4 := fmod_bd (a := b) (b := 4) (by decide)
  have hbit : ∀ k : Nat, idxPV (signPV p) ((a.fdiv (2 ^ k)).fmod 2) = some (.str (E p.1 p.2 [decide ((a.fdiv (2 ^ k)).fmod 2 = 1)])) := by
    intro k
    have h2 := fmod_bd (a := a.fdiv (2 ^ k)) (b := 2) (by decide)
    generalize (a.fdiv (2 ^ k)).fmod 2 = z at *
    have : z = 0 ∨ z = 1 := by lia
    rcases this with rfl | rfl <;> rfl
  have hjoin : joinPV (.str "") [.list ((List.range (7 + b.fmod 4).toNat).map fun k => PV.str (E p.1 p.2 [decide ((a.fdiv (2 ^ k)).fmod 2 = 1)]))] = some (.str (E p.1 p.2 (bitsOf a b))) := by
    unfold joinPV; dsimp only
    rw [strsOf_map]
    simp only [Option.bind_some]
    rw [if_pos]
    · have := E_join (u := p.1) (v := p.2) ((bitsOf a b).map fun x => [x])
      rw [List.map_map] at this
      have e : ((bitsOf a b).map fun x => [x]).flatten = bitsOf a b := by
        induction bitsOf a b with
        | nil => rfl
        | cons x l ih => rw [List.map_cons, List.flatten_cons, ih]; rfl
      rw [e] at this
      rw [← this]
      congr 2
      unfold bitsOf
      rw [List.map_map]
      rfl
    · rw [List.map_map, List.length_map, List.length_range, show (Str.ofString "").length = 0 by decide +kernel]
      have : (List.map ((fun x : Str => x.length) ∘ fun k => E p.1 p.2 [decide ((a.fdiv (2 ^ k)).fmod 2 = 1)]) (List.range (7 + b.fmod 4).toNat)).sum ≤ 1 * (7 + b.fmod 4).toNat := by
        have : ∀ (f : Nat → Nat) (l : List Nat), (∀ k ∈ l, f k ≤ 1) → (l.map f).sum ≤ 1 * l.length := by
          intro f l h
          induction l with
          | nil => simp
          | cons x l ih =>
            rw [List.map_cons, List.sum_cons, List.length_cons]
            have h1 := h x (.head _)
            have h2 := ih fun k hk => h k (.tail _ hk)
            lia
        have := this ((fun x : Str => x.length) ∘ fun k => E p.1 p.2 [decide ((a.fdiv (2 ^ k)).fmod 2 = 1)]) (List.range (7 + b.fmod 4).toNat) (fun k _ => by show (E _ _ _).length ≤ 1; rw [E_len]; simp)
        rwa [List.length_range] at this
      lia
  unfold b11 n11 at *
  refine run_ex rfl (g_cons (x_exec rfl (x_slot (by decide) rfl (f_list (evs_cons e_int (evs_cons e_int (evs_cons e_int evs_nil))) (sz rfl rfl)))) ?_)
  refine g_cons (x_exec rfl (x_for (its := (List.range xs.length).map fun (k : Nat) => PV.int k) rfl rfl (e_call1 rfl rfl (e_lenL rfl rfl (e_name rfl rfl) (fun _ => rfl) (by rw [List.length_map]; lia)) rfl) (items_rng0 (by rw [List.length_map]) (by lia)) (w1 _ _ _ _ rfl))) ?_
  refine g_cons (x_exec rfl (x_slot (by decide) rfl (f_list ((evs_cons (e_tup (evs_cons e_str (evs_cons e_str evs_nil)) (sz rfl rfl)) (evs_cons (e_tup (evs_cons e_str (evs_cons e_str evs_nil)) (sz rfl rfl)) (evs_cons (e_tup (evs_cons e_str (evs_cons e_str evs_nil)) (sz rfl rfl)) (evs_cons (e_tup (evs_cons e_str (evs_cons e_str evs_nil)) (sz rfl rfl)) (evs_cons (e_tup (evs_cons e_str (evs_cons e_str evs_nil)) (sz rfl rfl)) (evs_cons (e_tup (evs_cons e_str (evs_cons e_str evs_nil)) (sz rfl rfl)) evs_nil))))))) (sz rfl rfl)))) ?_
  refine g_cons (x_exec rfl (x_name (by decide) rfl (m_pure (e_sublst (slot_lst rfl rfl) (e_bin (e_bin (e_sublst (slot_lst w2 rfl) e_int rfl) e_int (dv _ _ (by decide) (by decide))) e_int M1) hix) rfl))) ?_
  refine g_cons (x_exec rfl (x_name (by decide) rfl (m_pure (e_meth rfl rfl e_str (evs_cons (e_comp (items := (List.range (7 + b.fmod 4).toNat).map fun (k : Nat) => PV.int k) rfl (e_call1 (fgl rfl w3) rfl (e_bin e_int (e_bin (e_sublst (slot_lst w2 rfl) e_int rfl) e_int (bnop_mod (by decide))) rfl) rfl) (items_rng0 (by lia) (by lia)) (comp1_map fun k hk => ⟨_, rfl, ?_⟩) ?_) evs_nil) hjoin) rfl))) ?_
  · rw [List.mem_range] at hk
    have hk10 : k < 11 := by lia
    have hpk : (0 : Int) < 2 ^ k := Int.pow_pos (by decide)
    have hpk2 : (2 : Int) ^ k ≤ 2 ^ 11 := le_of_pow (by lia)
    have P : bnop .Pow (.int 2) (.int k) = some (.int (2 ^ k)) := by rw [bnop_pow (m := 2) (by lia) (by decide) (by lia), Int.toNat_natCast]
    exact e_sub rfl (e_name rfl rfl) (e_bin (e_bin (e_sublst (slot_lst w2 rfl) e_int rfl) (e_bin e_int (e_name rfl rfl) P) (dv _ _ hpk (by lia))) e_int (bnop_mod (by decide))) (hbit k)
  · rw [List.length_map, List.length_range, sizeLine_eq]; lia
  · refine g_ret (x_exec rfl (x_return (m_tup (evs_cons (e_name rfl rfl) (evs_cons (e_name rfl rfl) (evs_cons (e_bin (e_bin (e_sublst (slot_lst w2 rfl) e_int rfl) e_int (dv _ _ (by decide) (by decide))) e_int (bnop_mod (by decide))) (evs_cons (e_bin e_int (e_bin (e_sublst (slot_lst w2 rfl) e_int rfl) e_int (bnop_mod (by decide))) rfl) evs_nil)))) rfl (sz rfl rfl))))
end Nw

namespace Nw
set_option tactic.hygienic false

noncomputable def drawsS : Rel := fun ps r => ∃ xs : List Int, ps = [.list (intsPV xs)] ∧ xs.length ≤ 1000 ∧ r = drawPV (cellsOf xs)
noncomputable def wordsS (u v : Nat) : Rel := fun ps r => ∃ x : List Bool, ps = [.str (E u v x)] ∧ x.length ≤ 17 ∧ r = .list ((wordsB x.length x).map (pairW u v))
noncomputable def straightS (u v : Nat) : Rel := fun ps r => ∃ (x : List Bool) (q : Int), ps = [.str (E u v x), .str (E u v [true]), .int q] ∧ (0 < x.length ∧ x.length ≤ 10 ∧ 7 ≤ q ∧ q ≤ 7906) ∧ r = .bool (straightB x)
noncomputable def pointsS (u v : Nat) : Rel := fun ps r => ∃ x : List Bool, ps = [.str (E u v x), .str (E u v [true])] ∧ x.length ≤ 100 ∧ r = .list ((ptsB (colsB x)).map ptPV)
noncomputable def namedS (u v : Nat) : Rel := fun ps r => ∃ a b : List Bool, ps = [.str (E u v a), .str (E u v b), .tup [.str (E u v [false]), .str (E u v [true])]] ∧ (a ≠ [] ∧ b ≠ [] ∧ a.length ≤ 100 ∧ b.length ≤ 100 ∧ namedB a b = true) ∧ r = .bool true

noncomputable def accNw : List PV → Option Int
  | [.int hd] => some hd
  | _ => none
noncomputable def o1 : O1 := ⟨fun _ _ => none, smP, accNw⟩
noncomputable def o2 : O1 := ⟨scP, smQ, accNw⟩

/-- what law 1 asks of its world -/
structure L1 (W : Wd) : Prop where
  ok : WdOK W
  glen : W.glob "len" (.builtin "len")
  grange : W.glob "range" (.type "range")
  gmin : W.glob "min" (.builtin "min")
  gstr : W.glob "str" (.type "str")
  gdivmod : W.glob "divmod" (.builtin "divmod")
  grev : W.glob "reversed" (.type "reversed")
  glim : ∃ t, W.glob "_DIV_LIMIT" (.int 4000 t)
  f3 : ∃ a o fd, FnAt W "_div2n1n" ["a", "b", "n"] b3.1 n3.1 a o fd
  f4 : ∃ a o fd, FnAt W "_div3n2n" ["a12", "a3", "b", "b1", "b2", "n"] b4.1 n4.1 a o fd
  f11 : ∃ a o fd, FnAt W "_law_draws" ["script"] b11.1 n11.1 a o fd
  f12 : ∃ a o fd, FnAt W "_law_words" ["way"] b12.1 n12.1 a o fd
  f13 : ∃ a o fd, FnAt W "_law_heights" ["ups", "size", "places"] b13.1 n13.1 a o fd
  f14 : ∃ a o fd, FnAt W "_law_is_straight" ["word", "north", "places"] b14.1 n14.1 a o fd
  f15 : ∃ a o fd, FnAt W "_law_points_under_the_rope" ["way", "north"] b15.1 n15.1 a o fd
  f16 : ∃ a o fd, FnAt W "_law_named_in_order" ["one", "other", "signs"] b16.1 n16.1 a o fd
  qn : FnOK W 1 "QName" (ofF qnPV)
  nw : ∀ ps hd, accNw ps = some hd → MakeOK W 2 "_Accumulator" ps hd
  pile : ∃ K, PileOK W K
  qcmp : ∃ K, QCmp W K

section
variable {W : Wd} (L : L1 W)
include L
theorem L1.prims (k : Nat) : FnOK W k "len" (ofF lenPV) ∧ FnOK W k "range" (ofF rangePV) ∧ FnOK W k "min" (ofF minPV) ∧ FnOK W k "str" (ofF strPV) ∧ FnOK W k "divmod" (ofF divmodPV) :=
  ⟨.prim prim_len L.glen (callee_builtin _), .prim prim_range L.grange (callee_type _), .prim prim_min L.gmin (callee_builtin _), .prim prim_str L.gstr (callee_type _), .prim prim_divmod L.gdivmod (callee_builtin _)⟩

theorem L1.orc0 {o : O1} (ho : o = o1 ∨ (o = o2 ∧ (∀ f sl r, scP f sl = some r → SCallOK W 5 f sl r) ∧
    (∀ m sl ps r, smQ m sl ps = some r → SMethOK W 5 m sl ps r))) : OrcOK W (o.orc []) 5 where
  consts := fun x p h => by
    have h' : (x, p) ∈ [((Str.ofString "_DIV_LIMIT", PV.int 4000) : Str × PV)] := h
    rw [List.mem_singleton] at h'
    cases h'
    obtain ⟨t, ht⟩ := L.glim
    exact ⟨_, ht, fun F => ⟨t, rfl⟩⟩
  fns := fun f g h => by cases h
  sc := by
    rcases ho with rfl | ⟨rfl, h, _⟩
    · intro f sl r h; cases h
    · exact h
  sm := by
    rcases ho with rfl | ⟨rfl, _, h⟩
    · obtain ⟨K, P⟩ := L.pile
      intro m sl ps r h
      obtain ⟨fv, h1, h2, h3⟩ := smP_sound P m sl ps r h
      exact ⟨fv, h1, h2, fun A F s env v vs hA => h3 A F s env v vs (hA.le (by decide))⟩
    · exact h
  nw := by
    intro f ps hd h
    have h' : (if f = "_Accumulator" then o.nw ps else none) = some hd := h
    by_cases hf : f = "_Accumulator"
    · subst hf
      rw [if_pos rfl] at h'
      have h2 : accNw ps = some hd := by rcases ho with rfl | ⟨rfl, _⟩ <;> exact h'
      obtain ⟨fv, h3, h4, h5⟩ := L.nw ps hd h2
      exact ⟨fv, h3, h4, fun A F s vs hA => h5 A F s vs (hA.le (by decide))⟩
    · rw [if_neg hf] at h'; cases h'
  mm := by
    obtain ⟨K, P⟩ := L.pile
    intro m hd items ps r items' h
    obtain ⟨fv, h1, h2, h3⟩ := mmP_sound P m hd items ps r items' h
    exact ⟨fv, h1, h2, fun A F s env a vs hA => h3 A F s env a vs (hA.le (by decide))⟩
  ic := by
    intro f g h ps items hi
    have h' : (f, g) ∈ [((Str.ofString "reversed", revPV) : Str × (List PV → Option (List PV)))] := h
    rw [List.mem_singleton] at h'
    cases h'
    exact ⟨_, L.grev, callee_type _, fun A F s vs hA => itc_reversed ps items hi A F s vs (hA.le (Nat.zero_le _))⟩
  ic2 := by
    intro f g ps items h
    cases h
  cq := by
    obtain ⟨K, Q⟩ := L.qcmp
    intro op a b r h A F s v u hA
    exact cmpQ_sound L.ok Q op a b r h A F s v u (hA.le (by decide))
end
end Nw

namespace Nw
set_option tactic.hygienic false

theorem FnOK.none {W : Wd} {k : Nat} {f : Str} : FnOK W k f (fun _ _ => False) := fun ps r h => h.elim
section
variable {W : Wd} (L : L1 W)
include L
theorem L1.orc (fns : List (Str × Rel)) {k : Nat} (hk : 5 ≤ k) (h : ∀ f g, (f, g) ∈ fns → FnOK W k f g) : OrcOK W (o1.orc fns) k := (L.orc0 (.inl rfl)).fns' hk h

theorem L1.div2a : FnOK W 6 "_div2n1n" (div2S 4000) := by
  obtain ⟨a, o, fd, hf⟩ := L.f3
  refine fn_ok L.ok (L.orc [("divmod", ofF divmodPV), ("_div3n2n", fun _ _ => False)] (Nat.le_refl 5) ?_) hf (by decide) (div2_run (o := o1) (g := fun _ _ => False) (by lia))
  intro f g h
  simp only [List.mem_cons, List.not_mem_nil, or_false, Prod.mk.injEq] at h
  rcases h with ⟨rfl, rfl⟩ | ⟨rfl, rfl⟩
  · exact (L.prims 5).2.2.2.2
  · exact .none
theorem L1.div3a : FnOK W 7 "_div3n2n" (div3S 4000) := by
  obtain ⟨a, o, fd, hf⟩ := L.f4
  refine fn_ok L.ok (L.orc [("_div2n1n", div2S 4000)] (show 5 ≤ 6 by decide) ?_) hf (by decide) (div3_run (o := o1) (by decide))
  intro f g h
  simp only [List.mem_cons, List.not_mem_nil, or_false, Prod.mk.injEq] at h
  rcases h with ⟨rfl, rfl⟩
  exact L.div2a
theorem L1.div2b : FnOK W 8 "_div2n1n" (div2S 7999) := by
  obtain ⟨a, o, fd, hf⟩ := L.f3
  refine fn_ok L.ok (L.orc [("divmod", ofF divmodPV), ("_div3n2n", div3S 4000)] (show 5 ≤ 7 by decide) ?_) hf (by decide) (div2_run (o := o1) (g := div3S 4000) (fun _ => ⟨rfl, by decide⟩))
  intro f g h
  simp only [List.mem_cons, List.not_mem_nil, or_false, Prod.mk.injEq] at h
  rcases h with ⟨rfl, rfl⟩ | ⟨rfl, rfl⟩
  · exact (L.prims 7).2.2.2.2
  · exact L.div3a
theorem L1.div3b : FnOK W 9 "_div3n2n" (div3S 7999) := by
  obtain ⟨a, o, fd, hf⟩ := L.f4
  refine fn_ok L.ok (L.orc [("_div2n1n", div2S 7999)] (show 5 ≤ 8 by decide) ?_) hf (by decide) (div3_run (o := o1) (by decide))
  intro f g h
  simp only [List.mem_cons, List.not_mem_nil, or_false, Prod.mk.injEq] at h
  rcases h with ⟨rfl, rfl⟩
  exact L.div2b
theorem L1.heights : FnOK W 10 "_law_heights" htS := by
  obtain ⟨a, o, fd, hf⟩ := L.f13
  refine fn_ok L.ok (L.orc [("range", ofF rangePV), ("_div3n2n", div3S 7999)] (show 5 ≤ 9 by decide) ?_) hf (by decide) (heights_run (o := o1))
  intro f g h
  simp only [List.mem_cons, List.not_mem_nil, or_false, Prod.mk.injEq] at h
  rcases h with ⟨rfl, rfl⟩ | ⟨rfl, rfl⟩
  · exact (L.prims 9).2.1
  · exact L.div3b
theorem L1.straight {u v : Nat} (huv : u < v) : FnOK W 11 "_law_is_straight" (straightS u v) := by
  obtain ⟨a, o, fd, hf⟩ := L.f14
  refine fn_ok L.ok (L.orc [("len", ofF lenPV), ("range", ofF rangePV), ("_law_heights", htS)] (show 5 ≤ 10 by decide) ?_) hf (by decide) (n := 20) ?_
  · intro f g h
    simp only [List.mem_cons, List.not_mem_nil, or_false, Prod.mk.injEq] at h
    rcases h with ⟨rfl, rfl⟩ | ⟨rfl, rfl⟩ | ⟨rfl, rfl⟩
    · exact (L.prims 10).1
    · exact (L.prims 10).2.1
    · exact L.heights
  · rintro ps r ⟨x, q, rfl, ⟨h3, h4, h5⟩, rfl⟩
    exact straight_run (o := o1) huv h3 h4 h5
theorem L1.points {u v : Nat} (huv : u < v) : FnOK W 6 "_law_points_under_the_rope" (pointsS u v) := by
  obtain ⟨a, o, fd, hf⟩ := L.f15
  refine fn_ok L.ok (L.orc [("len", ofF lenPV), ("range", ofF rangePV)] (show 5 ≤ 5 by decide) ?_) hf (by decide) (n := 20) ?_
  · intro f g h
    simp only [List.mem_cons, List.not_mem_nil, or_false, Prod.mk.injEq] at h
    rcases h with ⟨rfl, rfl⟩ | ⟨rfl, rfl⟩
    · exact (L.prims 5).1
    · exact (L.prims 5).2.1
  · rintro ps r ⟨x, rfl, h3, rfl⟩
    exact points_run (o := o1) huv h3
theorem L1.words {u v : Nat} (huv : u < v) : FnOK W 6 "_law_words" (wordsS u v) := by
  obtain ⟨a, o, fd, hf⟩ := L.f12
  refine fn_ok L.ok (L.orc [("len", ofF lenPV), ("range", ofF rangePV), ("min", ofF minPV)] (show 5 ≤ 5 by decide) ?_) hf (by decide) (n := 20) ?_
  · intro f g h
    simp only [List.mem_cons, List.not_mem_nil, or_false, Prod.mk.injEq] at h
    rcases h with ⟨rfl, rfl⟩ | ⟨rfl, rfl⟩ | ⟨rfl, rfl⟩
    · exact (L.prims 5).1
    · exact (L.prims 5).2.1
    · exact (L.prims 5).2.2.1
  · rintro ps r ⟨x, rfl, h2, rfl⟩
    exact words_run (o := o1) huv h2
theorem L1.draws : FnOK W 6 "_law_draws" drawsS := by
  obtain ⟨a, o, fd, hf⟩ := L.f11
  refine fn_ok L.ok (L.orc [("len", ofF lenPV), ("range", ofF rangePV)] (show 5 ≤ 5 by decide) ?_) hf (by decide) (n := 20) ?_
  · intro f g h
    simp only [List.mem_cons, List.not_mem_nil, or_false, Prod.mk.injEq] at h
    rcases h with ⟨rfl, rfl⟩ | ⟨rfl, rfl⟩
    · exact (L.prims 5).1
    · exact (L.prims 5).2.1
  · rintro ps r ⟨xs, rfl, hl, rfl⟩
    exact draws_run (o := o1) hl
theorem L1.named {u v : Nat} (huv : u < v) : FnOK W 6 "_law_named_in_order" (namedS u v) := by
  obtain ⟨a, o, fd, hf⟩ := L.f16
  refine fn_ok L.ok (L.orc [("str", ofF strPV), ("QName", ofF qnPV)] (show 5 ≤ 5 by decide) ?_) hf (by decide) (n := 20) ?_
  · intro f g h
    simp only [List.mem_cons, List.not_mem_nil, or_false, Prod.mk.injEq] at h
    rcases h with ⟨rfl, rfl⟩ | ⟨rfl, rfl⟩
    · exact (L.prims 5).2.2.2.1
    · exact L.qn.mono (by decide)
  · rintro ps r ⟨a, b, rfl, ⟨h5, h6, h7, h8, h9⟩, rfl⟩
    exact named_run (o := o1) huv h5 h6 h7 h8 h9
end
end Nw

namespace Nw

noncomputable def straightN (bs : List Bool) : Bool := (List.range (bs.length + 1)).all fun k => Nat.beq (k * bs.count true / bs.length) ((bs.take k).count true)
theorem straight_N (bs : List Bool) : straightB bs = straightN bs := by
  unfold straightB straightN htList htsB
  rw [Bool.eq_iff_iff, decide_eq_true_iff, List.all_eq_true, List.map_inj_left]
  constructor
  · intro h k hk
    have := h k hk
    rw [Nat.beq_eq]
    omega
  · intro h k hk
    have := h k hk
    rw [Nat.beq_eq] at this
    rw [this]

noncomputable abbrev PW := List Bool × List Bool
noncomputable def catB (p : PW) : List Bool := p.1 ++ p.2
noncomputable def mergeGo : List PW → PW → List PW × PW
  | [], w => ([], w)
  | l :: r, w => if ltB (catB w) (catB l) then mergeGo r (catB w, catB l) else (l :: r, w)
noncomputable def pileGo : List Bool → List PW → List PW
  | [], st => st
  | s :: r, st => pileGo r ((mergeGo st ([], [s])).2 :: (mergeGo st ([], [s])).1)
noncomputable def dueB (p : PW) : Bool := if p.1.isEmpty then true else (straightN p.1 && straightN p.2) && (p.1.count false * p.2.count true == p.1.count true * p.2.count false + 1)
noncomputable def adjB : List PW → Bool
  | [] => true
  | [_] => true
  | a :: b :: r => (!(straightN (catB a) && straightN (catB b)) || (namedB (catB a) (catB b) && namedB (catB b) (catB a))) && adjB (b :: r)
noncomputable def eqL : List Bool → List Bool → Bool
  | [], [] => true
  | a :: x, b :: y => a == b && eqL x y
  | _, _ => false
noncomputable def eqW : List PW → List PW → Bool
  | [], [] => true
  | a :: x, b :: y => eqL a.1 b.1 && eqL a.2 b.2 && eqW x y
  | _, _ => false
noncomputable def checkOn (way : List Bool) (ws : List PW) : Bool :=
  eqW (pileGo way.reverse []) ws.reverse && ws.all (fun w => !w.2.isEmpty && Nat.ble (catB w).length 10) && ((ws.map catB).flatten.length == way.length && (ws.map catB).flatten.contains true == way.contains true && (ws.map catB).flatten.contains false == way.contains false) &&
    ws.all (fun w => straightN (catB w) == dueB w) && adjB ws && ((ptsB (colsB way)).isEmpty == ws.all fun w => straightN (catB w))
noncomputable def checkW (way : List Bool) : Bool := checkOn way (wordsB way.length way)
noncomputable def allW : Nat → List (List Bool)
  | 0 => [[]]
  | n + 1 => (allW n).map (false :: ·) ++ (allW n).map (true :: ·)
theorem ck7_0 : ((allW 6).all fun s => checkW ([false] ++ s)) = true := by decide +kernel
theorem ck7_1 : ((allW 6).all fun s => checkW ([true] ++ s)) = true := by decide +kernel
theorem pre7 : ∀ p ∈ allW 1, ((allW 6).all fun s => checkW (p ++ s)) = true := by
  change ∀ p ∈ [[false], [true]], _
  simp only [List.forall_mem_cons]
  exact ⟨ck7_0, ck7_1, fun _ h => by cases h⟩
theorem ck8_0 : ((allW 6).all fun s => checkW ([false, false] ++ s)) = true := by decide +kernel
theorem ck8_1 : ((allW 6).all fun s => checkW ([false, true] ++ s)) = true := by decide +kernel
theorem ck8_2 : ((allW 6).all fun s => checkW ([true, false] ++ s)) = true := by decide +kernel
theorem ck8_3 : ((allW 6).all fun s => checkW ([true, true] ++ s)) = true := by decide +kernel
theorem pre8 : ∀ p ∈ allW 2, ((allW 6).all fun s => checkW (p ++ s)) = true := by
  change ∀ p ∈ [[false, false], [false, true], [true, false], [true, true]], _
  simp only [List.forall_mem_cons]
  exact ⟨ck8_0, ck8_1, ck8_2, ck8_3, fun _ h => by cases h⟩
theorem ck9_0 : ((allW 6).all fun s => checkW ([false, false, false] ++ s)) = true := by decide +kernel
theorem ck9_1 : ((allW 6).all fun s => checkW ([false, false, true] ++ s)) = true := by decide +kernel
theorem ck9_2 : ((allW 6).all fun s => checkW ([false, true, false] ++ s)) = true := by decide +kernel
theorem ck9_3 : ((allW 6).all fun s => checkW ([false, true, true] ++ s)) = true := by decide +kernel
theorem ck9_4 : ((allW 6).all fun s => checkW ([true, false, false] ++ s)) = true := by decide +kernel
theorem ck9_5 : ((allW 6).all fun s => checkW ([true, false, true] ++ s)) = true := by decide +kernel
theorem ck9_6 : ((allW 6).all fun s => checkW ([true, true, false] ++ s)) = true := by decide +kernel
theorem ck9_7 : ((allW 6).all fun s => checkW ([true, true, true] ++ s)) = true := by decide +kernel
theorem pre9 : ∀ p ∈ allW 3, ((allW 6).all fun s => checkW (p ++ s)) = true := by
  change ∀ p ∈ [[false, false, false], [false, false, true], [false, true, false], [false, true, true], [true, false, false], [true, false, true], [true, true, false], [true, true, true]], _
  simp only [List.forall_mem_cons]
  exact ⟨ck9_0, ck9_1, ck9_2, ck9_3, ck9_4, ck9_5, ck9_6, ck9_7, fun _ h => by cases h⟩
theorem ck10_0 : ((allW 6).all fun s => checkW ([false, false, false, false] ++ s)) = true := by decide +kernel
theorem ck10_1 : ((allW 6).all fun s => checkW ([false, false, false, true] ++ s)) = true := by decide +kernel
theorem ck10_2 : ((allW 6).all fun s => checkW ([false, false, true, false] ++ s)) = true := by decide +kernel
theorem ck10_3 : ((allW 6).all fun s => checkW ([false, false, true, true] ++ s)) = true := by decide +kernel
theorem ck10_4 : ((allW 6).all fun s => checkW ([false, true, false, false] ++ s)) = true := by decide +kernel
theorem ck10_5 : ((allW 6).all fun s => checkW ([false, true, false, true] ++ s)) = true := by decide +kernel
theorem ck10_6 : ((allW 6).all fun s => checkW ([false, true, true, false] ++ s)) = true := by decide +kernel
theorem ck10_7 : ((allW 6).all fun s => checkW ([false, true, true, true] ++ s)) = true := by decide +kernel
theorem ck10_8 : ((allW 6).all fun s => checkW ([true, false, false, false] ++ s)) = true := by decide +kernel
theorem ck10_9 : ((allW 6).all fun s => checkW ([true, false, false, true] ++ s)) = true := by decide +kernel
theorem ck10_10 : ((allW 6).all fun s => checkW ([true, false, true, false] ++ s)) = true := by decide +kernel
theorem ck10_11 : ((allW 6).all fun s => checkW ([true, false, true, true] ++ s)) = true := by decide +kernel
theorem ck10_12 : ((allW 6).all fun s => checkW ([true, true, false, false] ++ s)) = true := by decide +kernel
theorem ck10_13 : ((allW 6).all fun s => checkW ([true, true, false, true] ++ s)) = true := by decide +kernel
theorem ck10_14 : ((allW 6).all fun s => checkW ([true, true, true, false] ++ s)) = true := by decide +kernel
theorem ck10_15 : ((allW 6).all fun s => checkW ([true, true, true, true] ++ s)) = true := by decide +kernel
theorem pre10 : ∀ p ∈ allW 4, ((allW 6).all fun s => checkW (p ++ s)) = true := by
  change ∀ p ∈ [[false, false, false, false], [false, false, false, true], [false, false, true, false], [false, false, true, true], [false, true, false, false], [false, true, false, true], [false, true, true, false], [false, true, true, true], [true, false, false, false], [true, false, false, true], [true, false, true, false], [true, false, true, true], [true, true, false, false], [true, true, false, true], [true, true, true, false], [true, true, true, true]], _
  simp only [List.forall_mem_cons]
  exact ⟨ck10_0, ck10_1, ck10_2, ck10_3, ck10_4, ck10_5, ck10_6, ck10_7, ck10_8, ck10_9, ck10_10, ck10_11, ck10_12, ck10_13, ck10_14, ck10_15, fun _ h => by cases h⟩
theorem mem_allW : ∀ (w : List Bool), w ∈ allW w.length
  | [] => .head _
  | false :: w => List.mem_append_left _ (List.mem_map_of_mem (mem_allW w))
  | true :: w => List.mem_append_right _ (List.mem_map_of_mem (mem_allW w))
theorem check_of {m : Nat} (h : ∀ p ∈ allW m, ((allW 6).all fun s => checkW (p ++ s)) = true) {w : List Bool} (hw : w.length = m + 6) : checkW w = true := by
  have h1 : (w.take m).length = m := by rw [List.length_take]; omega
  have h2 : (w.drop m).length = 6 := by rw [List.length_drop]; omega
  have hp := mem_allW (w.take m)
  have hs := mem_allW (w.drop m)
  rw [h1] at hp
  rw [h2] at hs
  have := List.all_eq_true.mp (h _ hp) _ hs
  rwa [List.take_append_drop] at this
theorem check_all {w : List Bool} (h1 : 7 ≤ w.length) (h2 : w.length ≤ 10) : checkW w = true := by
  have : w.length = 1 + 6 ∨ w.length = 2 + 6 ∨ w.length = 3 + 6 ∨ w.length = 4 + 6 := by omega
  rcases this with h | h | h | h
  · exact check_of pre7 h
  · exact check_of pre8 h
  · exact check_of pre9 h
  · exact check_of pre10 h
end Nw

namespace Nw
set_option tactic.hygienic false

/-- the names that may differ -/
noncomputable def Same (xs : List Str) (ρ ρ' : Rho) : Prop := ∀ y, xs.contains y = false → ρ' y = ρ y
theorem Same.refl (xs : List Str) (ρ : Rho) : Same xs ρ ρ := fun _ _ => rfl
theorem Same.trans {xs : List Str} {a b c : Rho} (h : Same xs a b) (g : Same xs b c) : Same xs a c := fun y hy => (g y hy).trans (h y hy)
theorem Same.set {xs : List Str} {a b : Rho} (h : Same xs a b) {x : Str} {sl : Slot} (hx : xs.contains x = true) : Same xs a (b.set x sl) := fun y hy => by
  unfold Rho.set
  rw [if_neg]
  · exact h y hy
  · rintro rfl; rw [hx] at hy; cases hy

section
variable {C : CfgS} {n : Nat} {N : Names} {ρ ρ1 ρ2 : Rho} {go : Rho → Stmt → Rho × FlowP → Prop}
theorem evi_yes {f x : Str} {pn px pos : Pos} {p : PV} {its : List PV} (hf : (okName f && N.lookup f == some .globalImplicit && (ρ f).isNone) = true) {g : List PV → Option (List PV)} (h1 : ev C.base n N ρ (.Name x px) p) (hc : ∀ ps, C.itc f ps = g ps) (h2 : g [p] = some its) : evi C N n ρ (.Call (.Name f pn) [.Name x px] [] pos) its := i_call hf h1 ((hc _).trans h2)
theorem e_callg1 {c : Cfg} {f : Str} {a : Expr} {pn pos : Pos} {q p : PV} {g : Rel} (hf : (okName f && N.lookup f == some .globalImplicit && (ρ f).isNone) = true) (hs : slotOf ρ a = none) (h1 : ev c n N ρ a q) (hc : ∀ ps, c.call f ps = g ps) (h2 : g [q] p) : ev c (n + 1) N ρ (.Call (.Name f pn) [a] [] pos) p := e_call1 hf hs h1 (by rw [hc]; exact h2)
theorem e_callg {c : Cfg} {f : Str} {a b : Expr} {as : List Expr} {pn pos : Pos} {ps : List PV} {p : PV} {g : Rel} (hf : (okName f && N.lookup f == some .globalImplicit && (ρ f).isNone) = true) (h1 : evs (ev c n N ρ) (a :: b :: as) ps) (hc : ∀ ps, c.call f ps = g ps) (h2 : g ps p) : ev c (n + 1) N ρ (.Call (.Name f pn) (a :: b :: as) [] pos) p := e_call hf h1 (by rw [hc]; exact h2)
end

theorem E_nil (u v : Nat) : Str.ofString "" = E u v [] := by
  rw [show Str.ofString "" = ⟨#[]⟩ by decide +kernel]; rfl
theorem join_tup {u v : Nat} {p : PW} (h : (catB p).length ≤ 1000) : joinPV (.str "") [pairW u v p] = some (.str (E u v (catB p))) := by
  unfold joinPV pairW; dsimp only
  show ((strsOf [PV.str (E u v p.1), PV.str (E u v p.2)]).bind _) = _
  rw [show strsOf [PV.str (E u v p.1), PV.str (E u v p.2)] = some [E u v p.1, E u v p.2] from rfl]
  simp only [Option.bind_some]
  unfold catB at *
  rw [List.length_append] at h
  rw [if_pos, E_join2]
  simp only [List.map_cons, List.map_nil, List.sum_cons, List.sum_nil, E_len, List.length_cons, List.length_nil, show (Str.ofString "").length = 0 by decide +kernel]
  lia
theorem qnW {u v : Nat} {bs : List Bool} (h : bs.length ≤ 1000) : qnPV [.str (Str.ofString "w"), .str (E u v bs)] = some (.qn (qnText (Str.ofString "w") (E u v bs))) := by
  unfold qnPV; dsimp only
  rw [if_pos]
  rw [E_len, show (Str.ofString "w").length = 1 by decide +kernel, sizeLine_eq]; lia
theorem cmp_names {u v : Nat} (huv : u < v) {a b : List Bool} (ha : a ≠ []) (hb : b ≠ []) {c : Cfg} (hc : c.cmpq = cmpQ) : c.cmp .Lt (.qn (qnText (Str.ofString "w") (E u v a))) (.qn (qnText (Str.ofString "w") (E u v b))) = some (ltB a b) := by
  refine cmp_qn hc (.inl rfl) rfl ?_
  show some (ltStr _ _) = _
  have z1 : (E u v a).length ≠ 0 := by rw [E_len]; intro h; exact ha (List.length_eq_zero_iff.mp h)
  have z2 : (E u v b).length ≠ 0 := by rw [E_len]; intro h; exact hb (List.length_eq_zero_iff.mp h)
  rw [qn_lt z1 z2, E_lt huv]

noncomputable abbrev itemsW (u v : Nat) (st : List PW) : List PV := st.reverse.map (pairW u v)
noncomputable def szW (st : List PW) : Nat := (st.map fun p => (catB p).length).sum
/-- the first world's law -/
noncomputable def fns1 (u v : Nat) : List (Str × Rel) := [("len", ofF lenPV), ("_law_draws", drawsS), ("_law_words", wordsS u v), ("QName", ofF qnPV)]
noncomputable abbrev CA (u v : Nat) : CfgS := (o1.orc (fns1 u v)).cfg

theorem items_cons (u v : Nat) (l : PW) (st : List PW) : itemsW u v (l :: st) = itemsW u v st ++ [pairW u v l] := by
  unfold itemsW
  rw [List.reverse_cons, List.map_append]; rfl
theorem items_len (u v : Nat) (st : List PW) : (itemsW u v st).length = st.length := by
  unfold itemsW
  rw [List.length_map, List.length_reverse]
theorem pop_mm (u v : Nat) (hd : Int) (l : PW) (st : List PW) (h : st.length ≤ 1000) : mmP "pop" hd (itemsW u v (l :: st)) [] = some (pairW u v l, itemsW u v st) := by
  unfold mmP
  rw [if_neg (by decide), if_pos rfl]
  have h1 : (itemsW u v (l :: st)).getLast? = some (pairW u v l) := by rw [items_cons]; simp
  have h2 : (itemsW u v (l :: st)).dropLast = itemsW u v st := by rw [items_cons]; simp
  have h3 : (itemsW u v (l :: st)).length ≤ sizeLine := by rw [items_len, sizeLine_eq, List.length_cons]; lia
  generalize itemsW u v (l :: st) = its at *
  rw [h1, h2]; dsimp only
  rw [if_pos h3]
theorem push_mm (u v : Nat) (hd : Int) (l : PW) (st : List PW) (h : st.length ≤ 1000) : mmP "push" hd (itemsW u v st) [.str (E u v l.1), .str (E u v l.2)] = some (.none, itemsW u v (l :: st)) := by
  unfold mmP
  rw [if_pos rfl]; dsimp only
  rw [if_pos (by rw [items_len, sizeLine_eq]; lia), items_cons]; rfl
end Nw

namespace Nw
set_option tactic.hygienic false

theorem szW_cons (l : PW) (st : List PW) : szW (l :: st) = (catB l).length + szW st := by unfold szW; rw [List.map_cons, List.sum_cons]
theorem slot_acc {ρ : Rho} {x : Str} {pos : Pos} {hd : Int} {ps : List PV} (h : ρ x = some (.acc hd ps)) (hx : okName x = true) : slotOf ρ (.Name x pos) = some (.acc hd ps) := by
  unfold slotOf; dsimp only
  rw [h]; dsimp only
  rw [if_pos hx]

set_option maxHeartbeats 8000000 in
theorem inner {u v : Nat} (huv : u < v) {hd : Int} : ∀ (st : List PW) (w : PW) (fuel : Nat) (ρ : Rho), st.length < fuel → (∀ p ∈ st, catB p ≠ []) → catB w ≠ [] → szW st + (catB w).length ≤ 1000 → st.length ≤ 1000 →
    ρ "pile" = some (.acc hd (itemsW u v st)) → ρ "word" = some (.imm (pairW u v w)) → ρ "QName" = none →
    ∃ ρ', (∀ tg it body0 p0, b17.1[3]? = some (.For tg it body0 [] p0) → ∀ t body p, body0[1]? = some (.While t body [] p) → whileGo (fun ρ => evt (CA u v) n17.1 18 ρ t) (execs (exec (CA u v) n17.1 18) body) fuel ρ (ρ', .next)) ∧
      ρ' "pile" = some (.acc hd (itemsW u v (mergeGo st w).1)) ∧ ρ' "word" = some (.imm (pairW u v (mergeGo st w).2)) ∧ Same ["later", "word", "pile"] ρ ρ'
  | [], w, fuel, ρ, h1, h2, h3, h4, h5, hp, hw, hq => by
    obtain ⟨g, rfl⟩ : ∃ g, fuel = g + 1 := ⟨fuel - 1, by simp at h1; lia⟩
    refine ⟨ρ, inner_all rfl rfl ?_, hp, hw, .refl _ _⟩
    refine wh_false (t_pure (b := false) (e_cmp (e_smeth rfl (slot_acc hp rfl) evs_nil rfl) e_int ?_ rfl))
    show some (decide (((itemsW u v []).length : Int) > 0)) = _
    rw [items_len]; rfl
  | l :: st, w, fuel, ρ, h1, h2, h3, h4, h5, hp, hw, hq => by
    rw [List.length_cons] at h1 h5
    rw [szW_cons] at h4
    obtain ⟨g, rfl⟩ : ∃ g, fuel = g + 1 := ⟨fuel - 1, by lia⟩
    have hl := h2 l (.head _)
    have ht : ∀ {px p1 p2 p3 p4 : Pos} {kk : Nat}, (p1.endLine == p2.line) = true → evt (CA u v) n17.1 18 ρ (.Compare (.Call (.Attribute (.Name "pile" px) "part_count" p1) [] [] p2) [.Gt] [.Constant (.int 0) kk p3] p4) (true, ρ) := by
      intro px p1 p2 p3 p4 kk he
      refine t_pure (b := true) (e_cmp (e_smeth (by rw [he]; rfl) (slot_acc hp rfl) evs_nil rfl) e_int ?_ rfl)
      show some (decide (((itemsW u v (l :: st)).length : Int) > 0)) = _
      rw [items_len, List.length_cons]
      exact congrArg some (decide_eq_true (by lia))
    have hpop : mmP "pop" hd (itemsW u v (l :: st)) [] = some (pairW u v l, itemsW u v st) := pop_mm u v hd l st (by lia)
    have hpush : mmP "push" hd (itemsW u v st) [.str (E u v l.1), .str (E u v l.2)] = some (.none, itemsW u v (l :: st)) := push_mm u v hd l st (by lia)
    have jw : joinPV (.str "") [pairW u v w] = some (.str (E u v (catB w))) := join_tup (by lia)
    have jl : joinPV (.str "") [pairW u v l] = some (.str (E u v (catB l))) := join_tup (by lia)
    have qw := qnW (u := u) (v := v) (bs := catB w) (by lia)
    have ql := qnW (u := u) (v := v) (bs := catB l) (by lia)
    have hcmp := cmp_names (c := (CA u v).base) huv h3 hl rfl
    by_cases hlt : ltB (catB w) (catB l) = true
    · rw [hlt] at hcmp
      obtain ⟨ρ', w1, w2, w3, w4⟩ := inner huv (hd := hd) st (catB w, catB l) g (((ρ.set "pile" (.acc hd (itemsW u v st))).set "later" (.imm (pairW u v l))).set "word" (.imm (pairW u v (catB w, catB l)))) (by lia) (fun p hp => h2 p (.tail _ hp)) (by
        show catB w ++ catB l ≠ []
        intro e; exact h3 (List.append_eq_nil_iff.mp e).1) (by show szW st + (catB w ++ catB l).length ≤ 1000; rw [List.length_append]; lia) (by lia) rfl rfl hq
      have hm : mergeGo (l :: st) w = mergeGo st (catB w, catB l) := by
        show (if _ then _ else _) = _
        rw [if_pos hlt]
      rw [hm]
      refine ⟨ρ', inner_all rfl rfl ?_, w2, w3, (((Same.refl _ ρ).set rfl).set rfl |>.set rfl).trans w4⟩
      have w1' := w1 _ _ _ _ rfl _ _ _ rfl
      refine wh_next (ht rfl) ?_ w1'
      refine x_cons (x_exec rfl (x_name (by decide) rfl (m_acc hp rfl rfl evs_nil hpop))) ?_
      refine x_cons (x_exec rfl (x_if (t_pure (b := false) (e_un (e_cmp (e_call (fgl rfl hq) (evs_cons e_str (evs_cons (e_meth rfl rfl e_str (evs_cons (e_name hw rfl) evs_nil) jw) evs_nil)) qw) (e_call (fgl rfl hq) (evs_cons e_str (evs_cons (e_meth rfl rfl e_str (evs_cons (e_name rfl rfl) evs_nil) jl) evs_nil)) ql) hcmp rfl) rfl)) rfl)) ?_
      exact x_cons (x_exec rfl (x_name (by decide) rfl (m_tup (evs_cons (e_meth rfl rfl e_str (evs_cons (e_name hw rfl) evs_nil) jw) (evs_cons (e_meth rfl rfl e_str (evs_cons (e_name rfl rfl) evs_nil) jl) evs_nil)) rfl (sz rfl rfl)))) rfl
    · have hlt' : ltB (catB w) (catB l) = false := by simpa using hlt
      rw [hlt'] at hcmp
      have hm : mergeGo (l :: st) w = (l :: st, w) := by
        show (if _ then _ else _) = _
        rw [if_neg hlt]
      rw [hm]
      refine ⟨((ρ.set "pile" (.acc hd (itemsW u v st))).set "later" (.imm (pairW u v l))).set "pile" (.acc hd (itemsW u v (l :: st))), inner_all rfl rfl ?_, rfl, hw, ((Same.refl _ ρ).set rfl).set rfl |>.set rfl⟩
      refine wh_brk (ht rfl) ?_
      refine x_cons (x_exec rfl (x_name (by decide) rfl (m_acc hp rfl rfl evs_nil hpop))) ?_
      refine x_brk (x_exec rfl (x_if (t_pure (b := true) (e_un (e_cmp (e_call (fgl rfl hq) (evs_cons e_str (evs_cons (e_meth rfl rfl e_str (evs_cons (e_name hw rfl) evs_nil) jw) evs_nil)) qw) (e_call (fgl rfl hq) (evs_cons e_str (evs_cons (e_meth rfl rfl e_str (evs_cons (e_name rfl rfl) evs_nil) jl) evs_nil)) ql) hcmp rfl) rfl)) ?_))
      exact x_cons (x_exec rfl (x_accm rfl rfl rfl (evs_cons (e_sub rfl (e_name rfl rfl) e_int rfl) (evs_cons (e_sub rfl (e_name rfl rfl) e_int rfl) evs_nil)) hpush)) (x_brk (x_exec rfl x_break))
end Nw

namespace Nw
set_option tactic.hygienic false

theorem merge_props : ∀ (st : List PW) (w : PW), (∀ p ∈ st, catB p ≠ []) → catB w ≠ [] →
    (∀ p ∈ (mergeGo st w).1, catB p ≠ []) ∧ catB (mergeGo st w).2 ≠ [] ∧ szW (mergeGo st w).1 + (catB (mergeGo st w).2).length = szW st + (catB w).length ∧ (mergeGo st w).1.length ≤ st.length
  | [], w, _, h2 => ⟨fun _ h => (by cases h), h2, rfl, Nat.le_refl _⟩
  | l :: st, w, h1, h2 => by
    by_cases hlt : ltB (catB w) (catB l) = true
    · have hm : mergeGo (l :: st) w = mergeGo st (catB w, catB l) := by
        show (if _ then _ else _) = _
        rw [if_pos hlt]
      have hc : catB (catB w, catB l) = catB w ++ catB l := rfl
      obtain ⟨a1, a2, a3, a4⟩ := merge_props st (catB w, catB l) (fun p hp => h1 p (.tail _ hp)) (by rw [hc]; intro e; exact h2 (List.append_eq_nil_iff.mp e).1)
      rw [hm]
      refine ⟨a1, a2, ?_, ?_⟩
      · rw [a3, hc, List.length_append, szW_cons]; lia
      · rw [List.length_cons]; lia
    · have hm : mergeGo (l :: st) w = (l :: st, w) := by
        show (if _ then _ else _) = _
        rw [if_neg hlt]
      rw [hm]
      exact ⟨h1, h2, rfl, Nat.le_refl _⟩

set_option maxHeartbeats 8000000 in
theorem outer {u v : Nat} (huv : u < v) {hd : Int} : ∀ (r : List Bool) (st : List PW) (ρ : Rho), (∀ p ∈ st, catB p ≠ []) → szW st + r.length ≤ 1000 → st.length + r.length ≤ 17 → ρ "pile" = some (.acc hd (itemsW u v st)) → ρ "QName" = none →
    ∃ ρ', (∀ tg it body p, b17.1[3]? = some (.For tg it body [] p) → forGo n17.1 (execs (exec (CA u v) n17.1 19) body) tg (r.map fun b => .str (E u v [b])) ρ (ρ', .next)) ∧
      ρ' "pile" = some (.acc hd (itemsW u v (pileGo r st))) ∧ Same ["sign", "later", "word", "pile"] ρ ρ'
  | [], st, ρ, h1, h2, h3, hp, hq => ⟨ρ, fun _ _ _ _ _ => rfl, hp, .refl _ _⟩
  | s :: r, st, ρ, h1, h2, h3, hp, hq => by
    rw [List.length_cons] at h2 h3
    have hw0 : catB ([], [s]) ≠ [] := by intro e; cases e
    obtain ⟨a1, a2, a3, a4⟩ := merge_props st ([], [s]) h1 hw0
    have hc1 : (catB ([], [s])).length = 1 := rfl
    obtain ⟨ρ1, w1, w2, w3, w4⟩ := inner huv (hd := hd) st ([], [s]) 18 ((ρ.set "sign" (.imm (.str (E u v [s])))).set "word" (.imm (pairW u v ([], [s])))) (by lia) h1 hw0 (by lia) (by lia) hp rfl hq
    obtain ⟨ρ2, x1, x2, x3⟩ := outer huv (hd := hd) r ((mergeGo st ([], [s])).2 :: (mergeGo st ([], [s])).1) (ρ1.set "pile" (.acc hd (itemsW u v ((mergeGo st ([], [s])).2 :: (mergeGo st ([], [s])).1)))) (by
        intro p hp
        rcases List.mem_cons.mp hp with rfl | hp
        · exact a2
        · exact a1 p hp) (by rw [szW_cons]; lia) (by rw [List.length_cons]; lia) rfl (by show ρ1 "QName" = none; rw [w4 "QName" (by decide)]; exact hq)
    have hsm : Same ["sign", "later", "word", "pile"] ρ ρ2 := by
      refine Same.trans ?_ x3
      refine Same.set ?_ rfl
      refine Same.trans (((Same.refl _ ρ).set (x := "sign") rfl).set (x := "word") rfl) (fun y hy => w4 y ?_)
      simp only [List.contains_cons, Bool.or_eq_false_iff] at hy ⊢
      exact hy.2
    refine ⟨ρ2, for_all rfl ?_, x2, hsm⟩
    have w1' := w1 _ _ _ _ rfl
    have x1' := x1 _ _ _ _ rfl
    have w1'' := w1' _ _ _ rfl
    refine forGo_cons (ρ1 := ρ.set "sign" (.imm (.str (E u v [s])))) rfl ?_ x1'
    refine x_cons (x_exec rfl (x_name (by decide) rfl (m_tup (evs_cons (e_strE (E_nil u v)) (evs_cons (e_name rfl rfl) evs_nil)) rfl (sz rfl rfl)))) ?_
    refine x_cons (x_exec rfl (x_while w1'')) ?_
    exact x_cons (x_exec rfl (x_accm w2 rfl rfl (evs_cons (e_sub (slot_imm w3) (e_name w3 rfl) e_int rfl) (evs_cons (e_sub (slot_imm w3) (e_name w3 rfl) e_int rfl) evs_nil)) (push_mm u v hd _ _ (by lia)))) rfl
end Nw

namespace Nw
set_option tactic.hygienic false

theorem draws_val {xs : List Int} (h : xs.length ≤ 1000) : drawsS [.list (intsPV xs)] (drawPV (cellsOf xs)) := ⟨xs, rfl, h, rfl⟩
theorem words_val {u v : Nat} (_ : u < v) {way : List Bool} (h : way.length ≤ 17) : wordsS u v [.str (E u v way)] (.list ((wordsB way.length way).map (pairW u v))) := ⟨way, rfl, h, rfl⟩
theorem straight_val {u v : Nat} (_ : u < v) {bs : List Bool} (h0 : 0 < bs.length) (h1 : bs.length ≤ 10) {q : Int} (hq : 7 ≤ q ∧ q ≤ 7906) : straightS u v [.str (E u v bs), .str (E u v [true]), .int q] (.bool (straightN bs)) := ⟨bs, q, rfl, ⟨h0, h1, hq⟩, by rw [straight_N]⟩
theorem points_val {u v : Nat} (_ : u < v) {bs : List Bool} (h1 : bs.length ≤ 100) : pointsS u v [.str (E u v bs), .str (E u v [true])] (.list ((ptsB (colsB bs)).map ptPV)) := ⟨bs, rfl, h1, rfl⟩
theorem named_val {u v : Nat} (_ : u < v) {a b : List Bool} (ha : a ≠ []) (hb : b ≠ []) (la : a.length ≤ 100) (lb : b.length ≤ 100) (h : namedB a b = true) : namedS u v [.str (E u v a), .str (E u v b), signPV (u, v)] (.bool true) := ⟨a, b, rfl, ⟨ha, hb, la, lb, h⟩, rfl⟩
theorem bind4 {N : Names} {x y z t : Str} {p1 p2 p3 p4 tp : Pos} {k : Nat} {a b c d : PV} {ρ : Rho} (h : (isLC N x && isLC N y && isLC N z && isLC N t) = true) : bindT false N (.Tuple [.Name x p1, .Name y p2, .Name z p3, .Name t p4] k tp) (.tup [a, b, c, d]) ρ = some ((((ρ.set x (.imm a)).set y (.imm b)).set z (.imm c)).set t (.imm d)) := by
  simp only [Bool.and_eq_true] at h
  exact bind_cons h.1.1.1 (bind_cons h.1.1.2 (bind_cons h.1.2 (bind_cons h.2 rfl)))

theorem itc_head {u v : Nat} {ps : List PV} : (CA u v).itc "reversed" ps = revPV ps := by
  show (List.lookup (Str.ofString "reversed") [(Str.ofString "reversed", revPV)]).bind (· ps) = _
  rw [List.lookup_cons_self]; rfl
noncomputable def lawLocals : List Str := ["way", "signs", "head", "places", "words", "pile", "sign", "later", "word"]

set_option maxHeartbeats 8000000 in
theorem pre_run {xs : List Int} (hx : xs.length ≤ 1000) {u v : Nat} (hpr : prs.getD (sgOf (cellsOf xs).2.1) (0, 0) = (u, v)) (huv : u < v) {way : List Bool} (hway : bitsOf (cellsOf xs).1 (cellsOf xs).2.1 = way) {h q : Int} (hh : ((cellsOf xs).2.1.fdiv 24).fmod 3 = h) (hq : 7 + (cellsOf xs).2.2.fmod 7900 = q) :
    ∃ ρ', execs (exec (CA u v) n17.1 20) (b17.1.take 4) (rho0 ["script"] [.list (intsPV xs)]) (ρ', .next) ∧
      ρ' "way" = some (.imm (.str (E u v way))) ∧ ρ' "signs" = some (.imm (signPV (u, v))) ∧ ρ' "head" = some (.imm (.int h)) ∧ ρ' "places" = some (.imm (.int q)) ∧ ρ' "words" = some (.imm (.list ((wordsB way.length way).map (pairW u v)))) ∧
      ρ' "pile" = some (.acc h (itemsW u v (pileGo way.reverse []))) ∧ Same lawLocals (rho0 ["script"] [.list (intsPV xs)]) ρ' := by
  have bl := bits_len (cellsOf xs).1 (cellsOf xs).2.1
  rw [hway] at bl
  have hd : drawsS [.list (intsPV xs)] (.tup [.str (E u v way), signPV (u, v), .int h, .int q]) := by
    have := draws_val hx
    unfold drawPV at this
    rwa [hpr, hway, hh, hq] at this
  have hw := words_val huv (way := way) (by lia)
  generalize hws : wordsB way.length way = ws at *
  obtain ⟨ρ', w1, w2, w3⟩ := outer huv (hd := h) way.reverse [] ((((((rho0 ["script"] [.list (intsPV xs)]).set "way" (.imm (.str (E u v way)))).set "signs" (.imm (signPV (u, v)))).set "head" (.imm (.int h))).set "places" (.imm (.int q))).set "words" (.imm (.list (ws.map (pairW u v)))) |>.set "pile" (.acc h []))
    (fun _ h => (by cases h)) (by unfold szW; rw [List.length_reverse]; simp; lia) (by rw [List.length_reverse]; simp; lia) rfl rfl
  have hrev : revPV [.str (E u v way)] = some (way.reverse.map fun b => .str (E u v [b])) := by
    unfold revPV; dsimp only
    rw [if_pos (by rw [E_len]; lia), E_cps, ← List.map_reverse, List.map_map]
    rfl
  refine ⟨ρ', ?_, w3 "way" (by decide), w3 "signs" (by decide), w3 "head" (by decide), w3 "places" (by decide), w3 "words" (by decide), w2, ?_⟩
  · unfold b17 n17 at *
    refine x_cons (x_exec rfl (x_tup (by intro vs a b; nofun) (e_callg1 rfl rfl (e_name rfl rfl) (fun _ => rfl) hd) (bind4 (by decide)))) ?_
    refine x_cons (x_exec rfl (x_name (by decide) rfl (m_pure (e_callg1 rfl rfl (e_name rfl rfl) (fun _ => rfl) hw) rfl))) ?_
    refine x_cons (x_exec rfl (x_slot (by decide) rfl (evf_acc rfl (evs_cons (e_name rfl rfl) evs_nil) rfl))) ?_
    exact x_cons (x_exec rfl (x_fori rfl (evi_yes rfl (e_name rfl rfl) (fun _ => itc_head) hrev) (w1 _ _ _ _ rfl))) rfl
  · intro y hy
    rw [w3 y]
    · simp only [lawLocals, List.contains_cons, Bool.or_eq_false_iff] at hy
      obtain ⟨h1, h2, h3, h4, h5, h6, _⟩ := hy
      have k : ∀ {x : Str}, (y == x) = false → ∀ (ρ : Rho) (sl : Slot), (ρ.set x sl) y = ρ y := fun hx ρ sl => by
        unfold Rho.set
        rw [if_neg (by simpa using hx)]
      rw [k h6, k h5, k h4, k h3, k h2, k h1]
    · simp only [lawLocals, List.contains_cons, Bool.or_eq_false_iff] at hy ⊢
      obtain ⟨h1, h2, h3, h4, h5, h6, h7, h8, h9, h10⟩ := hy
      exact ⟨h7, h8, h9, h6, h10⟩
end Nw

namespace Nw
set_option tactic.hygienic false

structure GoodW (way : List Bool) (ws : List PW) : Prop where
  pile : (pileGo way.reverse []).reverse = ws
  ne : ∀ w ∈ ws, w.2 ≠ [] ∧ (catB w).length ≤ 10
  len : (ws.map catB).flatten.length = way.length
  ct : (ws.map catB).flatten.contains true = way.contains true
  cf : (ws.map catB).flatten.contains false = way.contains false
  st : ∀ w ∈ ws, straightN (catB w) = dueB w
  adj : adjB ws = true
  pts : (ptsB (colsB way)).isEmpty = ws.all fun w => straightN (catB w)

theorem eqL_spec : ∀ {x y : List Bool}, eqL x y = true → x = y
  | [], [], _ => rfl
  | a :: x, b :: y, h => by
    simp only [eqL, Bool.and_eq_true, beq_iff_eq] at h
    rw [h.1, eqL_spec h.2]
  | [], _ :: _, h => by cases h
  | _ :: _, [], h => by cases h
theorem eqW_spec : ∀ {x y : List PW}, eqW x y = true → x = y
  | [], [], _ => rfl
  | a :: x, b :: y, h => by
    simp only [eqW, Bool.and_eq_true] at h
    obtain ⟨⟨h1, h2⟩, h3⟩ := h
    rw [eqW_spec h3]
    congr 1
    exact Prod.ext (eqL_spec h1) (eqL_spec h2)
  | [], _ :: _, h => by cases h
  | _ :: _, [], h => by cases h
theorem good_of {way : List Bool} {ws : List PW} (h : checkOn way ws = true) : GoodW way ws := by
  unfold checkOn at h
  simp only [Bool.and_eq_true, List.all_eq_true, beq_iff_eq] at h
  obtain ⟨⟨⟨⟨⟨h1, h2⟩, ⟨h3, h4⟩, h5⟩, h6⟩, h7⟩, h8⟩ := h
  have e := eqW_spec h1
  refine ⟨by rw [e, List.reverse_reverse], fun w hw => ?_, h3, h4, h5, h6, h7, h8⟩
  obtain ⟨a, b⟩ := h2 w hw
  refine ⟨?_, Nat.ble_eq.mp b⟩
  intro e
  rw [e] at a
  cases a

noncomputable abbrev fsW (u v : Nat) (ws : List PW) : List (Str × Str) := ws.map fun w => (E u v w.1, E u v w.2)
theorem pairs_fs (u v : Nat) (ws : List PW) : ws.map (pairW u v) = pairsPV (fsW u v ws) := by
  unfold pairsPV fsW
  rw [List.map_map]; rfl
section
variable {u v : Nat} {ws : List PW}
theorem ws_len (h : ∀ w ∈ ws, w.2 ≠ [] ∧ (catB w).length ≤ 10) : ws.length ≤ (ws.map catB).flatten.length := by
  induction ws with
  | nil => simp
  | cons w r ih =>
    have h1 := h w (.head _)
    have h2 := ih fun x hx => h x (.tail _ hx)
    rw [List.map_cons, List.flatten_cons, List.length_append, List.length_cons]
    have : 0 < (catB w).length := by
      unfold catB; rw [List.length_append]
      have := List.length_pos_iff.mpr h1.1
      lia
    lia
theorem sum_fs : sumLen (fsW u v ws) = ((ws.map catB).flatten.length : Int) := by
  unfold sumLen fsW
  rw [List.map_map]
  induction ws with
  | nil => rfl
  | cons w r ih =>
    rw [List.map_cons, List.sum_cons, ih, List.map_cons, List.flatten_cons, List.length_append]
    show (((E u v w.1).length + (E u v w.2).length : Nat) : Int) + _ = _
    rw [E_len, E_len]
    have : (catB w).length = w.1.length + w.2.length := by unfold catB; rw [List.length_append]
    push_cast
    lia
theorem text_fs : textOf (fsW u v ws) = E u v (ws.map catB).flatten := by
  unfold textOf fsW
  rw [List.map_map, ← E_join, List.map_map]
  congr 1
  refine List.map_congr_left fun w _ => ?_
  exact E_join2 _ _
theorem small_fs (h : ∀ w ∈ ws, w.2 ≠ [] ∧ (catB w).length ≤ 10) (hl : ws.length ≤ 100) : smallB (fsW u v ws) = true := by
  unfold smallB fsW
  rw [Bool.and_eq_true, decide_eq_true_eq, List.length_map, List.all_eq_true]
  refine ⟨by lia, fun p hp => ?_⟩
  obtain ⟨w, hw, rfl⟩ := List.mem_map.mp hp
  have := (h w hw).2
  unfold catB at this
  rw [List.length_append] at this
  simp only [E_len, Bool.and_eq_true, decide_eq_true_eq]
  lia
theorem join_fs (hl : (ws.map catB).flatten.length ≤ 100) : JoinOk "" ((fsW u v ws).map fun p => Txt.join "" [p.1, p.2]) = true := by
  apply joinOk_small
  unfold fsW
  rw [List.map_map, List.map_map]
  have : ∀ ws : List PW, (ws.map ((fun x : Str => x.length) ∘ (fun p : Str × Str => Txt.join "" [p.1, p.2]) ∘ fun w => (E u v w.1, E u v w.2))).sum = (ws.map catB).flatten.length := by
    intro ws
    induction ws with
    | nil => rfl
    | cons w r ih =>
      rw [List.map_cons, List.sum_cons, ih, List.map_cons, List.flatten_cons, List.length_append]
      show (Txt.join "" [E u v w.1, E u v w.2]).length + _ = _
      rw [E_join2, E_len]; rfl
  exact Nat.le_trans (Nat.le_of_eq (this ws)) (by lia)
theorem isspace_E (bs : List Bool) : Txt.isspace (E u v bs) = (decide (bs.length > 0) && ((!bs.contains true || Unicode.isSpace v) && (!bs.contains false || Unicode.isSpace u))) := by
  unfold Txt.isspace
  rw [E_len]
  congr 1
  unfold E
  rw [List.all_toArray, List.all_map]
  induction bs with
  | nil => rfl
  | cons b r ih =>
    rw [List.all_cons, ih, List.contains_cons, List.contains_cons]
    generalize r.contains true = ct
    generalize r.contains false = cf
    show (Unicode.isSpace (if b then v else u) && _) = _
    cases b <;> simp only [if_true, Bool.false_eq_true, if_false] <;> cases Unicode.isSpace u <;> cases Unicode.isSpace v <;> cases ct <;> cases cf <;> rfl
theorem only_eq {way : List Bool} (G : GoodW way ws) (hw : 0 < way.length) {h : Int} : onlyP h (fsW u v ws) = ((h == 0) && Txt.isspace (E u v way)) := by
  unfold onlyP
  rw [sum_fs, text_fs, isspace_E, isspace_E, G.ct, G.cf, G.len]
  by_cases hz : h = 0
  · subst hz
    have : ((0 : Int) + (way.length : Int) == 0) = false := by
      rw [beq_eq_false_iff_ne]; lia
    rw [this]; rfl
  · have : (h == 0) = false := beq_eq_false_iff_ne.mpr hz
    rw [this]; rfl
end

theorem items_good {u v : Nat} {way : List Bool} {ws : List PW} (G : GoodW way ws) : itemsW u v (pileGo way.reverse []) = ws.map (pairW u v) := by
  unfold itemsW
  rw [G.pile]

/-- values of the pile's methods -/
theorem only_val {u v : Nat} {ws : List PW} {h : Int} (hs : smallB (fsW u v ws) = true) (hh : headOk h = true) (hj : JoinOk "" ((fsW u v ws).map fun p => Txt.join "" [p.1, p.2]) = true) : smQ "is_onlyws" (.acc h (ws.map (pairW u v))) [] = some (.bool (onlyP h (fsW u v ws))) := by
  unfold smQ
  rw [show smP "is_onlyws" (.acc h (ws.map (pairW u v))) [] = none by unfold smP; dsimp only; rw [if_neg (by decide), if_neg (by decide)]]
  dsimp only
  rw [if_pos rfl, pairs_fs, asPairs_map]; simp only [Option.bind_some]
  rw [if_pos (by rw [hs, hh, hj]; rfl)]
theorem len_val {u v : Nat} {ws : List PW} {h : Int} (hs : smallB (fsW u v ws) = true) (hh : headOk h = true) : scP "len" (.acc h (ws.map (pairW u v))) = some (.int (h + sumLen (fsW u v ws))) := by
  unfold scP; dsimp only
  rw [pairs_fs, asPairs_map]; simp only [Option.bind_some, if_true]
  rw [if_pos (by rw [hs, hh]; rfl)]

theorem wf_pairs {u v : Nat} (hu : u < 0x110000) (hv : v < 0x110000) {d : Nat} (ws : List PW) : wfs (d + 1) (ws.map (pairW u v)) = true :=
  wfs_map fun w _ => by
    unfold pairW
    simp only [wf, wfs, E_ok hu hv]; rfl
noncomputable def fns2 (u v : Nat) : List (Str × Rel) := [("len", ofF lenPV), ("range", ofF rangePV), ("_law_is_straight", straightS u v), ("_law_points_under_the_rope", pointsS u v), ("_law_named_in_order", namedS u v)]
noncomputable abbrev CB (u v : Nat) : CfgS := (o2.orc (fns2 u v)).cfg
section
variable {C : CfgS} {n : Nat} {N : Names} {ρ ρ1 ρ2 : Rho} {go : Rho → Stmt → Rho × FlowP → Prop}
theorem m_lists {es : List Expr} {pos : Pos} {ps : List PV} (h : evms C N n es ρ (ps, ρ2)) {b : Bool} (_ : b = true) (hs : ps.length ≤ sizeLine) : evm C N n ρ (.List es pos) (.list ps, ρ2) := mm_list h hs
end
end Nw

namespace Nw
set_option tactic.hygienic false

theorem cmp_bool_ne {c : Cfg} {a b : Bool} : c.cmp .NotEq (.bool a) (.bool b) = some (a != b) := by cases a <;> cases b <;> rfl
theorem cmp_bool_eq {c : Cfg} {a b : Bool} : c.cmp .Eq (.bool a) (.bool b) = some (a == b) := by cases a <;> cases b <;> rfl
theorem cmp_isnot {c : Cfg} {a b : Bool} : c.cmp .IsNot (.bool a) (.bool b) = some (a != b) := rfl
noncomputable abbrev boolsPV (l : List Bool) : List PV := l.map .bool

/-- what the law's frame holds in its second half -/
structure Pst (u v : Nat) (way : List Bool) (ws : List PW) (h q : Int) (ρ : Rho) : Prop where
  way : ρ "way" = some (.imm (.str (E u v way)))
  signs : ρ "signs" = some (.imm (signPV (u, v)))
  head : ρ "head" = some (.imm (.int h))
  places : ρ "places" = some (.imm (.int q))
  words : ρ "words" = some (.imm (.list (ws.map (pairW u v))))
  glob : ∀ x ∈ (["len", "range", "_law_is_straight", "_law_points_under_the_rope", "_law_named_in_order"] : List Str), ρ x = none
theorem Pst.same {u v : Nat} {way : List Bool} {ws : List PW} {h q : Int} {ρ ρ' : Rho} (P : Pst u v way ws h q ρ) {xs : List Str} (s : Same xs ρ ρ') (hx : (["way", "signs", "head", "places", "words", "len", "range", "_law_is_straight", "_law_points_under_the_rope", "_law_named_in_order"] : List Str).all (fun x => !xs.contains x) = true) : Pst u v way ws h q ρ' := by
  have k : ∀ x ∈ (["way", "signs", "head", "places", "words", "len", "range", "_law_is_straight", "_law_points_under_the_rope", "_law_named_in_order"] : List Str), ρ' x = ρ x := fun x hm => s x (by simpa using List.all_eq_true.mp hx x hm)
  refine ⟨?_, ?_, ?_, ?_, ?_, fun x hm => ?_⟩
  · rw [k "way" (by simp)]; exact P.way
  · rw [k "signs" (by simp)]; exact P.signs
  · rw [k "head" (by simp)]; exact P.head
  · rw [k "places" (by simp)]; exact P.places
  · rw [k "words" (by simp)]; exact P.words
  · rw [k x (.tail _ (.tail _ (.tail _ (.tail _ (.tail _ hm)))))]; exact P.glob x hm

theorem bind2v {N : Names} {x y : Str} {p1 p2 tp : Pos} {k : Nat} {a b : PV} {ρ : Rho} (h : (isLC N x && isLC N y) = true) : bindT false N (.Tuple [.Name x p1, .Name y p2] k tp) (.tup [a, b]) ρ = some ((ρ.set x (.imm a)).set y (.imm b)) := bind2 h

set_option maxHeartbeats 8000000 in
theorem straight_loop {u v : Nat} (huv : u < v) {way : List Bool} {wss : List PW} {h q : Int} (hq : 7 ≤ q ∧ q ≤ 7906) : ∀ (ws : List PW) (acc : List Bool) (ρ : Rho), (∀ w ∈ ws, w.2 ≠ [] ∧ (catB w).length ≤ 10) → (∀ w ∈ ws, straightN (catB w) = dueB w) → acc.length + ws.length ≤ 100 → Pst u v way wss h q ρ → ρ "straight" = some (.lst (boolsPV acc)) →
    ∃ ρ', (∀ tg it body p, b17.1[10]? = some (.For tg it body [] p) → forGo n17.1 (execs (exec (CB u v) n17.1 19) body) tg (ws.map (pairW u v)) ρ (ρ', .next)) ∧ ρ' "straight" = some (.lst (boolsPV (acc ++ ws.map fun w => straightN (catB w)))) ∧ Same ["front", "part", "due", "straight"] ρ ρ'
  | [], acc, ρ, _, _, _, P, hst => ⟨ρ, fun _ _ _ _ _ => rfl, by simpa using hst, .refl _ _⟩
  | w :: ws, acc, ρ, h1, h2, h3, P, hst => by
    rw [List.length_cons] at h3
    have hw := h1 w (.head _)
    have hs := h2 w (.head _)
    have hcat : (catB w).length = w.1.length + w.2.length := by unfold catB; rw [List.length_append]
    have hpos := List.length_pos_iff.mpr hw.1
    have s2 := straight_val huv (bs := w.2) hpos (by omega) hq
    have s3 : straightS u v [.str (E u v (catB w)), .str (E u v [true]), .int q] (.bool (straightN (catB w))) := straight_val huv (by omega) hw.2 hq
    have g1 : ρ "_law_is_straight" = none := P.glob _ (by simp)
    have hcnt : ∀ (bs : List Bool) (b : Bool), countPV (.str (E u v bs)) [.str (E u v [b])] = some (.int ((bs.count b : Nat) : Int)) := fun bs b => by
      unfold countPV; dsimp only
      rw [E_count (Nat.ne_of_lt huv)]
    have hadd : bnop .Add (.str (E u v w.1)) (.str (E u v w.2)) = some (.str (E u v (catB w))) := by
      show (if _ then _ else _) = _
      rw [if_pos (by rw [E_len, E_len, sizeLine_eq]; omega)]
      congr 2
      apply str_ext
      show ((E u v w.1).cps ++ (E u v w.2).cps).toList = _
      rw [Array.toList_append, E_cps, E_cps, E_cps, ← List.map_append]; rfl
    have tail : ∀ ρa : Rho, Same ["front", "part", "due", "straight"] ρ ρa → ρa "front" = some (.imm (.str (E u v w.1))) → ρa "part" = some (.imm (.str (E u v w.2))) → ρa "due" = some (.imm (.bool (dueB w))) → ρa "straight" = some (.lst (boolsPV acc)) →
        ∀ tg it body p, b17.1[10]? = some (.For tg it body [] p) → execs (exec (CB u v) n17.1 19) (body.drop 2) ρa (ρa.set "straight" (.lst (boolsPV acc ++ [.bool (straightN (catB w))])), .next) := by
      intro ρa sm a1 a2 a3 a4
      refine for_all rfl ?_
      have Pa := P.same sm (by decide)
      have ga : ρa "_law_is_straight" = none := Pa.glob _ (by simp)
      have a5 := Pa.signs
      have a6 := Pa.places
      have hlen : (boolsPV acc ++ [PV.bool (straightN (catB w))]).length = acc.length + 1 := by rw [List.length_append, List.length_map, List.length_singleton]
      have hlast : idxPV (.list (boolsPV acc ++ [PV.bool (straightN (catB w))])) (-1) = some (.bool (straightN (catB w))) :=
        idx_last (by omega) (by rw [hlen]; simp) (by omega)
      refine x_cons (x_exec rfl (x_append rfl a4 (e_callg (fgl rfl ga) (evs_cons (e_bin (e_name a1 rfl) (e_name a2 rfl) hadd) (evs_cons (e_sub (slot_imm a5) (e_name a5 rfl) e_int rfl) (evs_cons (e_name a6 rfl) evs_nil))) (fun _ => rfl) s3) (by rw [List.length_map, sizeLine_eq]; omega))) ?_
      refine x_cons (x_exec rfl (x_if (t_pure (b := false) (e_cmp (e_sublst (slot_lst rfl rfl) (e_un e_int rfl) hlast) (e_name a3 rfl) (by rw [cmp_bool_ne, hs]; simp) rfl)) rfl)) rfl
    have step : ∃ ρ3, (∀ tg it body p, b17.1[10]? = some (.For tg it body [] p) → execs (exec (CB u v) n17.1 19) body ((ρ.set "front" (.imm (.str (E u v w.1)))).set "part" (.imm (.str (E u v w.2)))) (ρ3, .next)) ∧ ρ3 "straight" = some (.lst (boolsPV acc ++ [.bool (straightN (catB w))])) ∧ Same ["front", "part", "due", "straight"] ρ ρ3 := by
      have sm0 : Same ["front", "part", "due", "straight"] ρ ((ρ.set "front" (.imm (.str (E u v w.1)))).set "part" (.imm (.str (E u v w.2)))) := ((Same.refl _ ρ).set rfl).set rfl
      generalize hρ0 : (ρ.set "front" (.imm (.str (E u v w.1)))).set "part" (.imm (.str (E u v w.2))) = ρ0 at *
      have b1 : ρ0 "front" = some (.imm (.str (E u v w.1))) := by rw [← hρ0]; rfl
      have b2 : ρ0 "part" = some (.imm (.str (E u v w.2))) := by rw [← hρ0]; rfl
      have b3 : ρ0 "straight" = some (.lst (boolsPV acc)) := by rw [← hρ0]; exact hst
      have P0 := P.same sm0 (by decide)
      have g0 : ρ0 "_law_is_straight" = none := P0.glob _ (by simp)
      have a5 := P0.signs
      have a6 := P0.places
      by_cases hf : w.1 = []
      · have hdue : dueB w = true := by unfold dueB; rw [hf]; rfl
        have t := tail (ρ0.set "due" (.imm (.bool true))) (sm0.set rfl) b1 b2 (by rw [hdue]; rfl) b3
        refine ⟨_, for_all rfl ?_, ?_, (sm0.set (x := "due") (sl := .imm (.bool true)) rfl).set (x := "straight") (sl := .lst (boolsPV acc ++ [.bool (straightN (catB w))])) rfl⟩
        · have t' := t _ _ _ _ rfl
          refine x_cons (x_exec rfl (x_name (by decide) rfl (m_pure e_boolc rfl))) ?_
          refine x_cons (x_exec rfl (x_if (t_pure (b := false) (e_cmp (e_name b1 rfl) e_str (by rw [hf]; rfl) rfl)) rfl)) ?_
          exact t'
        · rfl
      · have hpf := List.length_pos_iff.mpr hf
        have s1 := straight_val huv (bs := w.1) hpf (by omega) hq
        have m1 : bnop .Mult (.int ((w.1.count false : Nat) : Int)) (.int ((w.2.count true : Nat) : Int)) = some (.int ((w.1.count false * w.2.count true : Nat) : Int)) := by
          rw [bnop_muls (count_lt _ _ (by omega)), nat_mul_int]
        have m2 : bnop .Mult (.int ((w.1.count true : Nat) : Int)) (.int ((w.2.count false : Nat) : Int)) = some (.int ((w.1.count true * w.2.count false : Nat) : Int)) := by
          rw [bnop_muls (count_lt _ _ (by omega)), nat_mul_int]
        have m3 : bnop .Add (.int ((w.1.count true * w.2.count false : Nat) : Int)) (.int 1) = some (.int ((w.1.count true * w.2.count false + 1 : Nat) : Int)) := rfl
        have hdd : dueB w = ((straightN w.1 && straightN w.2) && (w.1.count false * w.2.count true == w.1.count true * w.2.count false + 1)) := by
          unfold dueB
          rw [if_neg (by simpa using hf)]
        have hne : (CB u v).base.cmp .NotEq (.int ((w.1.count false * w.2.count true : Nat) : Int)) (.int ((w.1.count true * w.2.count false + 1 : Nat) : Int)) = some (!(w.1.count false * w.2.count true == w.1.count true * w.2.count false + 1)) := by
          show some (((w.1.count false * w.2.count true : Nat) : Int) != ((w.1.count true * w.2.count false + 1 : Nat) : Int)) = _
          congr 1
          unfold bne
          congr 1
          rw [Bool.eq_iff_iff, beq_iff_eq, beq_iff_eq]
          omega
        generalize hA : w.1.count false * w.2.count true = A at *
        generalize hB : w.1.count true * w.2.count false + 1 = B at *
        have hand : ∀ ρx : Rho, ρx "front" = some (.imm (.str (E u v w.1))) → ρx "part" = some (.imm (.str (E u v w.2))) → ρx "signs" = some (.imm (signPV (u, v))) → ρx "places" = some (.imm (.int q)) → ρx "_law_is_straight" = none → True := fun _ _ _ _ _ _ => trivial
        by_cases hd2 : (A == B) = true
        · have t := tail ((ρ0.set "due" (.imm (.bool true))).set "due" (.imm (.bool (straightN w.1 && straightN w.2)))) ((sm0.set rfl).set rfl) b1 b2 (by rw [hdd, hd2, Bool.and_true]; rfl) b3
          refine ⟨_, for_all rfl ?_, ?_, (((sm0.set (x := "due") (sl := .imm (.bool true)) rfl).set (x := "due") (sl := .imm (.bool (straightN w.1 && straightN w.2))) rfl)).set (x := "straight") (sl := .lst (boolsPV acc ++ [.bool (straightN (catB w))])) rfl⟩
          · have t' := t _ _ _ _ rfl
            refine x_cons (x_exec rfl (x_name (by decide) rfl (m_pure e_boolc rfl))) ?_
            refine x_cons (x_exec rfl (x_if (t_pure (b := true) (e_cmp (e_name b1 rfl) e_str (E_nonempty hf) rfl)) ?_)) t'
            refine x_cons (x_exec rfl (x_name (by decide) rfl (m_pure (e_and (e_callg (fgl rfl g0) (evs_cons (e_name b1 rfl) (evs_cons (e_sub (slot_imm a5) (e_name a5 rfl) e_int rfl) (evs_cons (e_name a6 rfl) evs_nil))) (fun _ => rfl) s1) (fun _ => e_callg (fgl rfl g0) (evs_cons (e_name b2 rfl) (evs_cons (e_sub (slot_imm a5) (e_name a5 rfl) e_int rfl) (evs_cons (e_name a6 rfl) evs_nil))) (fun _ => rfl) s2)) rfl))) ?_
            refine x_cons (x_exec rfl (x_if (t_pure (b := false) (e_cmp (e_bin (e_meth rfl (slot_imm b1) (e_name b1 rfl) (evs_cons (e_sub (slot_imm a5) (e_name a5 rfl) e_int rfl) evs_nil) (hcnt w.1 false)) (e_meth rfl (slot_imm b2) (e_name b2 rfl) (evs_cons (e_sub (slot_imm a5) (e_name a5 rfl) e_int rfl) evs_nil) (hcnt w.2 true)) m1) (e_bin (e_bin (e_meth rfl (slot_imm b1) (e_name b1 rfl) (evs_cons (e_sub (slot_imm a5) (e_name a5 rfl) e_int rfl) evs_nil) (hcnt w.1 true)) (e_meth rfl (slot_imm b2) (e_name b2 rfl) (evs_cons (e_sub (slot_imm a5) (e_name a5 rfl) e_int rfl) evs_nil) (hcnt w.2 false)) m2) e_int m3) (by rw [hne, hd2]; rfl) rfl)) rfl)) rfl
          · rfl
        · have hd2' : (A == B) = false := by simpa using hd2
          have t := tail (((ρ0.set "due" (.imm (.bool true))).set "due" (.imm (.bool (straightN w.1 && straightN w.2)))).set "due" (.imm (.bool false))) (((sm0.set rfl).set rfl).set rfl) b1 b2 (by rw [hdd, hd2', Bool.and_false]; rfl) b3
          refine ⟨_, for_all rfl ?_, ?_, ((((sm0.set (x := "due") (sl := .imm (.bool true)) rfl).set (x := "due") (sl := .imm (.bool (straightN w.1 && straightN w.2))) rfl)).set (x := "due") (sl := .imm (.bool false)) rfl).set (x := "straight") (sl := .lst (boolsPV acc ++ [.bool (straightN (catB w))])) rfl⟩
          · have t' := t _ _ _ _ rfl
            refine x_cons (x_exec rfl (x_name (by decide) rfl (m_pure e_boolc rfl))) ?_
            refine x_cons (x_exec rfl (x_if (t_pure (b := true) (e_cmp (e_name b1 rfl) e_str (E_nonempty hf) rfl)) ?_)) t'
            refine x_cons (x_exec rfl (x_name (by decide) rfl (m_pure (e_and (e_callg (fgl rfl g0) (evs_cons (e_name b1 rfl) (evs_cons (e_sub (slot_imm a5) (e_name a5 rfl) e_int rfl) (evs_cons (e_name a6 rfl) evs_nil))) (fun _ => rfl) s1) (fun _ => e_callg (fgl rfl g0) (evs_cons (e_name b2 rfl) (evs_cons (e_sub (slot_imm a5) (e_name a5 rfl) e_int rfl) (evs_cons (e_name a6 rfl) evs_nil))) (fun _ => rfl) s2)) rfl))) ?_
            refine x_cons (x_exec rfl (x_if (t_pure (b := true) (e_cmp (e_bin (e_meth rfl (slot_imm b1) (e_name b1 rfl) (evs_cons (e_sub (slot_imm a5) (e_name a5 rfl) e_int rfl) evs_nil) (hcnt w.1 false)) (e_meth rfl (slot_imm b2) (e_name b2 rfl) (evs_cons (e_sub (slot_imm a5) (e_name a5 rfl) e_int rfl) evs_nil) (hcnt w.2 true)) m1) (e_bin (e_bin (e_meth rfl (slot_imm b1) (e_name b1 rfl) (evs_cons (e_sub (slot_imm a5) (e_name a5 rfl) e_int rfl) evs_nil) (hcnt w.1 true)) (e_meth rfl (slot_imm b2) (e_name b2 rfl) (evs_cons (e_sub (slot_imm a5) (e_name a5 rfl) e_int rfl) evs_nil) (hcnt w.2 false)) m2) e_int m3) (by rw [hne, hd2']; rfl) rfl)) (x_cons (x_exec rfl (x_name (by decide) rfl (m_pure e_boolc rfl))) rfl))) rfl
          · rfl
    obtain ⟨ρ3, k1, k2, k3⟩ := step
    obtain ⟨ρ', x1, x2, x3⟩ := straight_loop huv (way := way) (wss := wss) (h := h) hq ws (acc ++ [straightN (catB w)]) ρ3
      (fun x hx => h1 x (.tail _ hx)) (fun x hx => h2 x (.tail _ hx)) (by rw [List.length_append, List.length_singleton]; omega) (P.same k3 (by decide)) (by rw [k2]; simp [boolsPV])
    refine ⟨ρ', for_all rfl ?_, by rw [x2]; simp [boolsPV], k3.trans x3⟩
    have k1' := k1 _ _ _ _ rfl
    have x1' := x1 _ _ _ _ rfl
    exact forGo_cons (bind2v (by decide)) k1' x1'
end Nw

namespace Nw
set_option tactic.hygienic false

theorem adj_at : ∀ (ws : List PW) (j : Nat) (a b : PW), adjB ws = true → ws[j]? = some a → ws[j + 1]? = some b → (straightN (catB a) && straightN (catB b)) = true → namedB (catB a) (catB b) = true ∧ namedB (catB b) (catB a) = true
  | [], j, a, b, _, h, _, _ => by simp at h
  | [_], j, a, b, _, _, h, _ => by simp at h
  | x :: y :: r, 0, a, b, h, h1, h2, h3 => by
    simp only [List.getElem?_cons_zero, Option.some.injEq, List.getElem?_cons_succ] at h1 h2
    subst h1 h2
    unfold adjB at h
    rw [h3] at h
    simp only [Bool.not_true, Bool.false_or, Bool.and_eq_true] at h
    exact h.1
  | x :: y :: r, j + 1, a, b, h, h1, h2, h3 => by
    unfold adjB at h
    rw [Bool.and_eq_true] at h
    exact adj_at (y :: r) j a b h.2 (by simpa using h1) (by simpa using h2) h3

noncomputable abbrev stOf (ws : List PW) : List Bool := ws.map fun w => straightN (catB w)

set_option maxHeartbeats 8000000 in
theorem named_loop {u v : Nat} (huv : u < v) {way : List Bool} {ws : List PW} {h q : Int} (hne : ∀ w ∈ ws, w.2 ≠ [] ∧ (catB w).length ≤ 10) (hl : ws.length ≤ 100) (hadj : adjB ws = true) : ∀ (l : List Nat) (ρ : Rho), (∀ j ∈ l, j + 1 < ws.length) → Pst u v way ws h q ρ → ρ "straight" = some (.lst (boolsPV (stOf ws))) →
    ∃ ρ', (∀ tg it body p, b17.1[11]? = some (.For tg it body [] p) → forGo n17.1 (execs (exec (CB u v) n17.1 19) body) tg (l.map fun (k : Nat) => PV.int ((1 + k : Nat) : Int)) ρ (ρ', .next)) ∧ Same ["k", "one", "other"] ρ ρ'
  | [], ρ, _, _, _ => ⟨ρ, fun _ _ _ _ _ => rfl, .refl _ _⟩
  | j :: l, ρ, h1, P, hst => by
    have hj := h1 j (.head _)
    obtain ⟨a, ha⟩ : ∃ a, ws[j]? = some a := ⟨_, List.getElem?_eq_getElem (by lia)⟩
    obtain ⟨b, hb⟩ : ∃ b, ws[j + 1]? = some b := ⟨_, List.getElem?_eq_getElem (by lia)⟩
    have na := hne a (List.mem_of_getElem? ha)
    have nb := hne b (List.mem_of_getElem? hb)
    have ea : catB a ≠ [] := by unfold catB; intro e; exact na.1 (List.append_eq_nil_iff.mp e).2
    have eb : catB b ≠ [] := by unfold catB; intro e; exact nb.1 (List.append_eq_nil_iff.mp e).2
    have sm : Same ["k", "one", "other"] ρ (((ρ.set "k" (.imm (.int ((1 + j : Nat) : Int)))).set "one" (.imm (.str (E u v (catB a))))).set "other" (.imm (.str (E u v (catB b))))) := (((Same.refl _ ρ).set rfl).set rfl).set rfl
    obtain ⟨ρ', x1, x2⟩ := named_loop huv (way := way) (h := h) (q := q) hne hl hadj l (((ρ.set "k" (.imm (.int ((1 + j : Nat) : Int)))).set "one" (.imm (.str (E u v (catB a))))).set "other" (.imm (.str (E u v (catB b))))) (fun i hi => h1 i (.tail _ hi)) (P.same sm (by decide)) hst
    refine ⟨ρ', fun tg it body p hbb => ?_, sm.trans x2⟩
    have x1' := x1 _ _ _ _ hbb
    have w1 := P.words
    have s1 := P.signs
    have g1 : ρ "_law_named_in_order" = none := P.glob _ (by simp)
    have hsub : bnop .Sub (.int ((1 + j : Nat) : Int)) (.int 1) = some (.int ((j : Nat) : Int)) := by
      show some (PV.int _) = _
      congr 2; lia
    have ia : idxPV (.list (ws.map (pairW u v))) ((j : Nat) : Int) = some (pairW u v a) := idx_nat (by rw [List.length_map]; lia) (by rw [List.getElem?_map, ha]; rfl)
    have ib : idxPV (.list (ws.map (pairW u v))) ((1 + j : Nat) : Int) = some (pairW u v b) := idx_nat (by rw [List.length_map]; lia) (by rw [List.getElem?_map, Nat.add_comm, hb]; rfl)
    have ja : idxPV (.list (boolsPV (stOf ws))) ((j : Nat) : Int) = some (.bool (straightN (catB a))) := idx_nat (by rw [List.length_map, List.length_map]; lia) (by rw [List.getElem?_map, List.getElem?_map, ha]; rfl)
    have jb : idxPV (.list (boolsPV (stOf ws))) ((1 + j : Nat) : Int) = some (.bool (straightN (catB b))) := idx_nat (by rw [List.length_map, List.length_map]; lia) (by rw [List.getElem?_map, List.getElem?_map, Nat.add_comm, hb]; rfl)
    have qa : joinPV (.str "") [pairW u v a] = some (.str (E u v (catB a))) := join_tup (by lia)
    have qb : joinPV (.str "") [pairW u v b] = some (.str (E u v (catB b))) := join_tup (by lia)
    have adj := adj_at ws j a b hadj ha hb
    unfold b17 at hbb
    cases hbb
    refine forGo_cons (ρ1 := ρ.set "k" (.imm (.int ((1 + j : Nat) : Int)))) rfl ?_ x1'
    refine x_cons (x_exec rfl (x_name (by decide) rfl (m_pure (e_meth rfl rfl e_str (evs_cons (e_sub (slot_imm w1) (e_name w1 rfl) (e_bin (e_name rfl rfl) e_int hsub) ia) evs_nil) qa) rfl))) ?_
    refine x_cons (x_exec rfl (x_name (by decide) rfl (m_pure (e_meth rfl rfl e_str (evs_cons (e_sub (slot_imm w1) (e_name w1 rfl) (e_name rfl rfl) ib) evs_nil) qb) rfl))) ?_
    refine x_cons (x_exec rfl (x_if (b := straightN (catB a) && straightN (catB b)) (t_pure (e_and (e_sublst (slot_lst hst rfl) (e_bin (e_name rfl rfl) e_int hsub) ja) (fun _ => e_sublst (slot_lst hst rfl) (e_name rfl rfl) jb))) ?_)) rfl
    by_cases hc : (straightN (catB a) && straightN (catB b)) = true
    · obtain ⟨m1, m2⟩ := adj hc
      rw [if_pos hc]
      exact x_cons (x_exec rfl (x_if (b := false) (t_pure (e_or (p := false) (q := false) (e_un (e_callg (fgl rfl g1) (evs_cons (e_name rfl rfl) (evs_cons (e_name rfl rfl) (evs_cons (e_name s1 rfl) evs_nil))) (fun _ => rfl) (named_val huv ea eb (by lia) (by lia) m1)) rfl)
        (fun _ => e_un (e_callg (fgl rfl g1) (evs_cons (e_name rfl rfl) (evs_cons (e_name rfl rfl) (evs_cons (e_name s1 rfl) evs_nil))) (fun _ => rfl) (named_val huv eb ea (by lia) (by lia) m2)) rfl))) rfl)) rfl
    · rw [if_neg hc]
      rfl

theorem toPys_bools : ∀ l : List Bool, toPys (boolsPV l) = l.map PyData.bool
  | [] => rfl
  | b :: l => by
    show PyData.bool b :: toPys (boolsPV l) = _
    rw [toPys_bools l]; rfl
theorem notin_bools {c : Cfg} (l : List Bool) : c.cmp .NotIn (.bool false) (.list (boolsPV l)) = some (l.all id) := by
  unfold Cfg.cmp
  have hw : wf 9 (.list (boolsPV l)) = true := wfs_map fun _ _ => rfl
  obtain ⟨d1, d2⟩ := shaped_wf hw (by decide)
  rw [show cmpPV .NotIn (.bool false) (.list (boolsPV l)) = some (l.all id) from by
    show (if _ then _ else _) = _
    rw [if_pos]
    · rw [toPys_bools, List.any_map]
      congr 1
      induction l with
      | nil => rfl
      | cons b l ih =>
        rw [List.any_cons, List.all_cons, Bool.not_or, ih (wfs_map fun _ _ => rfl) (shaped_wf (d := 9) (p := .list (boolsPV l)) (wfs_map fun _ _ => rfl) (by decide)).1 (shaped_wf (d := 9) (p := .list (boolsPV l)) (wfs_map fun _ _ => rfl) (by decide)).2]
        cases b <;> rfl
    · have : isDatas (boolsPV l) = true := d1
      rw [this, d2]; rfl]
  rfl
theorem eqv_nil (l : List PV) : eqvPV (.list l) (.list []) = l.isEmpty := by
  cases l with
  | nil => rfl
  | cons a l => rfl
end Nw

namespace Nw
set_option tactic.hygienic false

theorem pf_mm1 {hd : Int} {items : List PV} {j : Nat} (h : j ≤ items.length) (hl : items.length ≤ 1000) : mmP "pop_from" hd items [.int j] = some (.list (items.drop j), items.take j) := by
  unfold mmP
  rw [if_neg (by decide), if_neg (by decide), if_pos rfl]; dsimp only
  rw [if_pos ⟨by lia, by lia, by rw [sizeLine_eq]; lia⟩, Int.toNat_natCast]
theorem pf_mm0 {hd : Int} {items : List PV} (hl : items.length ≤ 1000) : mmP "pop_from" hd items [] = some (.list items, []) := by
  unfold mmP
  rw [if_neg (by decide), if_neg (by decide), if_pos rfl]; dsimp only
  rw [if_pos (by rw [sizeLine_eq]; lia)]

set_option maxHeartbeats 16000000 in
theorem post_run {u v : Nat} (huv : u < v) (hv : v < 0x110000) {way : List Bool} {ws : List PW} (G : GoodW way ws) (hw7 : 7 ≤ way.length) (hw10 : way.length ≤ 10) {h q : Int} (hh : 0 ≤ h ∧ h < 3) (hq : 7 ≤ q ∧ q ≤ 7906) {ρ : Rho} (P : Pst u v way ws h q ρ) (hp : ρ "pile" = some (.acc h (ws.map (pairW u v)))) :
    ∃ ρ', execs (exec (CB u v) n17.1 20) (b17.1.drop 5) ρ (ρ', .ret (.bool true)) := by
  have hu : u < 0x110000 := by lia
  have hfl : (ws.map catB).flatten.length ≤ 10 := by rw [G.len]; exact hw10
  have hwl : ws.length ≤ 10 := Nat.le_trans (ws_len G.ne) hfl
  have hsm := small_fs (u := u) (v := v) G.ne (by lia)
  have hjn := join_fs (u := u) (v := v) (ws := ws) (by lia)
  have hho : headOk h = true := by unfold headOk; simp; lia
  have hon := only_val (u := u) (v := v) hsm hho hjn
  rw [only_eq G (by lia)] at hon
  have w1 := P.words
  have g1 : ρ "len" = none := P.glob _ (by simp)
  have h1 := P.head
  have y1 := P.way
  have hlw : (ws.map (pairW u v)).length = ws.length := List.length_map _
  have half : bnop .FloorDiv (.int ((ws.map (pairW u v)).length : Nat)) (.int 2) = some (.int ((ws.length / 2 : Nat) : Int)) := by
    rw [bnop_div (by decide) (pylong_small (by decide)), Int.fdiv_eq_ediv_of_nonneg _ (by decide), hlw]
    rfl
  have p1 := pf_mm1 (hd := h) (items := ws.map (pairW u v)) (j := ws.length / 2) (by rw [hlw]; lia) (by rw [hlw]; lia)
  have p2 := pf_mm0 (hd := h) (items := (ws.map (pairW u v)).take (ws.length / 2)) (by rw [List.length_take, hlw]; lia)
  have sd : slicePV (.list (ws.map (pairW u v))) (some ((ws.length / 2 : Nat) : Int)) none = some (.list ((ws.map (pairW u v)).drop (ws.length / 2))) := by
    unfold slicePV; dsimp only
    rw [if_pos ⟨by lia, by rw [hlw, sizeLine_eq]; lia⟩, Int.toNat_natCast]
  have st : slicePV (.list (ws.map (pairW u v))) none (some ((ws.length / 2 : Nat) : Int)) = some (.list ((ws.map (pairW u v)).take (ws.length / 2))) := by
    unfold slicePV; dsimp only
    rw [if_pos ⟨by lia, by rw [hlw, sizeLine_eq]; lia⟩, Int.toNat_natCast]
  have wfl : wf 9 (.list [.list ((ws.map (pairW u v)).drop (ws.length / 2)), .list ((ws.map (pairW u v)).take (ws.length / 2))]) = true := by
    have a1 : wfs 7 ((ws.map (pairW u v)).drop (ws.length / 2)) = true := by rw [← List.map_drop]; exact wf_pairs hu hv _
    have a2 : wfs 7 ((ws.map (pairW u v)).take (ws.length / 2)) = true := by rw [← List.map_take]; exact wf_pairs hu hv _
    simp [wf, wfs, a1, a2]
  have l0 : scP "len" (.acc h []) = some (.int h) := by
    have := len_val (u := u) (v := v) (ws := []) (h := h) rfl hho
    have e : sumLen (fsW u v []) = 0 := rfl
    rw [e, Int.add_zero] at this
    exact this
  have o0 : smQ "is_onlyws" (.acc h []) [] = some (.bool (h == 0)) := by
    have := only_val (u := u) (v := v) (ws := []) (h := h) rfl hho rfl
    rw [show onlyP h (fsW u v []) = (h == 0) from by
      unfold onlyP
      rw [show sumLen (fsW u v []) = 0 from rfl, Int.add_zero]
      cases (h == 0) <;> rfl] at this
    exact this
  have heq : (CB u v).base.cmp .Eq (.int h) (.int 0) = some (h == 0) := rfl
  have spc : isspacePV (.str (E u v way)) [] = some (.bool (Txt.isspace (E u v way))) := rfl
  generalize hh0 : (h == 0) = hz at *
  generalize hsp : Txt.isspace (E u v way) = sp at *
  -- the frame after the pile is empty
  obtain ⟨ρ4, hρ4⟩ : ∃ ρ4, ρ4 = (((ρ.set "half" (.imm (.int ((ws.length / 2 : Nat) : Int)))).set "pile" (.acc h ((ws.map (pairW u v)).take (ws.length / 2)))).set "pile" (.acc h [])).set "straight" (.lst []) := ⟨_, rfl⟩
  have sm4 : Same ["half", "pile", "straight"] ρ ρ4 := by rw [hρ4]; exact ((((Same.refl _ ρ).set rfl).set rfl).set rfl).set rfl
  have P4 := P.same sm4 (by decide)
  obtain ⟨ρ5, k1, k2, k3⟩ := straight_loop huv (way := way) (wss := ws) (h := h) hq ws [] ρ4 G.ne G.st (by simp; lia) P4 (by rw [hρ4]; rfl)
  have P5 := P4.same k3 (by decide)
  obtain ⟨ρ6, n1, n2⟩ := named_loop huv (way := way) (ws := ws) (h := h) (q := q) G.ne (by lia) G.adj (List.range (ws.length - 1)) ρ5 (fun j hj => by rw [List.mem_range] at hj; lia) P5 (by simpa using k2)
  have P6 := P5.same n2 (by decide)
  have s6 : ρ6 "straight" = some (.lst (boolsPV (stOf ws))) := by rw [n2 "straight" (by decide)]; simpa using k2
  have g5r : ρ5 "range" = none := P5.glob _ (by simp)
  have g5l : ρ5 "len" = none := P5.glob _ (by simp)
  have w5 := P5.words
  have w4 := P4.words
  have hfz : ρ6.freeze ["straight"] "straight" = some (.imm (.list (boolsPV (stOf ws)))) := by
    unfold Rho.freeze
    rw [s6]; rfl
  have f1 : ρ6.freeze ["straight"] "way" = some (.imm (.str (E u v way))) := P6.way
  have f2 : ρ6.freeze ["straight"] "signs" = some (.imm (signPV (u, v))) := P6.signs
  have f3 : ρ6.freeze ["straight"] "_law_points_under_the_rope" = none := P6.glob _ (by simp)
  have pv := points_val huv (bs := way) (by lia)
  have wfp : wf 9 (.list ((ptsB (colsB way)).map ptPV)) = true := wfs_map fun _ _ => rfl
  have fin : (CB u v).base.cmp .Eq (.bool (((ptsB (colsB way)).map ptPV).isEmpty)) (.bool ((stOf ws).all id)) = some true := by
    rw [cmp_bool_eq]
    have e1 : ((ptsB (colsB way)).map ptPV).isEmpty = (ptsB (colsB way)).isEmpty := by cases ptsB (colsB way) <;> rfl
    have e2 : (stOf ws).all id = ws.all fun w => straightN (catB w) := by unfold stOf; rw [List.all_map]; rfl
    rw [e1, e2, G.pts]; simp
  unfold b17 n17 at *
  refine g_cons (x_exec rfl (x_if (b := false) (t_pure (e_cmp (e_smeth rfl (slot_acc hp rfl) evs_nil hon) (e_and (e_cmp (e_name h1 rfl) e_int heq rfl) (fun _ => e_meth rfl (slot_imm y1) (e_name y1 rfl) evs_nil spc)) (by rw [cmp_isnot]; simp) rfl)) rfl)) ?_
  refine g_cons (x_exec rfl (x_name (by decide) rfl (m_pure (e_bin (e_lenL (fgl rfl g1) (slot_imm w1) (e_name w1 rfl) (fun _ => rfl) (by rw [hlw]; lia)) e_int half) rfl))) ?_
  refine g_cons (x_exec rfl (x_if (b := false) (t_mm rfl (m_lists (ms_cons (m_acc hp rfl rfl (evs_cons (e_name rfl rfl) evs_nil) p1) (ms_cons (m_acc rfl rfl rfl evs_nil p2) ms_nil)) rfl (sz rfl rfl)) (e_list (evs_cons (e_slice (slot_imm w1) (e_name w1 rfl) (part_some (e_name rfl rfl)) part_none sd) (evs_cons (e_slice (slot_imm w1) (e_name w1 rfl) part_none (part_some (e_name rfl rfl)) st) evs_nil)) (sz rfl rfl)) (cmp_list_ne wfl wfl (by rw [eqv_self wfl]; rfl))) rfl)) ?_
  have wf0 : wf 9 (.list [.int 0, .int h, .tup [.str "", .str ""]]) = true := by
    have e : PyData.strOk (Str.ofString "") = true := by decide +kernel
    simp [wf, wfs, e]
  have hpop : smQ "pop" (.acc h []) [] = some (.tup [.str "", .str ""]) := rfl
  have hcnt : smQ "part_count" (.acc h []) [] = some (.int 0) := rfl
  have hcl : (CB u v).base.cmp .NotEq (.list [.int 0, .int h, .tup [.str "", .str ""]]) (.list [.int 0, .int h, .tup [.str "", .str ""]]) = some false := cmp_list_ne wf0 wf0 (by rw [eqv_self wf0]; rfl)
  refine g_cons (x_exec rfl (x_if (b := false) (t_pure (e_or (p := false) (q := false) (e_cmp (e_list (evs_cons (e_smeth rfl (slot_acc rfl rfl) evs_nil hcnt) (evs_cons (e_scall (fgl rfl g1) (slot_acc rfl rfl) l0) (evs_cons (e_smeth rfl (slot_acc rfl rfl) evs_nil hpop) evs_nil))) (sz rfl rfl)) (e_list (evs_cons e_int (evs_cons (e_name h1 rfl) (evs_cons (e_tup (evs_cons e_str (evs_cons e_str evs_nil)) (sz rfl rfl)) evs_nil))) (sz rfl rfl)) hcl rfl)
    (fun _ => e_cmp (e_smeth rfl (slot_acc rfl rfl) evs_nil o0) (e_cmp (e_name h1 rfl) e_int heq rfl) (by rw [cmp_isnot]; simp) rfl))) rfl)) ?_
  refine g_cons (x_exec rfl (x_nil (by decide))) ?_
  rw [← hρ4]
  refine g_cons (x_exec rfl (x_for (its := ws.map (pairW u v)) rfl rfl (e_name w4 rfl) (by unfold itemsPV; dsimp only; rw [if_pos (by rw [hlw, sizeLine_eq]; lia)]) (k1 _ _ _ _ rfl))) ?_
  refine g_cons (x_exec rfl (x_for rfl rfl (e_callg (fgl rfl g5r) (evs_cons e_int (evs_cons (e_lenL (fgl rfl g5l) (slot_imm w5) (e_name w5 rfl) (fun _ => rfl) (by rw [hlw]; lia)) evs_nil)) (fun _ => rfl) rfl) (items_rng (l := 1) (m := ws.length) rfl (by rw [hlw]) (by lia) (by lia)) (n1 _ _ _ _ rfl))) ?_
  exact g_ret (x_execf rfl rfl (x_return (m_pure (e_cmp (e_cmp (e_callg (fgl rfl f3) (evs_cons (e_name f1 rfl) (evs_cons (e_sub (slot_imm f2) (e_name f2 rfl) e_int rfl) evs_nil)) (fun _ => rfl) pv) (e_list evs_nil (sz rfl rfl)) (cmp_list_eq wfp rfl (eqv_nil _)) rfl) (e_cmp e_boolc (e_name hfz rfl) (notin_bools _) rfl) fin rfl) rfl)))
end Nw

namespace Nw
set_option tactic.hygienic false

/-- a heap without what another lacks -/
noncomputable def maskH (h0 h : Heap) : Heap := hideAll h ((List.range h.objs.size).filter fun b => (h0.get? b).isNone)
theorem mask_keep (h0 h : Heap) : Keep (maskH h0 h) h := fun _ _ e => of_hideAll _ e
theorem mask_get {h0 h : Heap} {b : Addr} {o : Obj} (e : h.get? b = some o) (h0b : (h0.get? b).isSome = true) : (maskH h0 h).get? b = some o := by
  refine hideAll_get _ e fun hm => ?_
  have := (List.mem_filter.mp hm).2
  rw [Option.isNone_iff_eq_none] at this
  rw [this] at h0b; cases h0b
theorem mask_none {h0 h : Heap} {b : Addr} (e : h0.get? b = none) : (maskH h0 h).get? b = none := by
  cases q : h.get? b with
  | none =>
    cases q2 : (maskH h0 h).get? b with
    | none => rfl
    | some o => rw [mask_keep _ _ _ _ q2] at q; cases q
  | some o =>
    refine hideAll_none _ (List.mem_filter.mpr ⟨List.mem_range.mpr (Heap.lt_size q), ?_⟩)
    rw [e]; rfl

section
variable {W : Wd} {hB2 : Heap} {h0 h2 : Heap} {F : FM} {s s3 : Shared} {env : Env} {N : Names} {ρ : Rho} {pk : Addr → Prop}

theorem bound_kb (hc : env.cells = []) (k : KB pk s.heap s3.heap) (hL : pk env.locals) {x : Str} {v : Value} (b : Bound s.heap env x v) : Bound s3.heap env x v := by
  rcases b with ⟨e, m, n, q⟩ | ⟨e, c, l, q⟩
  · exact .inl ⟨e, m, n.at' fun o e => k _ _ hL e, q⟩
  · rw [hc] at l; cases l

/-- the frame goes on in another world -/
theorem FI.move (fi : FI W h0 F s env N ρ) (hc : env.cells = []) (k : KB pk s.heap s3.heap) (hL : pk env.locals) (hF : ∀ b o, F b = some o → pk b) (hm : ∀ x sl a, ρ x = some sl → sl.isMut = true → Bound s.heap env x (.ref a) → pk a)
    (base : Keep hB2 s3.heap) (hn : h2.get? env.locals = none) : FI { W with hB := hB2 } h2 F s3 env N ρ := by
  have back : ∀ x v sl, ρ x = some sl → Bound s3.heap env x v → Bound s.heap env x v := fun x v sl e b => by
    obtain ⟨u, _, hu⟩ := fi.slots x sl e
    have := (bound_kb hc k hL hu).unique b
    subst this
    exact hu
  have st3 : Sits F s3.heap := fun a o e => k _ _ (hF _ _ e) (fi.sits _ _ e)
  refine { sits := st3, base := base, kind := fi.kind, globals := fi.globals, blt := fi.blt, ns := ?_, cells := ?_, apart := fi.apart, nl := fi.nl, privL := ⟨fi.privL.1, hn⟩, privF := fi.privF, privC := ?_, kindL := fi.kindL, kindC := fi.kindC, kindF := fi.kindF, kindG := fi.kindG, slots := ?_, muts := ?_ }
  · obtain ⟨m, n⟩ := fi.ns
    exact ⟨m, n.at' fun o e => k _ _ hL e⟩
  · intro p hp
    rw [hc] at hp; cases hp
  · intro x c _ l
    rw [hc] at l; cases l
  · intro x sl e
    obtain ⟨v, hs, hb⟩ := fi.slots x sl e
    refine ⟨v, ?_, bound_kb hc k hL hb⟩
    cases sl with
    | imm p => exact hs
    | lst ps =>
      obtain ⟨a, vs, n, rfl, e1, r, off⟩ := hs
      exact ⟨a, vs, n, rfl, k _ _ (hm x _ a e rfl hb) e1, r, off⟩
    | acc hd ps =>
      obtain ⟨a, dx, vs, n, hh, kk, t, m, rfl, e1, e2, r, off⟩ := hs
      exact ⟨a, dx, vs, n, hh, kk, t, m, rfl, k _ _ (hm x _ a e rfl hb) e1, e2, r, off⟩
  · intro x y sl sl' v e1 e2 m1 m2 b1 b2
    exact fi.muts x y sl sl' v e1 e2 m1 m2 (back x v sl e1 b1) (back y v sl' e2 b2)

/-- the body's state goes on in the world of what now stands -/
theorem SJ.move {F0 : FM} {s1 : Shared} (sj : SJ W F0 s1 F s env N ρ) (hc : env.cells = []) (k : KB pk s.heap s3.heap) (hL : pk env.locals) (hF : ∀ b o, F b = some o → pk b) (hm : ∀ x sl a, ρ x = some sl → sl.isMut = true → Bound s.heap env x (.ref a) → pk a) :
    SJ { W with hB := maskH s1.heap s3.heap } (fun b => if (s1.heap.get? b).isSome then F b else none) { s3 with heap := maskH s1.heap s3.heap } F s3 env N ρ := by
  have fi2 : FI { W with hB := maskH s1.heap s3.heap } (maskH s1.heap s3.heap) F s3 env N ρ := sj.si.fi.move hc k hL hF hm (mask_keep _ _) (mask_none sj.si.fi.privL.2)
  have le : FM.le (fun b => if (s1.heap.get? b).isSome then F b else none) F := fun a o e => by
    dsimp only at e
    split at e
    · exact e
    · cases e
  refine ⟨⟨fi2, ⟨le, fi2.sits, mask_keep _ _, fun a o e => ?_, rfl, id⟩, .refl _⟩, fun x sl a e m b => ?_⟩
  · cases q : s1.heap.get? a with
    | none => exact .inr (mask_none q)
    | some o' =>
      left
      exact e
  · obtain ⟨u, _, hu⟩ := sj.si.fi.slots x sl e
    have := (bound_kb hc k hL hu).unique b
    subst this
    exact mask_none (sj.own x sl a e m hu)
end

theorem code_on {c P : Addr} {tab : Array Value} {hm h : Heap} (x : hm.IsCode c P tab) (h1 : ∀ o, hm.get? c = some o → h.get? c = some o) (h2 : ∀ o, hm.get? P = some o → h.get? P = some o) : h.IsCode c P tab := by
  obtain ⟨o, vs, file, tf, flags, tg, inF, text, tt, op, a, r1, r2, r3, r4, r5, r6, b, r⟩ := x
  exact ⟨o, vs, file, tf, flags, tg, inF, text, tt, op, h1 _ a, r1, r2, r3, r4, r5, r6, h2 _ b, r⟩
theorem tab_on {c P : Addr} {tab : Array Value} {hm h : Heap} (x : hm.TableAt c P tab) (h1 : ∀ o, hm.get? c = some o → h.get? c = some o) (h2 : ∀ o, hm.get? P = some o → h.get? P = some o) : h.TableAt c P tab := by
  obtain ⟨⟨o2, vs2, a2, r22⟩, t2⟩ := x
  exact ⟨⟨o2, vs2, h1 _ a2, r22⟩, h2 _ t2⟩
theorem CodeIn.on {c P : Addr} {gpos : Pos} {hm h : Heap} (x : CodeIn c P gpos hm) (h1 : ∀ o, hm.get? c = some o → h.get? c = some o) (h2 : ∀ o, hm.get? P = some o → h.get? P = some o) : CodeIn c P gpos h :=
  let ⟨tab, a, b, r⟩ := x; ⟨tab, code_on a h1 h2, tab_on b h1 h2, r⟩
theorem CodeNot.of {K : Frag} {h : Heap} {c P : Addr} {gpos : Pos} (X : K.In h) (e : codeHdIn K c P = true) (hP : h.get? P = some (tabObj #[])) : CodeNot c P gpos h := by
  have H := codeHd_of_K X e
  exact ⟨#[], H.code hP (by exact trivial), H.tab hP, rfl⟩
end Nw

namespace Nw
set_option tactic.hygienic false

section
variable {W : Wd} {K : Frag} {A : Around} {F0 F : FM} {s1 s : Shared} {env : Env} {N : Names} {ρ : Rho} {f c P : Addr} {h : Int} {fs : List (Str × Str)} {gpos : Pos} {scope : Scope} {x : Str}

theorem first_hcode (base : Keep W.hB s.heap) (hP : W.hB.get? P = none) (hn : CodeNot c P gpos s.heap) : HCode W s (.ref c) gpos scope (fun b => b ≠ P) (CodeIn c P gpos) := by
  intro A env s' Q' he k hq
  exact code_first (fd := { (default : FuncData) with code := .ref c }) base hP rfl hn A env s' Q' he k hq

/-- the first len of a pile, in a frame -/
theorem eval_len_first (ok : WdOK W) (AK : AccK W K) (gl : W.glob "len" (.builtin "len")) (G : GenAt W K "__len__" f c P) (C : LenC W f (.ref c) gpos scope) (hA : Amb A 3) (fi : FI W s1.heap F s env N ρ) (hx : ρ x = some (.acc h (pairsPV fs))) (ho : okName x = true) (hN : N.lookup ("len" : Str) = some .globalImplicit)
    (hpF : ∀ b o, F b = some o → b ≠ P) (hpa : ∀ a, Bound s.heap env x (.ref a) → a ≠ P) (hex : ∃ o, s.heap.get? P = some o) (hP : W.hB.get? P = none) (hn : CodeNot c P gpos s.heap) (hs : smallB fs = true) (hh : headOk h = true) {pn px pos : Pos} :
    wpAny W.M A (eval (.Call (.Name "len" pn) [.Name x px] [] pos) env) (fun v s' => (∃ t, v = .int (h + sumLen fs) t) ∧ After W (fun b => b ≠ P) (CodeIn c P gpos) s s') NoE s := by
  obtain ⟨v, hsl, hb⟩ := fi.slots x _ hx
  obtain ⟨a, rfl⟩ := slot_env hsl
  refine wpAny_Call_Name_kw (name_glob ok fi hN (by decide) gl ?_)
  refine Nw.callWith_of (trees := backTo pos (starEach [.Name x px] env)) rfl (callee_builtin _) ?_
  refine wpAny_items_cons (Nw.name_bound fi.kind hb ho ?_) rfl
  refine wpAny_items_nil ⟨fi.base, ?_⟩
  refine len_pile AK G C hA fi.sits fi.base hsl hpF (hpa a hb) (fun b hb' => ?_) (first_hcode fi.base hP hn) hs hh
  rintro rfl
  obtain ⟨o, e⟩ := hex
  rw [e] at hb'; cases hb'
/-- the first text of a pile, in a frame -/
theorem eval_str_first (ok : WdOK W) (AK : AccK W K) (gl : W.glob "str" (.type "str")) (G : GenAt W K "__str__" f c P) (C : StrC W f (.ref c) gpos scope) (hA : Amb A 4) (fi : FI W s1.heap F s env N ρ) (hx : ρ x = some (.acc h (pairsPV fs))) (ho : okName x = true) (hN : N.lookup ("str" : Str) = some .globalImplicit)
    (hpF : ∀ b o, F b = some o → b ≠ P) (hpa : ∀ a, Bound s.heap env x (.ref a) → a ≠ P) (hex : ∃ o, s.heap.get? P = some o) (hP : W.hB.get? P = none) (hn : CodeNot c P gpos s.heap) (hs : smallB fs = true) (hj : JoinOk "" (fs.map fun p => Txt.join "" [p.1, p.2]) = true) {pn px pos : Pos} :
    wpAny W.M A (eval (.Call (.Name "str" pn) [.Name x px] [] pos) env) (fun v s' => (∃ t, v = .str (textOf fs) t) ∧ After W (fun b => b ≠ P) (CodeIn c P gpos) s s') NoE s := by
  obtain ⟨v, hsl, hb⟩ := fi.slots x _ hx
  obtain ⟨a, rfl⟩ := slot_env hsl
  refine wpAny_Call_Name_kw (name_glob ok fi hN (by decide) gl ?_)
  refine Nw.callWith_of (trees := backTo pos (starEach [.Name x px] env)) rfl (callee_type _) ?_
  refine wpAny_items_cons (Nw.name_bound fi.kind hb ho ?_) rfl
  refine wpAny_items_nil ⟨fi.base, ?_⟩
  refine str_pile AK G C hA fi.sits fi.base hsl hpF (hpa a hb) (fun b hb' => ?_) (first_hcode fi.base hP hn) hs hj
  rintro rfl
  obtain ⟨o, e⟩ := hex
  rw [e] at hb'; cases hb'
end

/-- a frame after a step that keeps all but one table -/
theorem FI.after {W : Wd} {h0 : Heap} {F : FM} {s s3 : Shared} {env : Env} {N : Names} {ρ : Rho} {pk : Addr → Prop} (fi : FI W h0 F s env N ρ) (hc : env.cells = []) (k : KB pk s.heap s3.heap) (hL : pk env.locals) (hF : ∀ b o, F b = some o → pk b) (hm : ∀ x sl a, ρ x = some sl → sl.isMut = true → Bound s.heap env x (.ref a) → pk a)
    (base : Keep W.hB s3.heap) : FI W h0 F s3 env N ρ := fi.move hc k hL hF hm base fi.privL.2

/-- the two tables of the pile's generators -/
structure Tabs (W : Wd) (K : Frag) (s1 : Shared) (cl Pl : Addr) (gl : Pos) (cs Ps : Addr) (gs : Pos) : Prop where
  ak : AccK W K
  len : ∃ f scope, GenAt W K "__len__" f cl Pl ∧ LenC W f (.ref cl) gl scope
  str : ∃ f scope, GenAt W K "__str__" f cs Ps ∧ StrC W f (.ref cs) gs scope
  hidl : W.hB.get? Pl = none
  hids : W.hB.get? Ps = none
  notl : CodeNot cl Pl gl s1.heap
  nots : CodeNot cs Ps gs s1.heap
  ne : Pl ≠ Ps
  ne2 : cl ≠ Ps
  ne3 : cs ≠ Pl

theorem CodeNot.ex {c P : Addr} {g : Pos} {h : Heap} (x : CodeNot c P g h) : (∃ o, h.get? c = some o) ∧ ∃ o, h.get? P = some o := by
  obtain ⟨tab, hc, ⟨⟨o2, vs2, a2, _⟩, t2⟩, _⟩ := x
  exact ⟨⟨o2, a2⟩, ⟨_, t2⟩⟩
theorem CodeNot.on {c P : Addr} {g : Pos} {hm h : Heap} (x : CodeNot c P g hm) (h1 : ∀ o, hm.get? c = some o → h.get? c = some o) (h2 : ∀ o, hm.get? P = some o → h.get? P = some o) : CodeNot c P g h :=
  let ⟨tab, a, b, r⟩ := x; ⟨tab, code_on a h1 h2, tab_on b h1 h2, r⟩

/-- len and text of a pile for the first time: what is left -/
structure Moved (W : Wd) (s1 : Shared) (env : Env) (N : Names) (ρ : Rho) (cl Pl : Addr) (gl : Pos) (cs Ps : Addr) (gs : Pos) (F : FM) (s s3 : Shared) : Prop where
  sj : SJ { W with hB := maskH s1.heap s3.heap } (fun b => if (s1.heap.get? b).isSome then F b else none) { s3 with heap := maskH s1.heap s3.heap } F s3 env N ρ
  inl : CodeIn cl Pl gl (maskH s1.heap s3.heap)
  ins : CodeIn cs Ps gs (maskH s1.heap s3.heap)
  old : ∀ b o, b ≠ Pl → b ≠ Ps → s1.heap.get? b = some o → (maskH s1.heap s3.heap).get? b = some o
  gens : AllBare s.gens → AllBare s3.gens
  os : s3.os = s.os

theorem two_first {W : Wd} {K : Frag} {A : Around} {F0 F : FM} {s1 s : Shared} {env : Env} {N : Names} {ρ : Rho} {cl Pl cs Ps : Addr} {gl gs : Pos} {h : Int} {fs : List (Str × Str)} {x : Str} (ok : WdOK W) (T : Tabs W K s1 cl Pl gl cs Ps gs) (g1 : W.glob "len" (.builtin "len")) (g2 : W.glob "str" (.type "str"))
    (hA : Amb A 4) (sj : SJ W F0 s1 F s env N ρ) (hc : env.cells = []) (hF0 : ∀ b o, F0 b = some o → b ≠ Pl ∧ b ≠ Ps) (hx : ρ x = some (.acc h (pairsPV fs))) (ho : okName x = true) (hN : N.lookup ("len" : Str) = some .globalImplicit) (hN2 : N.lookup ("str" : Str) = some .globalImplicit)
    (hs : smallB fs = true) (hh : headOk h = true) (hj : JoinOk "" (fs.map fun p => Txt.join "" [p.1, p.2]) = true) {pn px pos : Pos} {Q : Value → Value → Shared → Prop}
    (hQ : ∀ t u s3, Moved W s1 env N ρ cl Pl gl cs Ps gs F s s3 → Q (.int (h + sumLen fs) t) (.str (textOf fs) u) s3) :
    wpAny W.M A (eval (.Call (.Name "len" pn) [.Name x px] [] pos) env) (fun v s2 => ∀ pn2 px2 pos2 : Pos, wpAny W.M A (eval (.Call (.Name "str" pn2) [.Name x px2] [] pos2) env) (fun u s3 => Q v u s3) NoE s2) NoE s := by
  obtain ⟨⟨ol, hol⟩, ⟨opl, hopl⟩⟩ := T.notl.ex
  obtain ⟨⟨os', hos⟩, ⟨ops, hops⟩⟩ := T.nots.ex
  have k01 := sj.si.grow.keep
  have fi := sj.si.fi
  -- nothing of the frame's lies in the tables
  have nF : ∀ P op, s1.heap.get? P = some op → (∀ o, F0 P = some o → False) → ∀ b o, F b = some o → b ≠ P := by
    rintro P op hP hn b o e rfl
    rcases sj.si.grow.fresh _ _ e with q | q
    · exact hn _ q
    · rw [hP] at q; cases q
  have nFl := nF Pl opl hopl fun o e => (hF0 _ _ e).1 rfl
  have nFs := nF Ps ops hops fun o e => (hF0 _ _ e).2 rfl
  have nM : ∀ P op, s1.heap.get? P = some op → ∀ y sl a, ρ y = some sl → sl.isMut = true → Bound s.heap env y (.ref a) → a ≠ P := by
    rintro P op hP y sl a e m b rfl
    rw [sj.own y sl _ e m b] at hP; cases hP
  have nMl := nM Pl opl hopl
  have nMs := nM Ps ops hops
  have nLl : env.locals ≠ Pl := by rintro q; have := fi.privL.2; rw [q, hopl] at this; cases this
  have nLs : env.locals ≠ Ps := by rintro q; have := fi.privL.2; rw [q, hops] at this; cases this
  obtain ⟨fl, scl, Gl, Cl⟩ := T.len
  obtain ⟨fs', scs, Gs, Cs⟩ := T.str
  refine wpAny_mono (eval_len_first ok T.ak g1 Gl Cl (hA.le (by decide)) fi hx ho hN nFl (fun a b => nMl x _ a hx rfl b) ⟨_, k01 _ _ hopl⟩ T.hidl (T.notl.on (fun o e => k01 _ _ e) fun o e => k01 _ _ e) hs hh) ?_ fun _ _ z => z
  rintro v s2 ⟨⟨t, rfl⟩, kb, base2, ⟨hm, mk, km⟩, G2, o2⟩ pn2 px2 pos2
  have fi2 : FI W s1.heap F s2 env N ρ := fi.after hc kb nLl nFl nMl base2
  have b2 : ∀ y u sl, ρ y = some sl → Bound s2.heap env y u → Bound s.heap env y u := fun y u sl e b => by
    obtain ⟨v', _, hv'⟩ := fi.slots y sl e
    have := (bound_kb hc kb nLl hv').unique b
    subst this
    exact hv'
  have in2 : CodeIn cl Pl gl s2.heap := mk.on (fun o e => km _ _ ⟨_, k01 _ _ hol⟩ e) (fun o e => km _ _ ⟨_, k01 _ _ hopl⟩ e)
  have not2 : CodeNot cs Ps gs s2.heap := T.nots.on (fun o e => kb _ _ T.ne3 (k01 _ _ e)) (fun o e => kb _ _ (Ne.symm T.ne) (k01 _ _ e))
  refine wpAny_mono (eval_str_first ok T.ak g2 Gs Cs hA fi2 hx ho hN2 nFs (fun a b => nMs x _ a hx rfl (b2 _ _ _ hx b)) ⟨_, kb _ _ (Ne.symm T.ne) (k01 _ _ hops)⟩ T.hids not2 hs hj) ?_ fun _ _ z => z
  rintro u s3 ⟨⟨t', rfl⟩, kb2, base3, ⟨hm2, mk2, km2⟩, G3, o3⟩
  have kb3 : KB (fun b => b ≠ Pl ∧ b ≠ Ps) s.heap s3.heap := fun b o hb e => kb2 _ _ hb.2 (kb _ _ hb.1 e)
  have in3 : CodeIn cs Ps gs s3.heap := mk2.on (fun o e => km2 _ _ ⟨_, kb _ _ T.ne3 (k01 _ _ hos)⟩ e) (fun o e => km2 _ _ ⟨_, kb _ _ (Ne.symm T.ne) (k01 _ _ hops)⟩ e)
  have in3l : CodeIn cl Pl gl s3.heap := in2.on (fun o e => kb2 _ _ T.ne2 e) (fun o e => kb2 _ _ T.ne e)
  have mg : ∀ b, (∃ o, s1.heap.get? b = some o) → ∀ o, s3.heap.get? b = some o → (maskH s1.heap s3.heap).get? b = some o := fun b ⟨o', e'⟩ o e => mask_get e (by rw [e']; rfl)
  exact hQ t t' s3 {
    sj := sj.move hc kb3 ⟨nLl, nLs⟩ (fun b o e => ⟨nFl b o e, nFs b o e⟩) (fun y sl a e m b => ⟨nMl y sl a e m b, nMs y sl a e m b⟩)
    inl := in3l.on (mg _ ⟨_, hol⟩) (mg _ ⟨_, hopl⟩)
    ins := in3.on (mg _ ⟨_, hos⟩) (mg _ ⟨_, hops⟩)
    old := fun b o h1 h2 e => mg _ ⟨_, e⟩ _ (kb3 _ _ ⟨h1, h2⟩ (k01 _ _ e))
    gens := fun G => G3 (G2 G)
    os := o3.trans o2 }
end Nw

namespace Nw
set_option tactic.hygienic false

theorem orc1_sound {W : Wd} (L : L1 W) (fns : List (Str × Rel)) {k : Nat} (hk : 5 ≤ k) (h : ∀ f g, (f, g) ∈ fns → FnOK W k f g) : CfgSOK W (o1.orc fns).cfg k := Orc.sound (L.orc fns hk h)

/-- the body goes on where the codes stand -/
structure Goes (W : Wd) (s1 : Shared) (env : Env) (N : Names) (ρ : Rho) (cl Pl : Addr) (gl : Pos) (cs Ps : Addr) (gs : Pos) (s' : Shared) (hB2 : Heap) (F2 : FM) (s2 : Shared) (F' : FM) : Prop where
  sj : SJ { W with hB := hB2 } F2 s2 F' s' env N ρ
  heap : s2.heap = hB2
  inl : CodeIn cl Pl gl hB2
  ins : CodeIn cs Ps gs hB2
  old : ∀ b o, b ≠ Pl → b ≠ Ps → s1.heap.get? b = some o → hB2.get? b = some o
  gens : AllBare s1.gens → AllBare s2.gens
  os : s2.os = s1.os

theorem strs_join {u v : Nat} {ws : List PW} (hl : (ws.map catB).flatten.length ≤ 100) : joinPV (.str "") [.list (ws.map fun w => PV.str (E u v (catB w)))] = some (.str (E u v (ws.map catB).flatten)) := by
  unfold joinPV; dsimp only
  rw [strsOf_map]; simp only [Option.bind_some]
  rw [if_pos, ← E_join, List.map_map]
  · rfl
  · rw [List.map_map, show (Str.ofString "").length = 0 by decide +kernel]
    have : ∀ ws : List PW, (ws.map ((fun x : Str => x.length) ∘ fun w => E u v (catB w))).sum = (ws.map catB).flatten.length := by
      intro ws
      induction ws with
      | nil => rfl
      | cons w r ih =>
        rw [List.map_cons, List.sum_cons, ih, List.map_cons, List.flatten_cons, List.length_append]
        show (E u v (catB w)).length + _ = _
        rw [E_len]
    rw [this]; lia

set_option maxHeartbeats 8000000 in
theorem mid {W : Wd} {K : Frag} {A : Around} {F0 F : FM} {s1 s : Shared} {env : Env} {ρ : Rho} {cl Pl cs Ps : Addr} {gl gs : Pos} {h q : Int} {u v : Nat} {way : List Bool} {ws : List PW} (L : L1 W) (T : Tabs W K s1 cl Pl gl cs Ps gs) (hu : u < 0x110000) (hv : v < 0x110000)
    (hL2 : ∀ hB2, (∀ b o, b ≠ Pl → b ≠ Ps → s1.heap.get? b = some o → hB2.get? b = some o) → L1 { W with hB := hB2 })
    (hA : Amb A 11) (sj : SJ W F0 s1 F s env n17.1 ρ) (hc : env.cells = []) (hF0 : ∀ b o, F0 b = some o → b ≠ Pl ∧ b ≠ Ps) (hp : ρ "pile" = some (.acc h (ws.map (pairW u v)))) (P : Pst u v way ws h q ρ)
    (G : GoodW way ws) (hw10 : way.length ≤ 10) (hh : 0 ≤ h ∧ h < 3) (st : Stmt) (hst : b17.1[4]? = some st) :
    wpAny W.M A (PySem.exec st env) (fun fl s' => fl = .next ∧ ∃ hB2 F2 s2 F', Goes W s1 env n17.1 ρ cl Pl gl cs Ps gs s' hB2 F2 s2 F') NoE s := by
  have hfl : (ws.map catB).flatten.length ≤ 10 := by rw [G.len]; exact hw10
  have hwl : ws.length ≤ 10 := Nat.le_trans (ws_len G.ne) hfl
  have hsm := small_fs (u := u) (v := v) G.ne (by lia)
  have hjn := join_fs (u := u) (v := v) (ws := ws) (by lia)
  have hho : headOk h = true := by unfold headOk; simp; lia
  have hA5 : Amb A 5 := hA.le (by decide)
  have hp' := hp
  rw [pairs_fs] at hp'
  have hlw : (ws.map (pairW u v)).length = ws.length := List.length_map _
  unfold b17 at hst
  cases hst
  refine wpAny_If (wpAny_isTrue_Compare1 ?_ rfl)
  rw [arm_eval_List]
  refine wpAny_bind (wpAny_standAt (wpAny_bind ?_))
  refine wpAny_items_cons ?_ rfl
  -- the count
  have cok := (orc1_sound L [] (Nat.le_refl 5) (fun _ _ h => by cases h)).base
  refine ((e_smeth (n := 19) rfl (slot_acc hp rfl) evs_nil (p := .int ((ws.map (pairW u v)).length : Nat)) rfl).val ⟨_, A, _, L.ok, cok, hA5⟩ F s sj.si.fi).use fun v1 F1 s1' gr1 r1 => ?_
  have sj1 := sj.step gr1
  -- len and text
  refine wpAny_items_cons ?_ rfl
  refine wpAny_mono (two_first (Q := fun v2 v3 s3 => ∃ t u', v2 = .int (h + sumLen (fsW u v ws)) t ∧ v3 = .str (textOf (fsW u v ws)) u' ∧ Moved W s1 env n17.1 ρ cl Pl gl cs Ps gs F1 s1' s3) L.ok T L.glen L.gstr (hA.le (by decide)) sj1 hc hF0 hp' rfl (by rfl) (by rfl) hsm hho hjn fun t u' s3 M => ⟨t, u', rfl, rfl, M⟩) (fun v2 s2 h2 => ?_) fun _ _ z => z
  refine wpAny_items_cons ?_ rfl
  refine wpAny_mono (h2 _ _ _) (fun v3 s3 h3 => ?_) fun _ _ z => z
  obtain ⟨t, u', rfl, rfl, M⟩ := h3
  refine wpAny_items_nil ?_
  have L2 := hL2 _ M.old
  have hsum : h + sumLen (fsW u v ws) = h + (way.length : Nat) := by rw [sum_fs, G.len]
  have htx := text_fs (u := u) (v := v) (ws := ws)
  have rl : RepL W.qc F1 [.int ((ws.length : Nat) : Int), .int (h + (way.length : Nat)), .str (E u v (ws.map catB).flatten)] [v1, .int (h + sumLen (fsW u v ws)) t, .str (textOf (fsW u v ws)) u'] := by
    rw [hlw] at r1
    exact ⟨_, _, rfl, r1, _, _, rfl, ⟨t, by rw [hsum]⟩, _, _, rfl, ⟨u', by rw [htx]⟩, rfl⟩
  refine (ev_newList (prog := W.prog) (w := W.w) (A := A) rl M.sj.si.fi.sits (sz rfl rfl)).use fun lv F4 s4 g4 r4 => ?_
  have sj4 := M.sj.step g4
  have cok2 := (orc1_sound L2 [("len", ofF lenPV)] (k := 5) (Nat.le_refl 5) (fun f g hm => by
    rw [List.mem_singleton] at hm
    cases hm
    exact (L2.prims 5).1)).base
  have w1 := P.words
  have y1 := P.way
  have h1 := P.head
  have g1 : ρ "len" = none := P.glob _ (by simp)
  refine (ev.val (n := 20) (p := .list [.int ((ws.length : Nat) : Int), .int (h + (way.length : Nat)), .str (E u v (ws.map catB).flatten)]) ?_ ⟨_, A, _, L2.ok, cok2, hA5⟩ F4 s4 sj4.si.fi).use fun rv F5 s5 g5 r5 => ?_
  · have hlen : lenPV [.list (ws.map (pairW u v))] = some (.int ((ws.length : Nat) : Int)) := by
      unfold lenPV; dsimp only
      rw [if_pos (by rw [hlw]; lia), hlw]
    refine e_list (evs_cons (e_callg1 (g := ofF lenPV) (fgl rfl g1) (slot_imm w1) (e_name w1 rfl) (fun _ => rfl) hlen) (evs_cons (e_bin (e_name h1 rfl) (e_lenE (fgl rfl g1) (slot_imm y1) (e_name y1 rfl) (fun _ => rfl) (by lia)) rfl) (evs_cons (e_meth rfl rfl e_str (evs_cons (e_comp (items := ws.map (pairW u v)) rfl (e_name w1 rfl) ?_ (comp1_map (g := fun w => PV.str (E u v (catB w))) fun w hw => ⟨_, rfl, e_meth rfl rfl e_str (evs_cons (e_name rfl rfl) evs_nil) (join_tup (by have := (G.ne w hw).2; lia))⟩) ?_) evs_nil) (strs_join (by lia))) evs_nil))) (sz rfl rfl)
    · unfold itemsPV; dsimp only; rw [if_pos (by rw [hlw, sizeLine_eq]; lia)]
    · rw [List.length_map, sizeLine_eq]; lia
  have wfl : wf 9 (.list [.int ((ws.length : Nat) : Int), .int (h + (way.length : Nat)), .str (E u v (ws.map catB).flatten)]) = true := by
    simp [wf, wfs, E_ok hu hv]
  have hcmp : cmpPV .NotEq (.list [.int ((ws.length : Nat) : Int), .int (h + (way.length : Nat)), .str (E u v (ws.map catB).flatten)]) (.list [.int ((ws.length : Nat) : Int), .int (h + (way.length : Nat)), .str (E u v (ws.map catB).flatten)]) = some false := by
    show (if _ then _ else _) = _
    rw [if_pos (eqOk_wf wfl wfl (by decide) (by decide)), eqv_self wfl]; rfl
  refine (cmpPV_sound (prog := W.prog) (w := W.w) (A := A) hcmp (by have := hA.units; lia) g5.sits (r4.mono _ g5.le) r5).use fun bv F6 s6 g6 r6 => ?_
  cases r6
  refine wpAny_truthy_bool ?_
  rw [if_neg (by decide), arm_execs_nil]
  refine wpAny_pure ⟨rfl, _, _, _, F6, (sj4.step g5).step g6, rfl, M.inl, M.ins, M.old, fun G0 => M.gens (gr1.gens (sj.si.grow.gens G0)), M.os.trans (gr1.os.trans sj.si.grow.os)⟩
end Nw

namespace Nw.KF
noncomputable section
noncomputable abbrev P : Program := PySem.Challenge.pw_xi0009_01
noncomputable def S (i : Nat) : Stmt := P.main.body.getD i (.Pass default)
noncomputable def M (i j : Nat) : Stmt := match S i with | .ClassDef _ _ _ b _ _ _ _ _ _ _ => b.getD j (.Pass default) | s => s
noncomputable abbrev t (s : String) (k : Nat) : Value := .str (Str.ofString s) k
noncomputable abbrev z (i : Int) : Value := .int i 0
noncomputable abbrev r (a : Nat) : Value := .ref a
noncomputable abbrev N : Value := .none
noncomputable abbrev e (p : Params) (s : String) (k : Nat) (v : Value) : DictEntry := ⟨PyData.keyHash p (Str.ofString s), t s k, v⟩
noncomputable def fo (s : Stmt) (q : String) (cl : List (String × Nat)) (df mo co ct : Value) : Obj := match s with
  | .FunctionDef n a b _ _ _ sc _ _ _ => { cls := .type "function", data := .func { name := n, qualname := Str.ofString q, params := a, body := .stmts b, scope := sc, globals := 3, closure := cl.map fun x => (Str.ofString x.1, x.2), defaults := df, kwdefaults := .none, pyModule := mo, code := co, closureTuple := ct } }
  | _ => default
noncomputable def K (P : Params) : Frag := [
(2, { cls := N, data := .dict #[] }),
(3, { cls := (.type "dict"), data := .dict #[e P "__name__" 165 (t "law_xi0009_01" 422), e P "__doc__" 166 N, e P "__package__" 167 N, e P "__loader__" 168 (.builtin "__main__.__loader__#opaque"), e P "__spec__" 169 N, e P "__annotations__" 170 (r 6), e P "__builtins__" 171 (r 4), e P "__file__" 173 (t "/claim/cut.py" 172), e P "__cached__" 174 N, e P "_wall" 193 (r 21), e P "_DIV_LIMIT" 197 (.int 4000 196), e P "_div2n1n" 214 (r 28), e P "_div3n2n" 228 (r 35), e P "EMPTYSTRING" 232 (t "" 231), e P "_Accumulator" 328 (r 115), e P "QName" 421 (r 193), e P "_law_draws" 429 (r 202), e P "_law_words" 435 (r 207), e P "_law_heights" 441 (r 212), e P "_law_is_straight" 447 (r 217), e P "_law_points_under_the_rope" 453 (r 222), e P "_law_named_in_order" 467 (r 229), e P "law" 473 (r 234)] 23 }),
(15, { cls := (.type "tuple"), data := .seq #[] }),
(17, { cls := (.type "tuple"), data := .seq #[(t "k" 190)] }),
(18, { cls := (.type "tuple"), data := .seq #[] }),
(20, { cls := (.type "code"), data := .fields #[(t "_wall" 187), (t "_wall" 188), (t "/claim/cut.py" 189), (z 1), (z 1), (z 0), (z 0), (z 3), (r 15), (.bool true), (z 181), (r 16), N, (r 17), (r 18), (r 19), (z 191), (z 1), (t "/claim/cut.py" 192)] }),
(21, fo (S 0) "_wall" [] N (t "__main__" 164) (r 20) N),
(22, { cls := (.type "tuple"), data := .seq #[] }),
(24, { cls := (.type "tuple"), data := .seq #[(t "a" 201), (t "b" 202), (t "n" 203), (t "pad" 204), (t "half_n" 205), (t "mask" 206), (t "b1" 207), (t "b2" 208), (t "q1" 209), (t "r" 210), (t "q2" 211)] }),
(25, { cls := (.type "tuple"), data := .seq #[] }),
(27, { cls := (.type "code"), data := .fields #[(t "_div2n1n" 198), (t "_div2n1n" 199), (t "/claim/cut.py" 200), (z 6), (z 3), (z 0), (z 0), (z 3), (r 22), (.bool true), (z 181), (r 23), N, (r 24), (r 25), (r 26), (z 212), (z 6), (t "/claim/cut.py" 213)] }),
(28, fo (S 3) "_div2n1n" [] N (t "cpy313._pylong" 194) (r 27) N),
(29, { cls := (.type "tuple"), data := .seq #[] }),
(31, { cls := (.type "tuple"), data := .seq #[(t "a12" 218), (t "a3" 219), (t "b" 220), (t "b1" 221), (t "b2" 222), (t "n" 223), (t "q" 224), (t "r" 225)] }),
(32, { cls := (.type "tuple"), data := .seq #[] }),
(34, { cls := (.type "code"), data := .fields #[(t "_div3n2n" 215), (t "_div3n2n" 216), (t "/claim/cut.py" 217), (z 22), (z 6), (z 0), (z 0), (z 3), (r 29), (.bool true), (z 181), (r 30), N, (r 31), (r 32), (r 33), (z 226), (z 22), (t "/claim/cut.py" 227)] }),
(35, fo (S 4) "_div3n2n" [] N (t "cpy313._pylong" 194) (r 34) N),
(36, { cls := (.type "tuple"), data := .seq #[(.type "list")] }),
(39, { cls := (.type "cell"), data := .cell (some (r 115)) }),
(44, { cls := (.type "tuple"), data := .seq #[(.int 0 245)] }),
(45, { cls := (.type "tuple"), data := .seq #[(r 39)] }),
(46, { cls := (.type "tuple"), data := .seq #[(t "__class__" 249)] }),
(48, { cls := (.type "tuple"), data := .seq #[(t "self" 250), (t "initial_size" 251)] }),
(49, { cls := (.type "tuple"), data := .seq #[] }),
(51, { cls := (.type "code"), data := .fields #[(t "__init__" 246), (t "_Accumulator.__init__" 247), (t "/claim/cut.py" 248), (z 36), (z 2), (z 0), (z 0), (z 3), (r 46), (.bool true), (z 181), (r 47), N, (r 48), (r 49), (r 50), (z 252), (z 36), (t "/claim/cut.py" 253)] }),
(52, fo (M 7 0) "_Accumulator.__init__" [("__class__", 39)] (r 44) (t "cpy313.email.header" 229) (r 51) (r 45)),
(53, { cls := (.type "tuple"), data := .seq #[] }),
(55, { cls := (.type "tuple"), data := .seq #[(t "self" 258), (t "fws" 259), (t "string" 260)] }),
(56, { cls := (.type "tuple"), data := .seq #[] }),
(58, { cls := (.type "code"), data := .fields #[(t "push" 255), (t "_Accumulator.push" 256), (t "/claim/cut.py" 257), (z 40), (z 3), (z 0), (z 0), (z 3), (r 53), (.bool true), (z 181), (r 54), N, (r 55), (r 56), (r 57), (z 261), (z 40), (t "/claim/cut.py" 262)] }),
(59, fo (M 7 1) "_Accumulator.push" [] N (t "cpy313.email.header" 229) (r 58) N),
(60, { cls := (.type "tuple"), data := .seq #[(.int 0 264)] }),
(61, { cls := (.type "tuple"), data := .seq #[] }),
(63, { cls := (.type "tuple"), data := .seq #[(t "self" 268), (t "i" 269), (t "popped" 270)] }),
(64, { cls := (.type "tuple"), data := .seq #[] }),
(66, { cls := (.type "code"), data := .fields #[(t "pop_from" 265), (t "_Accumulator.pop_from" 266), (t "/claim/cut.py" 267), (z 43), (z 2), (z 0), (z 0), (z 3), (r 61), (.bool true), (z 181), (r 62), N, (r 63), (r 64), (r 65), (z 271), (z 43), (t "/claim/cut.py" 272)] }),
(67, fo (M 7 2) "_Accumulator.pop_from" [] (r 60) (t "cpy313.email.header" 229) (r 66) N),
(68, { cls := (.type "tuple"), data := .seq #[(r 39)] }),
(69, { cls := (.type "tuple"), data := .seq #[(t "__class__" 277)] }),
(71, { cls := (.type "tuple"), data := .seq #[(t "self" 278)] }),
(72, { cls := (.type "tuple"), data := .seq #[] }),
(74, { cls := (.type "code"), data := .fields #[(t "pop" 274), (t "_Accumulator.pop" 275), (t "/claim/cut.py" 276), (z 48), (z 1), (z 0), (z 0), (z 3), (r 69), (.bool true), (z 181), (r 70), N, (r 71), (r 72), (r 73), (z 279), (z 48), (t "/claim/cut.py" 280)] }),
(75, fo (M 7 3) "_Accumulator.pop" [("__class__", 39)] N (t "cpy313.email.header" 229) (r 74) (r 68)),
(76, { cls := (.type "tuple"), data := .seq #[] }),
(78, { cls := (.type "tuple"), data := .seq #[(t "self" 285)] }),
(79, { cls := (.type "tuple"), data := .seq #[] }),
(81, { cls := (.type "code"), data := .fields #[(t "__len__" 282), (t "_Accumulator.__len__" 283), (t "/claim/cut.py" 284), (z 53), (z 1), (z 0), (z 0), (z 3), (r 76), (.bool true), (z 181), (r 77), N, (r 78), (r 79), (r 80), (z 286), (z 53), (t "/claim/cut.py" 287)] }),
(82, fo (M 7 4) "_Accumulator.__len__" [] N (t "cpy313.email.header" 229) (r 81) N),
(83, { cls := (.type "tuple"), data := .seq #[] }),
(85, { cls := (.type "tuple"), data := .seq #[(t "self" 292)] }),
(86, { cls := (.type "tuple"), data := .seq #[] }),
(88, { cls := (.type "code"), data := .fields #[(t "__str__" 289), (t "_Accumulator.__str__" 290), (t "/claim/cut.py" 291), (z 56), (z 1), (z 0), (z 0), (z 3), (r 83), (.bool true), (z 181), (r 84), N, (r 85), (r 86), (r 87), (z 293), (z 56), (t "/claim/cut.py" 294)] }),
(89, fo (M 7 5) "_Accumulator.__str__" [] N (t "cpy313.email.header" 229) (r 88) N),
(90, { cls := (.type "tuple"), data := .seq #[N] }),
(91, { cls := (.type "tuple"), data := .seq #[] }),
(93, { cls := (.type "tuple"), data := .seq #[(t "self" 299), (t "startval" 300)] }),
(94, { cls := (.type "tuple"), data := .seq #[] }),
(96, { cls := (.type "code"), data := .fields #[(t "reset" 296), (t "_Accumulator.reset" 297), (t "/claim/cut.py" 298), (z 59), (z 2), (z 0), (z 0), (z 3), (r 91), (.bool true), (z 181), (r 92), N, (r 93), (r 94), (r 95), (z 301), (z 59), (t "/claim/cut.py" 302)] }),
(97, fo (M 7 6) "_Accumulator.reset" [] (r 90) (t "cpy313.email.header" 229) (r 96) N),
(98, { cls := (.type "tuple"), data := .seq #[] }),
(100, { cls := (.type "tuple"), data := .seq #[(t "self" 307)] }),
(101, { cls := (.type "tuple"), data := .seq #[] }),
(103, { cls := (.type "code"), data := .fields #[(t "is_onlyws" 304), (t "_Accumulator.is_onlyws" 305), (t "/claim/cut.py" 306), (z 62), (z 1), (z 0), (z 0), (z 3), (r 98), (.bool true), (z 181), (r 99), N, (r 100), (r 101), (r 102), (z 308), (z 62), (t "/claim/cut.py" 309)] }),
(104, fo (M 7 7) "_Accumulator.is_onlyws" [] N (t "cpy313.email.header" 229) (r 103) N),
(105, { cls := (.type "tuple"), data := .seq #[(r 39)] }),
(106, { cls := (.type "tuple"), data := .seq #[(t "__class__" 314)] }),
(108, { cls := (.type "tuple"), data := .seq #[(t "self" 315)] }),
(109, { cls := (.type "tuple"), data := .seq #[] }),
(111, { cls := (.type "code"), data := .fields #[(t "part_count" 311), (t "_Accumulator.part_count" 312), (t "/claim/cut.py" 313), (z 65), (z 1), (z 0), (z 0), (z 3), (r 106), (.bool true), (z 181), (r 107), N, (r 108), (r 109), (r 110), (z 316), (z 65), (t "/claim/cut.py" 317)] }),
(112, fo (M 7 8) "_Accumulator.part_count" [("__class__", 39)] N (t "cpy313.email.header" 229) (r 111) (r 105)),
(113, { cls := (.type "tuple"), data := .seq #[(t "_initial_size" 319)] }),
(114, { cls := (.type "dict"), data := .dict #[e P "__module__" 240 (t "cpy313.email.header" 229), e P "__firstlineno__" 244 (.int 34 243), e P "__init__" 254 (r 52), e P "push" 263 (r 59), e P "pop_from" 273 (r 67), e P "pop" 281 (r 75), e P "__len__" 288 (r 82), e P "__str__" 295 (r 89), e P "reset" 303 (r 97), e P "is_onlyws" 310 (r 104), e P "part_count" 318 (r 112), e P "__static_attributes__" 320 (r 113), e P "__dict__" 323 (r 116), e P "__weakref__" 325 (r 117), e P "__doc__" 326 N] 5 }),
(115, { cls := (.type "type"), data := .cls { name := "_Accumulator", bases := [(.type "list")], mro := [(r 115), (.type "list"), (.type "object")], ns := 114, qualname := "_Accumulator" }, slots := #[some (r 36), none, some (t "_Accumulator" 233), some (t "_Accumulator" 241), some (.builtin "list.__new__"), some (.bool true)] }),
(116, { cls := (.type "getset_descriptor"), data := .fields #[(t "__dict__" 322), (r 115), (.builtin "function.__dict__"), (.builtin "function.__dict__#set")] }),
(117, { cls := (.type "getset_descriptor"), data := .fields #[(t "__weakref__" 324), (r 115), (.builtin "ExceptionGroup.__weakref__"), N] }),
(127, { cls := (.type "tuple"), data := .seq #[N] }),
(128, { cls := (.type "tuple"), data := .seq #[] }),
(130, { cls := (.type "tuple"), data := .seq #[(t "self" 346), (t "text_or_uri" 347), (t "tag" 348)] }),
(131, { cls := (.type "tuple"), data := .seq #[] }),
(133, { cls := (.type "code"), data := .fields #[(t "__init__" 343), (t "QName.__init__" 344), (t "/claim/cut.py" 345), (z 70), (z 3), (z 0), (z 0), (z 3), (r 128), (.bool true), (z 181), (r 129), N, (r 130), (r 131), (r 132), (z 349), (z 70), (t "/claim/cut.py" 350)] }),
(134, fo (M 9 0) "QName.__init__" [] (r 127) (t "cpy313.xml.etree.ElementTree" 329) (r 133) N),
(135, { cls := (.type "tuple"), data := .seq #[] }),
(137, { cls := (.type "tuple"), data := .seq #[(t "self" 355)] }),
(138, { cls := (.type "tuple"), data := .seq #[] }),
(140, { cls := (.type "code"), data := .fields #[(t "__str__" 352), (t "QName.__str__" 353), (t "/claim/cut.py" 354), (z 75), (z 1), (z 0), (z 0), (z 3), (r 135), (.bool true), (z 181), (r 136), N, (r 137), (r 138), (r 139), (z 356), (z 75), (t "/claim/cut.py" 357)] }),
(141, fo (M 9 1) "QName.__str__" [] N (t "cpy313.xml.etree.ElementTree" 329) (r 140) N),
(142, { cls := (.type "tuple"), data := .seq #[] }),
(144, { cls := (.type "tuple"), data := .seq #[(t "self" 362)] }),
(145, { cls := (.type "tuple"), data := .seq #[] }),
(147, { cls := (.type "code"), data := .fields #[(t "__repr__" 359), (t "QName.__repr__" 360), (t "/claim/cut.py" 361), (z 78), (z 1), (z 0), (z 0), (z 3), (r 142), (.bool true), (z 181), (r 143), N, (r 144), (r 145), (r 146), (z 363), (z 78), (t "/claim/cut.py" 364)] }),
(148, fo (M 9 2) "QName.__repr__" [] N (t "cpy313.xml.etree.ElementTree" 329) (r 147) N),
(149, { cls := (.type "tuple"), data := .seq #[] }),
(151, { cls := (.type "tuple"), data := .seq #[(t "self" 369)] }),
(152, { cls := (.type "tuple"), data := .seq #[] }),
(154, { cls := (.type "code"), data := .fields #[(t "__hash__" 366), (t "QName.__hash__" 367), (t "/claim/cut.py" 368), (z 81), (z 1), (z 0), (z 0), (z 3), (r 149), (.bool true), (z 181), (r 150), N, (r 151), (r 152), (r 153), (z 370), (z 81), (t "/claim/cut.py" 371)] }),
(155, fo (M 9 3) "QName.__hash__" [] N (t "cpy313.xml.etree.ElementTree" 329) (r 154) N),
(156, { cls := (.type "tuple"), data := .seq #[] }),
(158, { cls := (.type "tuple"), data := .seq #[(t "self" 376), (t "other" 377)] }),
(159, { cls := (.type "tuple"), data := .seq #[] }),
(161, { cls := (.type "code"), data := .fields #[(t "__le__" 373), (t "QName.__le__" 374), (t "/claim/cut.py" 375), (z 84), (z 2), (z 0), (z 0), (z 3), (r 156), (.bool true), (z 181), (r 157), N, (r 158), (r 159), (r 160), (z 378), (z 84), (t "/claim/cut.py" 379)] }),
(162, fo (M 9 4) "QName.__le__" [] N (t "cpy313.xml.etree.ElementTree" 329) (r 161) N),
(163, { cls := (.type "tuple"), data := .seq #[] }),
(165, { cls := (.type "tuple"), data := .seq #[(t "self" 384), (t "other" 385)] }),
(166, { cls := (.type "tuple"), data := .seq #[] }),
(168, { cls := (.type "code"), data := .fields #[(t "__lt__" 381), (t "QName.__lt__" 382), (t "/claim/cut.py" 383), (z 89), (z 2), (z 0), (z 0), (z 3), (r 163), (.bool true), (z 181), (r 164), N, (r 165), (r 166), (r 167), (z 386), (z 89), (t "/claim/cut.py" 387)] }),
(169, fo (M 9 5) "QName.__lt__" [] N (t "cpy313.xml.etree.ElementTree" 329) (r 168) N),
(170, { cls := (.type "tuple"), data := .seq #[] }),
(172, { cls := (.type "tuple"), data := .seq #[(t "self" 392), (t "other" 393)] }),
(173, { cls := (.type "tuple"), data := .seq #[] }),
(175, { cls := (.type "code"), data := .fields #[(t "__ge__" 389), (t "QName.__ge__" 390), (t "/claim/cut.py" 391), (z 94), (z 2), (z 0), (z 0), (z 3), (r 170), (.bool true), (z 181), (r 171), N, (r 172), (r 173), (r 174), (z 394), (z 94), (t "/claim/cut.py" 395)] }),
(176, fo (M 9 6) "QName.__ge__" [] N (t "cpy313.xml.etree.ElementTree" 329) (r 175) N),
(177, { cls := (.type "tuple"), data := .seq #[] }),
(179, { cls := (.type "tuple"), data := .seq #[(t "self" 400), (t "other" 401)] }),
(180, { cls := (.type "tuple"), data := .seq #[] }),
(182, { cls := (.type "code"), data := .fields #[(t "__gt__" 397), (t "QName.__gt__" 398), (t "/claim/cut.py" 399), (z 99), (z 2), (z 0), (z 0), (z 3), (r 177), (.bool true), (z 181), (r 178), N, (r 179), (r 180), (r 181), (z 402), (z 99), (t "/claim/cut.py" 403)] }),
(183, fo (M 9 7) "QName.__gt__" [] N (t "cpy313.xml.etree.ElementTree" 329) (r 182) N),
(184, { cls := (.type "tuple"), data := .seq #[] }),
(186, { cls := (.type "tuple"), data := .seq #[(t "self" 408), (t "other" 409)] }),
(187, { cls := (.type "tuple"), data := .seq #[] }),
(189, { cls := (.type "code"), data := .fields #[(t "__eq__" 405), (t "QName.__eq__" 406), (t "/claim/cut.py" 407), (z 104), (z 2), (z 0), (z 0), (z 3), (r 184), (.bool true), (z 181), (r 185), N, (r 186), (r 187), (r 188), (z 410), (z 104), (t "/claim/cut.py" 411)] }),
(190, fo (M 9 8) "QName.__eq__" [] N (t "cpy313.xml.etree.ElementTree" 329) (r 189) N),
(191, { cls := (.type "tuple"), data := .seq #[(t "text" 413)] }),
(192, { cls := (.type "dict"), data := .dict #[e P "__module__" 338 (t "cpy313.xml.etree.ElementTree" 329), e P "__firstlineno__" 342 (.int 68 341), e P "__init__" 351 (r 134), e P "__str__" 358 (r 141), e P "__repr__" 365 (r 148), e P "__hash__" 372 (r 155), e P "__le__" 380 (r 162), e P "__lt__" 388 (r 169), e P "__ge__" 396 (r 176), e P "__gt__" 404 (r 183), e P "__eq__" 412 (r 190), e P "__static_attributes__" 414 (r 191), e P "__dict__" 416 (r 194), e P "__weakref__" 418 (r 195), e P "__doc__" 419 N] 4 }),
(193, { cls := (.type "type"), data := .cls { name := "QName", bases := [(.type "object")], mro := [(r 193), (.type "object")], ns := 192, qualname := "QName" }, slots := #[none, none, some (t "QName" 331), some (t "QName" 339), some (.builtin "object.__new__"), some (.bool true)] }),
(194, { cls := (.type "getset_descriptor"), data := .fields #[(t "__dict__" 415), (r 193), (.builtin "function.__dict__"), (.builtin "function.__dict__#set")] }),
(195, { cls := (.type "getset_descriptor"), data := .fields #[(t "__weakref__" 417), (r 193), (.builtin "ExceptionGroup.__weakref__"), N] }),
(198, { cls := (.type "tuple"), data := .seq #[] }),
(201, { cls := (.type "code"), data := .fields #[(t "_law_draws" 424), (t "_law_draws" 425), (t "/claim/cut.py" 426), (z 109), (z 1), (z 0), (z 0), (z 3), (r 198), (.bool true), (z 181), (r 199), N, N, N, (r 200), (z 427), (z 109), (t "/claim/cut.py" 428)] }),
(202, fo (S 11) "_law_draws" [] N (t "law_xi0009_01" 422) (r 201) N),
(203, { cls := (.type "tuple"), data := .seq #[] }),
(206, { cls := (.type "code"), data := .fields #[(t "_law_words" 430), (t "_law_words" 431), (t "/claim/cut.py" 432), (z 117), (z 1), (z 0), (z 0), (z 3), (r 203), (.bool true), (z 181), (r 204), N, N, N, (r 205), (z 433), (z 117), (t "/claim/cut.py" 434)] }),
(207, fo (S 12) "_law_words" [] N (t "law_xi0009_01" 422) (r 206) N),
(208, { cls := (.type "tuple"), data := .seq #[] }),
(211, { cls := (.type "code"), data := .fields #[(t "_law_heights" 436), (t "_law_heights" 437), (t "/claim/cut.py" 438), (z 127), (z 3), (z 0), (z 0), (z 3), (r 208), (.bool true), (z 181), (r 209), N, N, N, (r 210), (z 439), (z 127), (t "/claim/cut.py" 440)] }),
(212, fo (S 13) "_law_heights" [] N (t "law_xi0009_01" 422) (r 211) N),
(213, { cls := (.type "tuple"), data := .seq #[] }),
(216, { cls := (.type "code"), data := .fields #[(t "_law_is_straight" 442), (t "_law_is_straight" 443), (t "/claim/cut.py" 444), (z 139), (z 3), (z 0), (z 0), (z 3), (r 213), (.bool true), (z 181), (r 214), N, N, N, (r 215), (z 445), (z 139), (t "/claim/cut.py" 446)] }),
(217, fo (S 14) "_law_is_straight" [] N (t "law_xi0009_01" 422) (r 216) N),
(218, { cls := (.type "tuple"), data := .seq #[] }),
(221, { cls := (.type "code"), data := .fields #[(t "_law_points_under_the_rope" 448), (t "_law_points_under_the_rope" 449), (t "/claim/cut.py" 450), (z 142), (z 2), (z 0), (z 0), (z 3), (r 218), (.bool true), (z 181), (r 219), N, N, N, (r 220), (z 451), (z 142), (t "/claim/cut.py" 452)] }),
(222, fo (S 15) "_law_points_under_the_rope" [] N (t "law_xi0009_01" 422) (r 221) N),
(223, { cls := (.type "tuple"), data := .seq #[] }),
(225, { cls := (.type "tuple"), data := .seq #[(t "one" 457), (t "other" 458), (t "signs" 459), (t "ahead" 460), (t "behind" 461), (t "due" 462), (t "name" 463), (t "twin" 464)] }),
(226, { cls := (.type "tuple"), data := .seq #[] }),
(228, { cls := (.type "code"), data := .fields #[(t "_law_named_in_order" 454), (t "_law_named_in_order" 455), (t "/claim/cut.py" 456), (z 152), (z 3), (z 0), (z 0), (z 3), (r 223), (.bool true), (z 181), (r 224), N, (r 225), (r 226), (r 227), (z 465), (z 152), (t "/claim/cut.py" 466)] }),
(229, fo (S 16) "_law_named_in_order" [] N (t "law_xi0009_01" 422) (r 228) N),
(230, { cls := (.type "tuple"), data := .seq #[] }),
(233, { cls := (.type "code"), data := .fields #[(t "law" 468), (t "law" 469), (t "/claim/cut.py" 470), (z 161), (z 1), (z 0), (z 0), (z 3), (r 230), (.bool true), (z 181), (r 231), N, N, N, (r 232), (z 471), (z 161), (t "/claim/cut.py" 472)] }),
(234, fo (S 17) "law" [] N (t "law_xi0009_01" 422) (r 233) N)]
noncomputable def as : List Addr := [2, 3, 15, 17, 18, 20, 21, 22, 24, 25, 27, 28, 29, 31, 32, 34, 35, 36, 39, 44, 45, 46, 48, 49, 51, 52, 53, 55, 56, 58, 59, 60, 61, 63, 64, 66, 67, 68, 69, 71, 72, 74, 75, 76, 78, 79, 81, 82, 83, 85, 86, 88, 89, 90, 91, 93, 94, 96, 97, 98, 100, 101, 103, 104, 105, 106, 108, 109, 111, 112, 113, 114, 115, 116, 117, 127, 128, 130, 131, 133, 134, 135, 137, 138, 140, 141, 142, 144, 145, 147, 148, 149, 151, 152, 154, 155, 156, 158, 159, 161, 162, 163, 165, 166, 168, 169, 170, 172, 173, 175, 176, 177, 179, 180, 182, 183, 184, 186, 187, 189, 190, 191, 192, 193, 194, 195, 198, 201, 202, 203, 206, 207, 208, 211, 212, 213, 216, 217, 218, 221, 222, 223, 225, 226, 228, 229, 230, 233, 234]
noncomputable def keep : Stmt → Bool
  | .FunctionDef .. => true
  | .ClassDef .. => true
  | .Assign [.Name x _] _ _ => x != "__name__"
  | _ => false
noncomputable def V : Program := { P with main := { P.main with body := P.main.body.filter keep } }
theorem as_eq : ∀ p, as = (K p).map (·.1) := fun _ => rfl
noncomputable abbrev H : Hook := kmHook K as as_eq [77, 84]
set_option maxHeartbeats 8000000 in
theorem left : LeftO PySem.Challenge.rw_xi0009_01.row.toRowW.prog V ["_Accumulator"] (fun s => xlAt V [] s && recOk (RowW.records PySem.Challenge.rw_xi0009_01.row.toRowW) s) H.obs H.val 2790 := by
  intro w
  kernel_rfl
end
end Nw.KF

namespace Nw
set_option tactic.hygienic false

section
variable {α : Type} {l : List α}
theorem lenS {n : Nat} (h : l.length = n + 1) {P : Prop} (k : ∀ a t, l = a :: t → t.length = n → P) : P := by
  cases l with
  | nil => cases h
  | cons a t => exact k a t rfl (Nat.succ.inj h)
theorem len1 (h : l.length = 1) : ∃ a, l = [a] := lenS h fun a t e h => ⟨a, by rw [e, List.length_eq_zero_iff.mp h]⟩
end
section
variable {α : Type} {l : List α}
theorem len2 (h : l.length = 2) : ∃ a b, l = [a, b] := lenS h fun a t e h => let ⟨b, hb⟩ := len1 h; ⟨a, b, by rw [e, hb]⟩
theorem len3 (h : l.length = 3) : ∃ a b c, l = [a, b, c] := lenS h fun a t e h => let ⟨b, c, hb⟩ := len2 h; ⟨a, b, c, by rw [e, hb]⟩
theorem len4 (h : l.length = 4) : ∃ a b c d, l = [a, b, c, d] := lenS h fun a t e h => let ⟨b, c, d, hb⟩ := len3 h; ⟨a, b, c, d, by rw [e, hb]⟩
theorem len5 (h : l.length = 5) : ∃ a b c d x, l = [a, b, c, d, x] := lenS h fun a t e h => let ⟨b, c, d, x, hb⟩ := len4 h; ⟨a, b, c, d, x, by rw [e, hb]⟩
theorem len6 (h : l.length = 6) : ∃ a b c d x y, l = [a, b, c, d, x, y] := lenS h fun a t e h => let ⟨b, c, d, x, y, hb⟩ := len5 h; ⟨a, b, c, d, x, y, by rw [e, hb]⟩
end

noncomputable abbrev K1 (w : World) : Frag := KF.K w.params
noncomputable abbrev W1 (w : World) (mg mb : Str → Option Value) (hB : Heap) : Wd := ⟨PySem.Challenge.rw_xi0009_01.row.prog, w, hB, mg, mb, 193, 115⟩
/-- what stands before the law's call -/
structure Bs (w : World) (mg mb : Str → Option Value) (hB : Heap) : Prop where
  X : (K1 w).In hB
  g : hB.Ns mainGlobals mg
  b : hB.Ns builtinsNs mb
  nolimit : hB.NoLimit
  bi : ∀ x : Str, x ≠ "__name__" → mb x = bootBuiltins x
  bmain : ∃ bm ob, mg "__builtins__" = some (.ref bm) ∧ bm ≠ builtinsNs ∧ hB.get? bm = some ob ∧ ob.cls = .type "module" ∧ ob.dict = some builtinsNs ∧ ob.data = .plain

section
variable {w : World} {mg mb : Str → Option Value} {hB : Heap} (B : Bs w mg mb hB)
include B
theorem Bs.ok : WdOK (W1 w mg mb hB) := ⟨B.g, B.b, B.nolimit⟩
theorem Bs.blt {x : Str} {v : Value} (h1 : nsIn (K1 w) mainGlobals x = some none) (h2 : x ≠ "__name__") (h3 : bootBuiltins x = some v) : (W1 w mg mb hB).glob x v :=
  .inr ⟨mg_none_of B.X B.g h1, (B.bi x h2).trans h3⟩
theorem Bs.own {x : Str} {v : Value} (h1 : nsIn (K1 w) mainGlobals x = some (some v)) : (W1 w mg mb hB).mg x = some v := mg_of B.X B.g h1
theorem Bs.glen : (W1 w mg mb hB).glob "len" (.builtin "len") := B.blt (by kernel_rfl) (by decide) (by kernel_rfl)
theorem Bs.grange : (W1 w mg mb hB).glob "range" (.type "range") := B.blt (by kernel_rfl) (by decide) (by kernel_rfl)
theorem Bs.gmin : (W1 w mg mb hB).glob "min" (.builtin "min") := B.blt (by kernel_rfl) (by decide) (by kernel_rfl)
theorem Bs.gstr : (W1 w mg mb hB).glob "str" (.type "str") := B.blt (by kernel_rfl) (by decide) (by kernel_rfl)
theorem Bs.gsum : (W1 w mg mb hB).glob "sum" (.builtin "sum") := B.blt (by kernel_rfl) (by decide) (by kernel_rfl)
theorem Bs.gdivmod : (W1 w mg mb hB).glob "divmod" (.builtin "divmod") := B.blt (by kernel_rfl) (by decide) (by kernel_rfl)
theorem Bs.grev : (W1 w mg mb hB).glob "reversed" (.type "reversed") := B.blt (by kernel_rfl) (by decide) (by kernel_rfl)
theorem Bs.gsuper : (W1 w mg mb hB).glob "super" (.type "super") := B.blt (by kernel_rfl) (by decide) (by kernel_rfl)
theorem Bs.gisi : (W1 w mg mb hB).glob "isinstance" (.builtin "isinstance") := B.blt (by kernel_rfl) (by decide) (by kernel_rfl)
theorem Bs.gempty : (W1 w mg mb hB).glob "EMPTYSTRING" (.str "" 231) := .inl (B.own (by kernel_rfl))
theorem Bs.glim : (W1 w mg mb hB).glob "_DIV_LIMIT" (.int 4000 196) := .inl (B.own (by kernel_rfl))

theorem Bs.fnAt {name : Str} {params : List Str} {body : List Stmt} {N : Names} {a c : Addr} {o oc : Obj} {fd : FuncData} {vs : Array Value} {t : Tok} (h0 : nsIn (K1 w) mainGlobals name = some (some (.ref a))) (h1 : (K1 w).lookup a = some o) (h2 : o.data = .func fd) (h3 : fd.body = .stmts body) (h4 : fd.scope.names = N)
    (h5 : fd.scope.kind = .function) (h6 : fd.scope.isCoroutine = false) (h7 : fd.scope.isGenerator = false) (h8 : fd.closure = []) (h9 : fd.globals = mainGlobals) (h10 : fd.builtins = builtinsNs) (hc : fd.code = .ref c) (hc1 : (K1 w).lookup c = some oc) (hc2 : oc.data = .fields vs) (hc3 : vs[1]? = some (.str fd.qualname t))
    (hb : ∀ vals : List Value, vals.length = params.length → bindArgs fd ⟨vals, []⟩ = pure (params.zip vals)) : FnAt (W1 w mg mb hB) name params body N a o fd :=
  ⟨B.own h0, B.X _ _ h1, h2, h3, h4, h5, h6, h7, h8, h9, h10, ⟨c, oc, vs, t, hc, B.X _ _ hc1, hc2, hc3⟩, hb⟩

theorem Bs.f3 : ∃ a o fd, FnAt (W1 w mg mb hB) "_div2n1n" ["a", "b", "n"] b3.1 n3.1 a o fd := by
  refine ⟨_, _, _, B.fnAt (a := 28) (by kernel_rfl) rfl rfl rfl rfl rfl rfl rfl rfl rfl rfl rfl rfl rfl rfl fun vals hv => ?_⟩
  obtain ⟨v0, v1, v2, rfl⟩ := len3 hv
  rfl
theorem Bs.f4 : ∃ a o fd, FnAt (W1 w mg mb hB) "_div3n2n" ["a12", "a3", "b", "b1", "b2", "n"] b4.1 n4.1 a o fd := by
  refine ⟨_, _, _, B.fnAt (a := 35) (by kernel_rfl) rfl rfl rfl rfl rfl rfl rfl rfl rfl rfl rfl rfl rfl rfl fun vals hv => ?_⟩
  obtain ⟨v0, v1, v2, v3, v4, v5, rfl⟩ := len6 hv
  rfl
theorem Bs.f11 : ∃ a o fd, FnAt (W1 w mg mb hB) "_law_draws" ["script"] b11.1 n11.1 a o fd := by
  refine ⟨_, _, _, B.fnAt (a := 202) (by kernel_rfl) rfl rfl rfl rfl rfl rfl rfl rfl rfl rfl rfl rfl rfl rfl fun vals hv => ?_⟩
  obtain ⟨v0, rfl⟩ := len1 hv
  rfl
theorem Bs.f12 : ∃ a o fd, FnAt (W1 w mg mb hB) "_law_words" ["way"] b12.1 n12.1 a o fd := by
  refine ⟨_, _, _, B.fnAt (a := 207) (by kernel_rfl) rfl rfl rfl rfl rfl rfl rfl rfl rfl rfl rfl rfl rfl rfl fun vals hv => ?_⟩
  obtain ⟨v0, rfl⟩ := len1 hv
  rfl
theorem Bs.f13 : ∃ a o fd, FnAt (W1 w mg mb hB) "_law_heights" ["ups", "size", "places"] b13.1 n13.1 a o fd := by
  refine ⟨_, _, _, B.fnAt (a := 212) (by kernel_rfl) rfl rfl rfl rfl rfl rfl rfl rfl rfl rfl rfl rfl rfl rfl fun vals hv => ?_⟩
  obtain ⟨v0, v1, v2, rfl⟩ := len3 hv
  rfl
theorem Bs.f14 : ∃ a o fd, FnAt (W1 w mg mb hB) "_law_is_straight" ["word", "north", "places"] b14.1 n14.1 a o fd := by
  refine ⟨_, _, _, B.fnAt (a := 217) (by kernel_rfl) rfl rfl rfl rfl rfl rfl rfl rfl rfl rfl rfl rfl rfl rfl fun vals hv => ?_⟩
  obtain ⟨v0, v1, v2, rfl⟩ := len3 hv
  rfl
theorem Bs.f15 : ∃ a o fd, FnAt (W1 w mg mb hB) "_law_points_under_the_rope" ["way", "north"] b15.1 n15.1 a o fd := by
  refine ⟨_, _, _, B.fnAt (a := 222) (by kernel_rfl) rfl rfl rfl rfl rfl rfl rfl rfl rfl rfl rfl rfl rfl rfl fun vals hv => ?_⟩
  obtain ⟨v0, v1, rfl⟩ := len2 hv
  rfl
theorem Bs.f16 : ∃ a o fd, FnAt (W1 w mg mb hB) "_law_named_in_order" ["one", "other", "signs"] b16.1 n16.1 a o fd := by
  refine ⟨_, _, _, B.fnAt (a := 229) (by kernel_rfl) rfl rfl rfl rfl rfl rfl rfl rfl rfl rfl rfl rfl rfl rfl fun vals hv => ?_⟩
  obtain ⟨v0, v1, v2, rfl⟩ := len3 hv
  rfl
end
end Nw

namespace Nw

section
variable {w : World} {mg mb : Str → Option Value} {hB : Heap} (B : Bs w mg mb hB)
include B
theorem Bs.methAt {f c : Addr} {o oc : Obj} {fd : FuncData} {params : List Str} {body : List Stmt} {names : Names} {vs : Array Value} {t : Tok} (h1 : (K1 w).lookup f = some o) (h0 : o.cls = .type "function") (h2 : o.data = .func fd) (h3 : fd.body = .stmts body) (h4 : fd.scope.names = names)
    (h5 : fd.scope.kind = .function) (h6 : fd.scope.isCoroutine = false) (h7 : fd.scope.isGenerator = false) (h9 : fd.globals = mainGlobals) (h10 : fd.builtins = builtinsNs) (hc : fd.code = .ref c) (hc1 : (K1 w).lookup c = some oc) (hc2 : oc.data = .fields vs) (hc3 : vs[1]? = some (.str fd.qualname t)) :
    MethAt (W1 w mg mb hB) f o fd params body names :=
  ⟨B.X _ _ h1, h0, h2, h3, h4, h5, h6, h7, h9, h10, ⟨c, oc, vs, t, hc, B.X _ _ hc1, hc2, hc3⟩⟩

theorem Bs.qni : ∃ cd, QnI (W1 w mg mb hB) (K1 w) cd 134 :=
  ⟨_, { x := B.X, makes := by kernel_rfl, cls := rfl, find := by kernel_rfl, fn := by kernel_rfl, seta := by kernel_rfl, taker := by kernel_rfl, dict := rfl, pass := fun x => refuse_only _ rfl, obj := only_has rfl }⟩

theorem Bs.isfn {a : Addr} {s : Shared} (k : Keep hB s.heap) : (K1 w).In s.heap := fun x o e => k _ _ (B.X _ _ e)

theorem Bs.callee {f : Value} (e : keepIn (K1 w) f = true) : Callee (W1 w mg mb hB) f := fun A s Q E k h => by
  obtain ⟨kp, _, l⟩ := looks_keep (M := (W1 w mg mb hB).M) e (B.isfn (a := 0) (s := s) k)
  exact l.here (h kp)

theorem Bs.qn : FnOK (W1 w mg mb hB) 1 "QName" (ofF qnPV) := by
  intro ps r h
  change qnPV ps = some r at h
  rcases ps with _ | ⟨p, _ | ⟨q, _ | ⟨x, tl⟩⟩⟩
  · cases h
  · cases p <;> cases h
  · cases p <;> first | (cases h; done) | skip
    cases q <;> first | (cases h; done) | skip
    obtain ⟨hsz, e⟩ := ite_some h
    cases e
    obtain ⟨cd, QI⟩ := B.qni
    refine ⟨.ref 193, .inl (B.own (by kernel_rfl)), B.callee (by kernel_rfl), fun A F s vs hA st base rs => ?_⟩
    obtain ⟨v1, _, rfl, ⟨t1, rfl⟩, v2, _, rfl, ⟨t2, rfl⟩, rfl⟩ := rs
    exact qn_make B.ok QI (B.methAt rfl rfl rfl rfl rfl rfl rfl rfl rfl rfl rfl rfl rfl rfl) (fun s a b c k => kp_binds (B.isfn (a := 0) k) fun S => by kernel_rfl) hA st base hsz
  · cases p <;> first | (cases h; done) | skip
    cases q <;> cases h

/-! QName compared -/
theorem Bs.qnc : QnC (W1 w mg mb hB) (K1 w) :=
  { x := B.X, ga := by kernel_rfl, text := fun h k t x n => by kernel_rfl, is := by kernel_rfl, not := by kernel_rfl, first := by kernel_rfl, glob := .inl (B.own (by kernel_rfl)), isi := B.gisi }
theorem Bs.cmpAt {op : CmpOp} {f c : Addr} {o oc : Obj} {fd : FuncData} {vs : Array Value} {t : Tok} {a1 a2 a3 a4 a5 e1 e2 e3 e4 e5 e6 c1 c2 c3 c4 c5 : Pos} (hf : findIn (K1 w) (.ref 193) (cmpInfo op).2.1 = some (some (.ref f))) (hfn : isFn (K1 w) (.ref f) = true) (h1 : (K1 w).lookup f = some o) (h0 : o.cls = .type "function") (h2 : o.data = .func fd)
    (h3 : fd.body = .stmts (cmpBody op a1 a2 a3 a4 a5 e1 e2 e3 e4 e5 e6 c1 c2 c3 c4 c5)) (h4 : fd.scope.names = cmpNames)
    (h5 : fd.scope.kind = .function) (h6 : fd.scope.isCoroutine = false) (h7 : fd.scope.isGenerator = false) (h9 : fd.globals = mainGlobals) (h10 : fd.builtins = builtinsNs) (hc : fd.code = .ref c) (hc1 : (K1 w).lookup c = some oc) (hc2 : oc.data = .fields vs) (hc3 : vs[1]? = some (.str fd.qualname t))
    (hb : ∀ a b : Value, bindArgs fd ⟨[a, b], []⟩ = pure ([("self", a), ("other", b)] : List (Str × Value))) : ∃ f, CmpAt (W1 w mg mb hB) (K1 w) op f :=
  ⟨f, { find := hf, fn := hfn, m := ⟨o, fd, a1, a2, a3, a4, a5, e1, e2, e3, e4, e5, e6, c1, c2, c3, c4, c5, B.methAt h1 h0 h2 h3 h4 h5 h6 h7 h9 h10 hc hc1 hc2 hc3, hb⟩ }⟩
theorem Bs.qcmp : QCmp (W1 w mg mb hB) (K1 w) where
  c := B.qnc
  self := by kernel_rfl
  at' := fun op hop => by
    cases op <;> first | cases hop | skip
    · exact B.cmpAt (f := 190) (by kernel_rfl) (by kernel_rfl) rfl rfl rfl rfl rfl rfl rfl rfl rfl rfl rfl rfl rfl rfl fun _ _ => rfl
    · exact B.cmpAt (f := 169) (by kernel_rfl) (by kernel_rfl) rfl rfl rfl rfl rfl rfl rfl rfl rfl rfl rfl rfl rfl rfl fun _ _ => rfl
    · exact B.cmpAt (f := 162) (by kernel_rfl) (by kernel_rfl) rfl rfl rfl rfl rfl rfl rfl rfl rfl rfl rfl rfl rfl rfl fun _ _ => rfl
    · exact B.cmpAt (f := 183) (by kernel_rfl) (by kernel_rfl) rfl rfl rfl rfl rfl rfl rfl rfl rfl rfl rfl rfl rfl rfl fun _ _ => rfl
    · exact B.cmpAt (f := 176) (by kernel_rfl) (by kernel_rfl) rfl rfl rfl rfl rfl rfl rfl rfl rfl rfl rfl rfl rfl rfl fun _ _ => rfl

/-! the pile's class -/
theorem Bs.accK : AccK (W1 w mg mb hB) (K1 w) := ⟨B.X, by kernel_rfl, by kernel_rfl, by kernel_rfl, by kernel_rfl⟩
theorem Bs.accL : AccL (W1 w mg mb hB) (K1 w) [.ref 115, .type "list", .type "object"] where
  k := B.accK
  mro := (looks_clsIn B.X (C := 115) rfl).andThen (f := fun cd => pure cd.mro) .now
  after := by kernel_rfl
  len := by kernel_rfl
  pop := by kernel_rfl
  init := by kernel_rfl
theorem Bs.accP : ∃ cd, AccP (W1 w mg mb hB) (K1 w) [.ref 115, .type "list", .type "object"] cd :=
  ⟨_, { l := B.accL, modn := by kernel_rfl, typ := by kernel_rfl, cls := rfl, chk := fun a => by kernel_rfl }⟩
theorem Bs.accS : AccS (W1 w mg mb hB) (K1 w) := ⟨B.accK, by kernel_rfl, by kernel_rfl, by kernel_rfl⟩
theorem Bs.accI : ∃ cd, AccI (W1 w mg mb hB) (K1 w) [.ref 115, .type "list", .type "object"] cd 52 :=
  ⟨_, { l := B.accL, cls := rfl, find := by kernel_rfl, fn := by kernel_rfl, seta := by kernel_rfl, taker := by kernel_rfl, dict := rfl, pass := fun x => by kernel_rfl, obj := by kernel_rfl }⟩
end
end Nw

namespace Nw
set_option tactic.hygienic false

noncomputable def gposL : Pos := { line := 54, col := 19, endLine := 54, endCol := 63 }
noncomputable def gposS : Pos := { line := 57, col := 32, endLine := 57, endCol := 85 }
section
variable {w : World} {mg mb : Str → Option Value} {hB : Heap} (B : Bs w mg mb hB)
include B
theorem Bs.pileM {m : Str} {f : Addr} {o : Obj} {fd : FuncData} (h1 : findIn (K1 w) (.ref 115) m = some (some (.ref f))) (h2 : typeIn (K1 w) (.ref f) = some (.type "function")) (h3 : (K1 w).lookup f = some o) (h4 : o.data = .func fd) (h5 : ∀ hh k t hd n, shadowIn (some (sizeDict hh k t hd n)) m = some false) : PileM (W1 w mg mb hB) (K1 w) m f :=
  ⟨h1, h2, ⟨o, fd, B.X _ _ h3, h4⟩, h5⟩
theorem Bs.genAt {m : Str} {f c P : Addr} {o : Obj} {fd : FuncData} (h1 : findIn (K1 w) (.ref 115) m = some (some (.ref f))) (h2 : typeIn (K1 w) (.ref f) = some (.type "function")) (h3 : (K1 w).lookup f = some o) (h4 : o.data = .func fd) : GenAt (W1 w mg mb hB) (K1 w) m f c P :=
  ⟨h1, h2, ⟨o, fd, B.X _ _ h3, h4⟩⟩
theorem Bs.supAt {fd : FuncData} {names : Names} {cda : Addr} {oc : Obj} {vs : Array Value} {file : Str} {tf : Tok} {ar : Arg} {occ : Obj} (h1 : names.lookup ("super" : Str) = some .globalImplicit) (h2 : names.lookup ("__class__" : Str) = some .free) (h3 : names.lookup ("self" : Str) = some .local)
    (h4 : (fd.params.posonlyargs ++ fd.params.args).head? = some ar) (h5 : ar.arg = "self") (h6 : fd.closure = ([("__class__", 39)] : List (Str × Addr))) (h7 : (K1 w).lookup 39 = some occ) (h8 : occ.data = .cell (some (.ref 115))) (h9 : fd.code = .ref cda) (h10 : (K1 w).lookup cda = some oc) (h11 : oc.data = .fields vs) (h12 : vs[2]? = some (.str file tf))
    (h13 : ((PySem.Challenge.rw_xi0009_01.row.prog.main.file : Str) == file) = true) : SupAt (W1 w mg mb hB) (K1 w) fd names where
  sup := h1
  cls := h2
  self := h3
  par := ⟨ar, h4, h5⟩
  clo := ⟨39, h6, ⟨occ, B.X _ _ h7, h8⟩⟩
  code := ⟨cda, oc, vs, file, tf, h9, B.X _ _ h10, h11, h12, h13⟩
  top := by kernel_rfl
  glob := B.gsuper
  opq := by kernel_rfl

theorem Bs.blt' : BltAt (W1 w mg mb hB) := ⟨B.bmain⟩
theorem Bs.pushC : PushC (W1 w mg mb hB) 59 := push_C B.ok B.accK (B.methAt rfl rfl rfl rfl rfl rfl rfl rfl rfl rfl rfl rfl rfl rfl) rfl (fun _ _ _ => rfl)
theorem Bs.countC : CountC (W1 w mg mb hB) 112 := count_C B.ok B.accL (B.methAt rfl rfl rfl rfl rfl rfl rfl rfl rfl rfl rfl rfl rfl rfl) (B.supAt rfl rfl rfl rfl rfl rfl rfl rfl rfl rfl rfl rfl (by kernel_rfl)) rfl (fun _ => rfl)
theorem Bs.countAt : CountAt (W1 w mg mb hB) (K1 w) 112 where
  find := by kernel_rfl
  fn := by kernel_rfl
  call := fun {A F s env0 a hd items} h st base hsl => B.countC A F s env0 a hd items h st base hsl
  func := ⟨_, _, B.X 112 _ rfl, rfl⟩
theorem Bs.popC : PopC (W1 w mg mb hB) 75 := by
  obtain ⟨cd, AP⟩ := B.accP
  exact pop_C B.ok AP B.countAt (B.methAt rfl rfl rfl rfl rfl rfl rfl rfl rfl rfl rfl rfl rfl rfl) (B.supAt rfl rfl rfl rfl rfl rfl rfl rfl rfl rfl rfl rfl (by kernel_rfl)) rfl rfl (fun _ => rfl)
theorem Bs.pfC : PfC (W1 w mg mb hB) 67 := pf_C (t0 := 264) B.ok B.accS (B.methAt rfl rfl rfl rfl rfl rfl rfl rfl rfl rfl rfl rfl rfl rfl)
  (fun _ _ _ k => kp_binds (B.isfn (a := 0) k) fun S => by kernel_rfl) (fun _ _ k => kp_binds (B.isfn (a := 0) k) fun S => by kernel_rfl)
theorem Bs.pileOK : PileOK (W1 w mg mb hB) (K1 w) where
  k := B.accK
  push := ⟨59, B.pileM (by kernel_rfl) (by kernel_rfl) rfl rfl (fun _ _ _ _ _ => by kernel_rfl), B.pushC⟩
  pop := ⟨75, B.pileM (by kernel_rfl) (by kernel_rfl) rfl rfl (fun _ _ _ _ _ => by kernel_rfl), B.popC⟩
  pf := ⟨67, B.pileM (by kernel_rfl) (by kernel_rfl) rfl rfl (fun _ _ _ _ _ => by kernel_rfl), B.pfC⟩
  count := ⟨112, B.pileM (by kernel_rfl) (by kernel_rfl) rfl rfl (fun _ _ _ _ _ => by kernel_rfl), B.countC⟩
theorem Bs.lenC : ∃ scope, LenC (W1 w mg mb hB) 82 (.ref 81) gposL scope := by
  obtain ⟨o, fd, body, M, hfd⟩ : ∃ o fd body, MethAt (W1 w mg mb hB) 82 o fd ["self"] body lenNames ∧ (K1 w).lookup 82 = some o := ⟨_, _, _, B.methAt rfl rfl rfl rfl rfl rfl rfl rfl rfl rfl rfl rfl rfl rfl, rfl⟩
  cases hfd
  have e := M.data
  cases e
  have e := M.body
  cases e
  exact ⟨_, fun hA st base hsl hpF hpa hnew hc hsz hd0 hfit => len_sound B.ok B.accK (by kernel_rfl) B.blt' B.glen B.gsum (fun h k t x n => by kernel_rfl) M rfl rfl rfl (fun _ => rfl) hA st base hsl hpF hpa hnew hc hsz hd0 hfit⟩
theorem Bs.strC : ∃ scope, StrC (W1 w mg mb hB) 89 (.ref 88) gposS scope := by
  obtain ⟨o, fd, body, M, hfd⟩ : ∃ o fd body, MethAt (W1 w mg mb hB) 89 o fd ["self"] body strNames ∧ (K1 w).lookup 89 = some o := ⟨_, _, _, B.methAt rfl rfl rfl rfl rfl rfl rfl rfl rfl rfl rfl rfl rfl rfl, rfl⟩
  cases hfd
  have e := M.data
  cases e
  have e := M.body
  cases e
  exact ⟨_, fun hA st base hsl hpF hpa hnew hc hsz hn hok => str_sound B.ok B.accK (by kernel_rfl) B.blt' B.gempty M rfl rfl rfl rfl rfl (fun _ => rfl) hA st base hsl hpF hpa hnew hc hsz hn hok⟩
theorem Bs.accMake : ∀ ps hd, accNw ps = some hd → ∃ fv, (W1 w mg mb hB).glob "_Accumulator" fv ∧ Callee (W1 w mg mb hB) fv ∧ ∀ (A : Around) (F : FM) (s : Shared) (vs : List Value), Amb A 2 → Sits F s.heap → Keep (W1 w mg mb hB).hB s.heap → RepL (W1 w mg mb hB).qc F ps vs →
    wpAny (W1 w mg mb hB).M A (call fv vs) (fun v s' => NewAcc (W1 w mg mb hB) F s hd v s') NoE s := by
  intro ps hd h
  unfold accNw at h
  split at h
  · cases h
    obtain ⟨cd, AI⟩ := B.accI
    refine ⟨.ref 115, .inl (B.own (by kernel_rfl)), B.callee (by kernel_rfl), fun A F s vs hA st base rs => ?_⟩
    obtain ⟨v1, _, rfl, ⟨t1, rfl⟩, rfl⟩ := rs
    exact acc_make B.ok AI (B.methAt rfl rfl rfl rfl rfl rfl rfl rfl rfl rfl rfl rfl rfl rfl) (B.supAt rfl rfl rfl rfl rfl rfl rfl rfl rfl rfl rfl rfl (by kernel_rfl)) rfl (fun s a b k => kp_binds (B.isfn (a := 0) k) fun S => by kernel_rfl) hA st base
  · cases h

theorem Bs.L1 : L1 (W1 w mg mb hB) :=
  ⟨B.ok, B.glen, B.grange, B.gmin, B.gstr, B.gdivmod, B.grev, ⟨_, B.glim⟩, B.f3, B.f4, B.f11, B.f12, B.f13, B.f14, B.f15, B.f16, B.qn, B.accMake, ⟨_, B.pileOK⟩, ⟨_, B.qcmp⟩⟩
end
end Nw

namespace Nw
set_option tactic.hygienic false

section
variable {w : World} {mg mb : Str → Option Value} {hB : Heap} (B : Bs w mg mb hB)
include B
theorem Bs.tabs (hl : hB.get? 77 = none) (hs : hB.get? 84 = none) {s1 : Shared} (KX : (K1 w).In s1.heap) (h77 : s1.heap.get? 77 = some (tabObj #[])) (h84 : s1.heap.get? 84 = some (tabObj #[])) : Tabs (W1 w mg mb hB) (K1 w) s1 81 77 gposL 88 84 gposS where
  ak := B.accK
  len := by
    obtain ⟨scope, h⟩ := B.lenC
    exact ⟨82, scope, B.genAt (by kernel_rfl) (by kernel_rfl) rfl rfl, h⟩
  str := by
    obtain ⟨scope, h⟩ := B.strC
    exact ⟨89, scope, B.genAt (by kernel_rfl) (by kernel_rfl) rfl rfl, h⟩
  hidl := hl
  hids := hs
  notl := CodeNot.of KX (by kernel_rfl) h77
  nots := CodeNot.of KX (by kernel_rfl) h84
  ne := by decide
  ne2 := by decide
  ne3 := by decide
theorem Bs.pileG (h1 : CodeIn 81 77 gposL hB) (h2 : CodeIn 88 84 gposS hB) : PileG (W1 w mg mb hB) (K1 w) where
  nb := by kernel_rfl
  len := by
    obtain ⟨scope, h⟩ := B.lenC
    exact ⟨82, 81, 77, gposL, scope, B.genAt (by kernel_rfl) (by kernel_rfl) rfl rfl, h, h1⟩
  str := by
    obtain ⟨scope, h⟩ := B.strC
    exact ⟨89, 88, 84, gposS, scope, B.genAt (by kernel_rfl) (by kernel_rfl) rfl rfl, h, h2⟩
theorem Bs.onlyC (G : PileG (W1 w mg mb hB) (K1 w)) : OnlyC (W1 w mg mb hB) 104 := by
  obtain ⟨o, fd, body, M, hfd⟩ : ∃ o fd body, MethAt (W1 w mg mb hB) 104 o fd ["self"] body owNames ∧ (K1 w).lookup 104 = some o := ⟨_, _, _, B.methAt rfl rfl rfl rfl rfl rfl rfl rfl rfl rfl rfl rfl rfl rfl, rfl⟩
  cases hfd
  have e := M.data
  cases e
  have e := M.body
  cases e
  intro A F s env0 a hd fs hA st base hsl hs hh hj
  exact only_sound B.ok B.accK G B.gstr (fun h k t x n => by kernel_rfl) M rfl (fun _ => rfl) hA st base hsl hs hh hj
theorem Bs.orc2 (h1 : CodeIn 81 77 gposL hB) (h2 : CodeIn 88 84 gposS hB) : OrcOK (W1 w mg mb hB) (o2.orc []) 5 := by
  have G := B.pileG h1 h2
  refine B.L1.orc0 (.inr ⟨rfl, ?_, ?_⟩)
  · intro f sl r h
    obtain ⟨fv, a, b, c⟩ := scP_sound B.accK G B.glen B.gstr f sl r h
    exact ⟨fv, a, b, fun A F s env v hA => c A F s env v (hA.le (by decide))⟩
  · exact smQ_sound B.pileOK (B.pileM (by kernel_rfl) (by kernel_rfl) rfl rfl (fun _ _ _ _ _ => by kernel_rfl)) (B.onlyC G)
end
end Nw

namespace Nw
set_option tactic.hygienic false

theorem execs_split (env : Env) (l2 : List Stmt) : ∀ l1 : List Stmt, PySem.execs (l1 ++ l2) env = PySem.execs l1 env >>= fun f => match f with
    | .next => PySem.execs l2 env
    | f => pure f
  | [] => by rw [arm_execs_nil, pure_bind]; rfl
  | st :: l1 => by
    rw [List.cons_append, arm_execs_cons, arm_execs_cons, bind_assoc]
    congr 1
    funext f
    cases f with
    | next => exact execs_split env l2 l1
    | _ => rw [pure_bind]
theorem pexecs_app {M : Model} {A : Around} {E : Value → Shared → Prop} {env : Env} {Q : Flow → Shared → Prop} {l1 l2 : List Stmt} {s : Shared} (h : wpAny M A (PySem.execs l1 env) (fun f s' => f = .next ∧ wpAny M A (PySem.execs l2 env) Q E s') E s) : wpAny M A (PySem.execs (l1 ++ l2) env) Q E s := by
  rw [execs_split]
  refine wpAny_bind (wpAny_mono h ?_ fun _ _ z => z)
  rintro f s' ⟨rfl, h2⟩
  exact h2

theorem intsAre_rep {qc : Addr} {F : FM} : ∀ {vs : List Value} {xs : List Int}, IntsAre vs xs → RepL qc F (intsPV xs) vs
  | _, _, .nil => rfl
  | _, _, .cons n t r => ⟨_, _, rfl, ⟨t, rfl⟩, intsAre_rep r⟩

theorem Bs.sub {w : World} {mg mb : Str → Option Value} {h hB : Heap} (B : Bs w mg mb h) (h77 : h.get? 77 = some (tabObj #[])) (h84 : h.get? 84 = some (tabObj #[])) (k : ∀ b o, b ≠ 77 → b ≠ 84 → h.get? b = some o → hB.get? b = some o) : Bs w mg mb hB where
  X := fun a o e => by
    refine k a o ?_ ?_ (B.X a o e)
    · rintro rfl
      have : (K1 w).lookup 77 = none := by kernel_rfl
      rw [this] at e; cases e
    · rintro rfl
      have : (K1 w).lookup 84 = none := by kernel_rfl
      rw [this] at e; cases e
  g := B.g.at' fun o e => k _ _ (by decide) (by decide) e
  b := B.b.at' fun o e => k _ _ (by decide) (by decide) e
  nolimit := let ⟨mc, n, e⟩ := B.nolimit; ⟨mc, n.at' fun o e => k _ _ (by decide) (by decide) e, e⟩
  bi := B.bi
  bmain := by
    obtain ⟨bm, ob, e1, e2, e3, e4, r⟩ := B.bmain
    refine ⟨bm, ob, e1, e2, k _ _ ?_ ?_ e3, e4, r⟩
    · rintro rfl
      rw [h77] at e3; cases e3; cases e4
    · rintro rfl
      rw [h84] at e3; cases e3; cases e4
end Nw

namespace Nw

theorem n17_nocell : n17.1.all (fun p => p.2 != .cell) = true := by decide
theorem n17_nofree : n17.1.all (fun p => p.2 != .free) = true := by decide

theorem no_kind {N : Names} {kd : NameKind} (h : N.all (fun p => p.2 != kd) = true) (x : Str) : N.lookup x ≠ some kd := by
  intro e
  have := List.all_eq_true.mp h _ (PySem.mem_of_lookup e)
  simp at this

/-- the state at the head of the law's body -/
theorem law_start {w : World} {mg mb : Str → Option Value} {s1 : Shared} {h1 : Heap} {tk : Nat} {m : Str → Option Value} {l : Addr} {vs : List Value} {xs : List Int} {env : Env} (B : Bs w mg mb (hideAll s1.heap [77, 84]))
    (F : Fr s1.heap s1.heap.objs.size h1 m) (hm : m "script" = some (.ref l)) (hL : s1.heap.IsList l vs.toArray) (hI : IntsAre vs xs)
    (hk : env.scope.kind = .function) (hko : ∀ x, env.kindOf x = n17.1.lookup x) (hg : env.globals = mainGlobals) (hb : env.builtins = builtinsNs) (hl : env.locals = s1.heap.objs.size) (hc : env.cells = []) (h77 : s1.heap.get? 77 = some (tabObj #[])) (h84 : s1.heap.get? 84 = some (tabObj #[])) :
    ∃ F0 : FM, (∀ b o, F0 b = some o → b ≠ 77 ∧ b ≠ 84) ∧ SJ (W1 w mg mb (hideAll s1.heap [77, 84])) F0 s1 F0 { s1 with heap := h1, toks := tk } env n17.1 (rho0 ["script"] [.list (intsPV xs)]) := by
  obtain ⟨o, ho, hcl, n, hd⟩ := hL
  have h0 : ∀ b ob, (fun b => if b = l then some o else none : FM) b = some ob → b = l ∧ ob = o := fun b ob e => by
    dsimp only at e
    split at e
    · rename_i h; cases e; exact ⟨h, rfl⟩
    · cases e
  have sits0 : Sits (fun b => if b = l then some o else none) s1.heap := fun b ob e => by
    obtain ⟨rfl, rfl⟩ := h0 b ob e
    exact ho
  have sits1 : Sits (fun b => if b = l then some o else none) h1 := fun b ob e => F.keep _ _ (sits0 b ob e)
  have rep : Rep 193 (fun b => if b = l then some o else none) (.list (intsPV xs)) (.ref l) := ⟨l, o, vs.toArray, n, rfl, by simp, hcl, hd, by simpa using intsAre_rep hI⟩
  have hnew : s1.heap.get? s1.heap.objs.size = none := push_new _
  have nl : s1.heap.objs.size ≠ l := Nat.ne_of_gt (Heap.lt_size ho)
  refine ⟨_, fun b ob e => ?_, ⟨⟨{ sits := sits1, base := fun b ob e => F.keep _ _ (of_hideAll _ e), kind := hk, globals := hg, blt := hb, ns := ⟨m, by rw [hl]; exact F.ns⟩, cells := fun p hp => (by rw [hc] at hp; cases hp), apart := (by rw [hc]; exact .nil), nl := fun p hp => (by rw [hc] at hp; cases hp), privL := ?_, privF := fun p hp => (by rw [hc] at hp; cases hp), privC := fun x c _ e => (by rw [hc] at e; cases e), kindL := fun x hx => (by rw [hko]; exact hx), kindC := fun x hx => absurd hx (no_kind n17_nocell x), kindF := fun x hx => absurd hx (no_kind n17_nofree x), kindG := fun x hx => (by rw [hko]; exact hx), slots := ?_, muts := ?_ }, Grow.heap sits0 F.keep, fun b ob e => of_hideAll _ e⟩, ?_⟩⟩
  · obtain ⟨rfl, rfl⟩ := h0 b ob e
    constructor
    · rintro rfl; rw [h77] at ho; cases ho; cases hcl
    · rintro rfl; rw [h84] at ho; cases ho; cases hcl
  · rw [hl]
    exact ⟨by rw [if_neg nl], hnew⟩
  · intro x sl e
    unfold rho0 at e
    split at e
    · rename_i hx
      cases e
      subst hx
      refine ⟨.ref l, rep, .inl ⟨?_, m, by rw [hl]; exact F.ns, hm⟩⟩
      rw [hko]; rfl
    · cases e
  · intro x y sl sl' v e1 e2 m1
    unfold rho0 at e1
    split at e1
    · cases e1; cases m1
    · cases e1
  · intro x sl a e m1
    unfold rho0 at e
    split at e
    · cases e; cases m1
    · cases e
end Nw

namespace Nw

theorem fns1_ok {W : Wd} (L : L1 W) {u v : Nat} (huv : u < v) : ∀ f g, (f, g) ∈ fns1 u v → FnOK W 11 f g := by
  intro f g h
  unfold fns1 at h
  simp only [List.mem_cons, List.not_mem_nil, or_false, Prod.mk.injEq] at h
  rcases h with ⟨rfl, rfl⟩ | ⟨rfl, rfl⟩ | ⟨rfl, rfl⟩ | ⟨rfl, rfl⟩
  · exact (L.prims 11).1
  · exact L.draws.mono (by decide)
  · exact (L.words huv).mono (by decide)
  · exact L.qn.mono (by decide)
theorem fns2_ok {W : Wd} (L : L1 W) {u v : Nat} (huv : u < v) : ∀ f g, (f, g) ∈ fns2 u v → FnOK W 11 f g := by
  intro f g h
  unfold fns2 at h
  simp only [List.mem_cons, List.not_mem_nil, or_false, Prod.mk.injEq] at h
  rcases h with ⟨rfl, rfl⟩ | ⟨rfl, rfl⟩ | ⟨rfl, rfl⟩ | ⟨rfl, rfl⟩ | ⟨rfl, rfl⟩
  · exact (L.prims 11).1
  · exact (L.prims 11).2.1
  · exact L.straight huv
  · exact (L.points huv).mono (by decide)
  · exact (L.named huv).mono (by decide)

theorem body_split : ∃ st, b17.1[4]? = some st ∧ b17.1 = b17.1.take 4 ++ ([st] ++ b17.1.drop 5) := by
  unfold b17
  exact ⟨_, rfl, rfl⟩

set_option maxHeartbeats 4000000 in
theorem law_body {w : World} {mg mb : Str → Option Value} {s1 : Shared} {h1 : Heap} {tk : Nat} {m : Str → Option Value} {l : Addr} {vs : List Value} {xs : List Int} {env : Env} {A : Around} (B0 : Bs w mg mb s1.heap)
    (F : Fr s1.heap s1.heap.objs.size h1 m) (hm : m "script" = some (.ref l)) (hL : s1.heap.IsList l vs.toArray) (hI : IntsAre vs xs) (hx : xs.length ≤ 1000)
    (hk : env.scope.kind = .function) (hko : ∀ x, env.kindOf x = n17.1.lookup x) (hg : env.globals = mainGlobals) (hb : env.builtins = builtinsNs) (hl : env.locals = s1.heap.objs.size) (hc : env.cells = []) (h77 : s1.heap.get? 77 = some (tabObj #[])) (h84 : s1.heap.get? 84 = some (tabObj #[]))
    (hA : Amb A 11) :
    wpAny (model PySem.Challenge.rw_xi0009_01.row.prog w) A (PySem.execs b17.1 env) (fun fl s' => fl = .ret (.bool true) ∧ OldK s1.heap s'.heap ∧ s'.os = s1.os ∧ (AllBare s1.gens → AllBare s'.gens)) NoE { s1 with heap := h1, toks := tk } := by
  have k1 : ∀ b o, b ≠ 77 → b ≠ 84 → s1.heap.get? b = some o → (hideAll s1.heap [77, 84]).get? b = some o := fun b o n1 n2 e => hideAll_get _ e (by simp [n1, n2])
  have B1 := B0.sub h77 h84 k1
  have hid77 : (hideAll s1.heap [77, 84]).get? 77 = none := hideAll_none _ (by simp)
  have hid84 : (hideAll s1.heap [77, 84]).get? 84 = none := hideAll_none _ (by simp)
  have T := B1.tabs hid77 hid84 B0.X h77 h84
  obtain ⟨F0, hF0, sj0⟩ := law_start (tk := tk) B1 F hm hL hI hk hko hg hb hl hc h77 h84
  -- the draws
  obtain ⟨p, hp1, hp2, hp3, hp4⟩ := prs_at (sg_lt (cellsOf xs).2.1)
  obtain ⟨u, v⟩ := p
  dsimp only at hp3 hp4
  have bl := bits_len (cellsOf xs).1 (cellsOf xs).2.1
  generalize hway : bitsOf (cellsOf xs).1 (cellsOf xs).2.1 = way at bl
  have hh := fmod_bd (a := (cellsOf xs).2.1.fdiv 24) (b := 3) (by decide)
  generalize hhd : ((cellsOf xs).2.1.fdiv 24).fmod 3 = h at hh
  have hq := fmod_bd (a := (cellsOf xs).2.2) (b := 7900) (by decide)
  generalize hqq : 7 + (cellsOf xs).2.2.fmod 7900 = q
  have hq2 : 7 ≤ q ∧ q ≤ 7906 := by lia
  have G := good_of (check_all bl.1 bl.2)
  obtain ⟨ρ4, r0, r1, r2, r3, r4, r5, r6, r7⟩ := pre_run hx hp2 hp3 hway hhd hqq
  rw [items_good G] at r6
  have P4 : Pst u v way (wordsB way.length way) h q ρ4 := by
    refine ⟨r1, r2, r3, r4, r5, fun x hx => ?_⟩
    simp only [List.mem_cons, List.not_mem_nil, or_false] at hx
    rcases hx with rfl | rfl | rfl | rfl | rfl
    · exact r7 _ (by decide)
    · exact r7 _ (by decide)
    · exact r7 _ (by decide)
    · exact r7 _ (by decide)
    · exact r7 _ (by decide)
  have hu : u < 0x110000 := by lia
  have L := B1.L1
  have cokA : CfgSOK (W1 w mg mb (hideAll s1.heap [77, 84])) (CA u v) 11 := orc1_sound L (fns1 u v) (by decide) (fns1_ok L hp3)
  obtain ⟨st, hst, hsp⟩ := body_split
  rw [hsp]
  refine pexecs_app ?_
  refine wpAny_mono (execs_sound (X := ⟨_, A, _, L.ok, cokA, hA⟩) r0 F0 _ sj0) ?_ fun _ _ z => z
  rintro fl s2 ⟨F2, sj2, stp2, rfl⟩
  refine ⟨rfl, pexecs_app ?_⟩
  rw [arm_execs_cons]
  refine wpAny_bind (wpAny_mono (mid L T hu hp4 (fun hB2 k2 => (B0.sub h77 h84 k2).L1) hA sj2 hc hF0 r6 P4 G bl.2 hh st hst) ?_ fun _ _ z => z)
  rintro fl s3 ⟨rfl, hB2, F3, s3', F3', GO⟩
  dsimp only
  rw [arm_execs_nil]
  refine wpAny_pure ⟨rfl, ?_⟩
  have B2 := B0.sub h77 h84 GO.old
  have L2 := B2.L1
  have cokB : CfgSOK (W1 w mg mb hB2) (CB u v) 11 := Orc.sound ((B2.orc2 GO.inl GO.ins).fns' (by decide) (fns2_ok L2 hp3))
  obtain ⟨ρ', hpost⟩ := post_run hp3 hp4 G bl.1 bl.2 hh hq2 P4 r6
  refine wpAny_mono (execs_sound (X := ⟨_, A, _, L2.ok, cokB, hA⟩) hpost F3' s3 GO.sj) ?_ fun _ _ z => z
  rintro fl s4 ⟨F4, sj4, stp4, v4, rfl, rv⟩
  cases rv
  have kB : Keep hB2 s4.heap := by
    have := sj4.si.grow.keep
    rw [GO.heap] at this
    exact this
  have tabOf : ∀ {c P : Addr} {g : Pos}, CodeIn c P g hB2 → ∃ tab, s4.heap.get? P = some { cls := .none, data := .fields tab } := fun ⟨tab, _, t, _⟩ => ⟨tab, kB _ _ t.2⟩
  obtain ⟨t77, e77⟩ := tabOf GO.inl
  obtain ⟨t84, e84⟩ := tabOf GO.ins
  have tt : ∀ {c P : Addr} {g : Pos}, CodeNot c P g s1.heap → isCodeTable s1.heap P := fun ⟨tab, _, t, _⟩ => t.isCodeTable
  refine ⟨rfl, ⟨fun b o e => ?_, fun b o e => ?_⟩, sj4.si.grow.os.trans GO.os, fun G0 => sj4.si.grow.gens (GO.gens G0)⟩
  · by_cases n1 : b = 77
    · subst n1
      rw [h77] at e; cases e
      exact .inr (.inl ⟨tt T.notl, rfl, #[], t77, rfl, by rw [e77, Array.empty_append]⟩)
    · by_cases n2 : b = 84
      · subst n2
        rw [h84] at e; cases e
        exact .inr (.inl ⟨tt T.nots, rfl, #[], t84, rfl, by rw [e84, Array.empty_append]⟩)
      · exact .inl (kB _ _ (GO.old _ _ n1 n2 e))
  · by_cases n1 : b = 77
    · subst n1; exact ⟨_, e77⟩
    · by_cases n2 : b = 84
      · subst n2; exact ⟨_, e84⟩
      · exact ⟨o, kB _ _ (GO.old _ _ n1 n2 e)⟩
end Nw

namespace Nw
theorem post_ok (xs : List Int) : PySem.Challenge.rw_xi0009_01.row.claim.post [ofPy (PyData.list (List.map PyData.int xs))] (WData.bool true) [ofPy (PyData.list (List.map PyData.int xs))] = true := by
  generalize [ofPy (PyData.list (List.map PyData.int xs))] = a
  show (WShape.has ([] : WRecords) (WData.bool true) WShape.bool && WTm.holds ([] : WRecords) (.eq .res (.lit (.bool true))) { args := a, res := some (.bool true), after := a }) = true
  unfold WTm.holds
  rw [w_eq (d := .bool true) (d' := .bool true) (by simp [WTm.value]) (by simp [WTm.value])]
  decide +kernel
end Nw
set_option maxRecDepth 100000 in
set_option maxHeartbeats 8000000 in
theorem PySem.Challenge.cw_xi0009_01_holds : PySem.Challenge.rw_xi0009_01.Holds := by
  refine holds_law (by decide +kernel) fun said => ?_
  refine holds_open (q := Nw.KF.V) (loose := ["_Accumulator"]) (Xt := fun s => xlAt Nw.KF.V [] s && recOk (RowW.records PySem.Challenge.rw_xi0009_01.row.toRowW) s) (XP := XL Nw.KF.V []) (Yf := Hook.obs Nw.KF.H) (Ya := Hook.val Nw.KF.H) (YP := Hook.says Nw.KF.H) (N := 2790) Nw.KF.left (Hook.of Nw.KF.H) (Hook.keeps Nw.KF.H) (fun s e => xl_of s (Bool.and_eq_true_iff.mp e).1) XL.keeps (by rfl) (by rfl) (by rfl) (fun s e => recFacts_of (Bool.and_eq_true_iff.mp e).2) (by rfl) (by first | assumption | decide +kernel) (by decide +kernel) ⟨rfl, rfl, rfl, rfl, rfl, by decide +kernel⟩ ?hw ?hc
  case hw => w_witness2
  intro w s₀ s₁ mg mb G Y fa o pm cd doc dV kV ho hd hcd hD hmg hg args vals as hpre hlay hrd hwl hlo
  have KX := km_in_of Y
  have HT := km_tabs_of Y
  have X := (Ground.X G).1
  have V := (Ground.X G).2
  refine Ground.open G ?_
  intro T B D TE TW
  try (refine guard_noD D (by decide +kernel) ?_; clear D)
  obtain ⟨_, _, M⟩ := bmod_of_top T
  have TA := at_of_top T
  try (obtain ⟨_, _, he, B0⟩ := based_of_top T rfl hmg ho hd; have he' : cd = _ := he; subst he'; clear he)
  clear hmg
  wrow_args hpre hlay hrd hwl hlo
  refine enter_call ?_
  w_top on
  have K0 := below_caller (Top.heap T)
  w_call any ho hd hcd hD T F
  rename_i xs hs hlay0 hL1 hr1 hl2 as4 as3 la vls as5 hL ra w1w r0 hI hr hcond1 hcond2 h₁ N0
  have BB : Nw.Bs w mg mb s₁.heap := ⟨KX, T.g, T.b, T.nolimit, T.builtins, T.bmain⟩
  have h77 := HT 77 (by simp)
  have h84 := HT 84 (by simp)
  refine wpAny_mono (Nw.law_body BB F rfl hL hI (by omega) rfl (fun x => rfl) rfl rfl rfl rfl h77 h84 ?_) ?_ ?_
  · exact ⟨rfl, by rw [depth_deeper]; decide, by rw [Around.deeper_units]; decide, rfl⟩
  · rintro fl s' ⟨rfl, hold, hos, hgens⟩
    exact ⟨.inl ⟨.bool true, .bool true, [], rfl, fun _ => rfl, .bool true, Nw.post_ok xs, fun _ => ⟨.nil, fun _ h => by cases h⟩⟩, hold, hos, hgens (.of_eq hg)⟩
  · intro _ _ h
    exact h.elim
