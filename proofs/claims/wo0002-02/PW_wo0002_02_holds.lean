import PyProof.Rows.All
import Wide.All
import OpenK.AllK
import Wide.FinOn
import KE.KStateDown
import KE.KTurns
import KE.KxDecode
import PySem.Challenge.RW_wo0002_02
set_option Elab.async false
set_option maxRecDepth 100000
set_option autoImplicit false
set_option linter.all false

namespace Mine
open PySem PySem.Calls

abbrev Never : Value → Shared → Prop := fun _ _ => False

inductive D where
  | none
  | bool (b : Bool)
  | int (i : Int)
  | str (x : Str)
  | bytes (b : Array UInt8)
  | tuple (ds : List D)
  | list (ds : List D)
  | range (a b c : Int)

mutual
inductive Rep (P : Addr → Obj → Prop) : Value → D → Prop
  | none : Rep P Value.none D.none
  | bool (b : Bool) : Rep P (Value.bool b) (D.bool b)
  | int (i : Int) (t : Tok) : Rep P (Value.int i t) (D.int i)
  | str (x : Str) (t : Tok) : Rep P (Value.str x t) (D.str x)
  | bytes (b : Array UInt8) (t : Tok) : Rep P (Value.bytes b t) (D.bytes b)
  | tuple {a : Addr} {vs : List Value} {n : Nat} {ds : List D} : P a { cls := .type "tuple", data := .seq vs.toArray n } → Reps P vs ds → Rep P (Value.ref a) (D.tuple ds)
  | list {a : Addr} {vs : List Value} {n : Nat} {ds : List D} : P a { cls := .type "list", data := .seq vs.toArray n } → Reps P vs ds → Rep P (Value.ref a) (D.list ds)
  | range {r : Addr} {a b c : Int} {t u v : Tok} : P r { cls := .type "range", data := .fields #[.int a t, .int b u, .int c v] } → Rep P (Value.ref r) (D.range a b c)
inductive Reps (P : Addr → Obj → Prop) : List Value → List D → Prop
  | nil : Reps P [] []
  | cons {v : Value} {vs : List Value} {d : D} {ds : List D} : Rep P v d → Reps P vs ds → Reps P (v :: vs) (d :: ds)
end

mutual
theorem Rep.mono {P P' : Addr → Obj → Prop} (h : ∀ a o, P a o → P' a o) : ∀ {v : Value} {d : D}, Rep P v d → Rep P' v d
  | _, _, .none => .none
  | _, _, .bool b => .bool b
  | _, _, .int i t => .int i t
  | _, _, .str x t => .str x t
  | _, _, .bytes b t => .bytes b t
  | _, _, .tuple x r => .tuple (h _ _ x) (Reps.mono h r)
  | _, _, .list x r => .list (h _ _ x) (Reps.mono h r)
  | _, _, .range x => .range (h _ _ x)
theorem Reps.mono {P P' : Addr → Obj → Prop} (h : ∀ a o, P a o → P' a o) : ∀ {vs : List Value} {ds : List D}, Reps P vs ds → Reps P' vs ds
  | _, _, .nil => .nil
  | _, _, .cons x r => .cons (Rep.mono h x) (Reps.mono h r)
end

section
variable {P : Addr → Obj → Prop} {v : Value} {vs ws : List Value} {d : D} {ds es : List D}
theorem Reps.length (h : Reps P vs ds) : vs.length = ds.length := by
  induction vs generalizing ds with
  | nil => cases h; rfl
  | cons v vs ih => cases h with | cons _ r => rw [List.length_cons, List.length_cons, ih r]
theorem Reps.append (h : Reps P vs ds) (k : Reps P ws es) : Reps P (vs ++ ws) (ds ++ es) := by
  induction vs generalizing ds with
  | nil => cases h; exact k
  | cons v vs ih => cases h with | cons h r => exact .cons h (ih r)
theorem Reps.one (h : Rep P v d) : Reps P [v] [d] := .cons h .nil
theorem Reps.get (h : Reps P vs ds) {k : Nat} {v : Value} (hk : vs[k]? = some v) : ∃ d, ds[k]? = some d ∧ Rep P v d := by
  induction vs generalizing ds k with
  | nil => cases hk
  | cons u vs ih =>
    cases h with
    | cons h r =>
      cases k with
      | zero => cases hk; exact ⟨_, rfl, h⟩
      | succ k => exact ih r hk
theorem Reps.get' (h : Reps P vs ds) {k : Nat} {d : D} (hk : ds[k]? = some d) : ∃ v, vs[k]? = some v ∧ Rep P v d := by
  induction vs generalizing ds k with
  | nil => cases h; cases hk
  | cons u vs ih =>
    cases h with
    | cons h r =>
      cases k with
      | zero => cases hk; exact ⟨_, rfl, h⟩
      | succ k => exact ih r hk
theorem Reps.take (h : Reps P vs ds) (n : Nat) : Reps P (vs.take n) (ds.take n) := by
  induction vs generalizing ds n with
  | nil => cases h; cases n <;> exact .nil
  | cons u vs ih =>
    cases h with
    | cons h r =>
      cases n with
      | zero => exact .nil
      | succ n => exact .cons h (ih r n)
theorem Reps.drop (h : Reps P vs ds) (n : Nat) : Reps P (vs.drop n) (ds.drop n) := by
  induction vs generalizing ds n with
  | nil => cases h; cases n <;> exact .nil
  | cons u vs ih =>
    cases h with
    | cons h r =>
      cases n with
      | zero => exact .cons h r
      | succ n => exact ih r n
end

def D.scalar : D → Bool
  | .tuple _ => false
  | .list _ => false
  | .range .. => false
  | _ => true
theorem Rep.scalar {P P' : Addr → Obj → Prop} {v : Value} {d : D} (h : Rep P v d) (hd : d.scalar = true) : Rep P' v d := by
  cases h with
  | none => exact .none
  | bool b => exact .bool b
  | int i t => exact .int i t
  | str x t => exact .str x t
  | bytes b t => exact .bytes b t
  | tuple _ _ => cases hd
  | list _ _ => cases hd
  | range _ => cases hd

/-- the generators: what stood stays, what is new is finished -/
structure GExt (g g' : Array GenState) : Prop where
  old : ∀ (i : Nat) (x : GenState), g[i]? = some x → g'[i]? = some x
  new : ∀ (i : Nat) (x : GenState), g[i]? = none → g'[i]? = some x → x = .finished
theorem GExt.refl (g : Array GenState) : GExt g g := ⟨fun _ _ h => h, fun i x h h' => by rw [h] at h'; cases h'⟩
theorem GExt.trans {g g' g'' : Array GenState} (h : GExt g g') (h' : GExt g' g'') : GExt g g'' := by
  refine ⟨fun i x e => h'.old i x (h.old i x e), fun i x e e' => ?_⟩
  cases hi : g'[i]? with
  | none => exact h'.new i x hi e'
  | some y =>
    have := h'.old i y hi
    rw [this] at e'
    cases e'
    exact h.new i _ e hi

/-- nothing old is changed; new things may stand -/
structure Gr (s s' : Shared) : Prop where
  drawn : s'.drawn = s.drawn
  os : s'.os = s.os
  heap : ∀ a o, s.heap.get? a = some o → s'.heap.get? a = some o
  gens : GExt s.gens s'.gens
theorem Gr.refl (s : Shared) : Gr s s := ⟨rfl, rfl, fun _ _ h => h, .refl _⟩
theorem Gr.trans {s s' s'' : Shared} (h : Gr s s') (k : Gr s' s'') : Gr s s'' := ⟨k.drawn.trans h.drawn, k.os.trans h.os, fun a o e => k.heap a o (h.heap a o e), h.gens.trans k.gens⟩
theorem Gr.keeps {s : Shared} {h' : Heap} {tk : Nat} (hk : ∀ a o, s.heap.get? a = some o → h'.get? a = some o) : Gr s { s with heap := h', toks := tk } := ⟨rfl, rfl, hk, .refl _⟩
theorem Gr.toks {s : Shared} {tk : Nat} : Gr s { s with toks := tk } := ⟨rfl, rfl, fun _ _ h => h, .refl _⟩
theorem Gr.push {s : Shared} {o : Obj} {tk : Nat} : Gr s { s with heap := s.heap.push o, toks := tk } := .keeps fun _ _ e => Heap.get?_push_of_some _ e
theorem Gr.push' {s : Shared} {o : Obj} : Gr s { s with heap := s.heap.push o } := .push

/-- o stands at a and no one of O is a -/
def Fz (O : List Addr) (h : Heap) (a : Addr) (o : Obj) : Prop := h.get? a = some o ∧ a ∉ O
theorem Gr.fz {s s' : Shared} (h : Gr s s') {O : List Addr} : ∀ a o, Fz O s.heap a o → Fz O s'.heap a o := fun a o x => ⟨h.heap a o x.1, x.2⟩
theorem Gr.rep {s s' : Shared} (h : Gr s s') {O : List Addr} {v : Value} {d : D} (r : Rep (Fz O s.heap) v d) : Rep (Fz O s'.heap) v d := r.mono h.fz
theorem Gr.reps {s s' : Shared} (h : Gr s s') {O : List Addr} {v : List Value} {d : List D} (r : Reps (Fz O s.heap) v d) : Reps (Fz O s'.heap) v d := r.mono h.fz

/-- the room around -/
structure Rm (n : Nat) (A : Around) : Prop where
  hh : A.handled = none
  dep : A.depth + n < recursionLimit
  un : A.units + 20 * n < cLine
theorem Rm.le {n m : Nat} {A : Around} (h : Rm n A) (hm : m ≤ n) : Rm m A := ⟨h.hh, by have := h.dep; omega, by have := h.un; omega⟩
theorem Rm.deeper {n : Nat} {A : Around} {env : Env} (h : Rm (n + 1) A) : Rm n (A.deeper env) :=
  ⟨h.hh, by have := h.dep; show A.depth + 1 + n < _; omega, by have := h.un; show A.units + 3 + 20 * n < _; omega⟩
theorem Rm.in1 {n : Nat} {A : Around} (h : Rm (n + 1) A) : Rm n A.in1 := ⟨h.hh, by have := h.dep; show A.depth + n < _; omega, by have := h.un; show A.units + 1 + 20 * n < _; omega⟩
theorem Rm.room {n : Nat} {A : Around} (h : Rm n A) : A.depth < recursionLimit := by have := h.dep; omega
theorem Rm.units {n : Nat} {A : Around} (h : Rm n A) : A.units < cLine := by have := h.un; omega

def Live (O : List Addr) (h : Heap) : Prop := ∀ a ∈ O, ∃ o, h.get? a = some o
theorem Live.gr {O : List Addr} {s s' : Shared} (l : Live O s.heap) (g : Gr s s') : Live O s'.heap := fun a ha => let ⟨o, ho⟩ := l a ha; ⟨o, g.heap a o ho⟩
theorem Live.size {O : List Addr} {h : Heap} (l : Live O h) : h.objs.size ∉ O := fun hm => let ⟨_, ho⟩ := l _ hm; Nat.lt_irrefl _ (Heap.lt_size ho)
theorem Live.fz {O : List Addr} {h : Heap} (l : Live O h) {o : Obj} (hf : o.isFreed = false) : Fz O (h.push o) h.objs.size o := ⟨Heap.get?_push_size _ hf, l.size⟩

/-- a tree gives the datum d, nothing old is changed -/
def To (prog : Program) (w : World) (A : Around) (O : List Addr) (s : Shared) (t : Sem Value) (d : D) : Prop :=
  ∀ Q : Value → Shared → Prop, (∀ v s₂, Gr s s₂ → Rep (Fz O s₂.heap) v d → Q v s₂) → wpAny (model prog w) A t Q Never s
def Tos (prog : Program) (w : World) (A : Around) (O : List Addr) (s : Shared) (t : Sem (List Value)) (ds : List D) : Prop :=
  ∀ Q : List Value → Shared → Prop, (∀ v s₂, Gr s s₂ → Reps (Fz O s₂.heap) v ds → Q v s₂) → wpAny (model prog w) A t Q Never s

section
variable {prog : Program} {w : World} {A : Around} {O O' : List Addr} {s : Shared} {t : Sem Value} {d d' : D}
theorem To.run (h : To prog w A O s t d) {Q : Value → Shared → Prop} {E : Value → Shared → Prop} (hQ : ∀ v s₂, Gr s s₂ → Rep (Fz O s₂.heap) v d → Q v s₂) : wpAny (model prog w) A t Q E s :=
  wpAny_mono (h Q hQ) (fun _ _ x => x) fun _ _ x => x.elim
theorem To.bind {f : Value → Sem Value} (h : To prog w A O s t d) (k : ∀ v s₂, Gr s s₂ → Rep (Fz O s₂.heap) v d → To prog w A O s₂ (f v) d') : To prog w A O s (t >>= f) d' := fun Q hQ =>
  wpAny_bind (h _ fun v s₂ g r => k v s₂ g r Q fun v' s₃ g' r' => hQ v' s₃ (g.trans g') r')
theorem To.weaken (h : To prog w A O s t d) (ho : ∀ a ∈ O', a ∈ O) : To prog w A O' s t d := fun Q hQ =>
  h Q fun v s₂ g r => hQ v s₂ g (r.mono fun a o x => ⟨x.1, fun hm => x.2 (ho a hm)⟩)
theorem To.scalar (h : To prog w A O s t d) (hd : d.scalar = true := by rfl) : To prog w A O' s t d := fun Q hQ =>
  h Q fun v s₂ g r => hQ v s₂ g (r.scalar hd)
theorem Tos.run {t : Sem (List Value)} {ds : List D} (h : Tos prog w A O s t ds) {Q : List Value → Shared → Prop} {E : Value → Shared → Prop} (hQ : ∀ v s₂, Gr s s₂ → Reps (Fz O s₂.heap) v ds → Q v s₂) : wpAny (model prog w) A t Q E s :=
  wpAny_mono (h Q hQ) (fun _ _ x => x) fun _ _ x => x.elim
end

/-- an expression gives the datum d, whatever new stands by then -/
def Ev (prog : Program) (w : World) (A : Around) (env : Env) (O : List Addr) (s : Shared) (e : Expr) (d : D) : Prop := ∀ s₁, Gr s s₁ → To prog w A O s₁ (eval e env) d
def Evs (prog : Program) (w : World) (A : Around) (env : Env) (O : List Addr) (s : Shared) (es : List Expr) (ds : List D) : Prop := ∀ s₁, Gr s s₁ → ∀ pos, Tos prog w A O s₁ (spliced (backTo pos (starEach es env))) ds

section
variable {prog : Program} {w : World} {A : Around} {env : Env} {O O' : List Addr} {s s' : Shared} {e : Expr} {d : D}
theorem Ev.gr (h : Ev prog w A env O s e d) (g : Gr s s') : Ev prog w A env O s' e d := fun s₁ g₁ => h s₁ (g.trans g₁)
theorem Ev.scalar (h : Ev prog w A env O s e d) (hd : d.scalar = true := by rfl) : Ev prog w A env O' s e d := fun s₁ g₁ => (h s₁ g₁).scalar hd
theorem Ev.now (h : Ev prog w A env O s e d) : To prog w A O s (eval e env) d := h s (.refl s)
theorem Ev.cast {d' : D} (h : Ev prog w A env O s e d) (e' : d = d') : Ev prog w A env O s e d' := e' ▸ h
theorem Evs.gr {es : List Expr} {ds : List D} (h : Evs prog w A env O s es ds) (g : Gr s s') : Evs prog w A env O s' es ds := fun s₁ g₁ => h s₁ (g.trans g₁)
theorem Evs.nil : Evs prog w A env O s [] [] := fun s₁ _ _ Q hQ => wpAny_pure (hQ _ _ (.refl _) .nil)
theorem Evs.cons {es : List Expr} {ds : List D} (h : Ev prog w A env O s e d) (hs : Evs prog w A env O s es ds) (he : starEach (e :: es) env = (false, eval e env) :: starEach es env := by rfl) :
    Evs prog w A env O s (e :: es) (d :: ds) := fun s₁ g₁ pos Q hQ => by
  rw [he]
  show wpAny _ A (spliced ((false, eval e env) :: backTo pos (starEach es env))) Q Never s₁
  refine spliced_cons (h s₁ g₁ _ fun v s₂ g₂ r => ?_)
  exact hs s₂ (g₁.trans g₂) pos _ fun vs s₃ g₃ rs => hQ _ _ (g₂.trans g₃) (.cons (g₃.rep r) rs)
end

/-- what a name gives in a frame -/
inductive Look (env : Env) (h : Heap) (x : Str) (v : Value) : Prop
  | loc {m : Str → Option Value} (hk : env.scope.kind = .function) (hl : env.kindOf x = some .local) (hn : h.Ns env.locals m) (hm : m x = some v) : Look env h x v
  | cel {c : Addr} (hk : env.scope.kind = .function) (hl : env.kindOf x = some .cell) (hc : env.cells.lookup x = some c) (hv : h.IsCell c (some v)) : Look env h x v
theorem Look.keeps {env : Env} {h h' : Heap} {x : Str} {v : Value} (l : Look env h x v) (hk : ∀ a o, h.get? a = some o → h'.get? a = some o) : Look env h' x v := by
  cases l with
  | loc a b c d => exact .loc a b (c.keeps hk) d
  | cel a b c d => exact .cel a b c (d.keeps hk)
def Var (env : Env) (O : List Addr) (s : Shared) (x : Str) (d : D) : Prop := ∃ v, Look env s.heap x v ∧ Rep (Fz O s.heap) v d
theorem Var.gr {env : Env} {O : List Addr} {s s' : Shared} {x : Str} {d : D} (h : Var env O s x d) (g : Gr s s') : Var env O s' x d := let ⟨v, l, r⟩ := h; ⟨v, l.keeps g.heap, g.rep r⟩
theorem Var.weaken {env : Env} {O O' : List Addr} {s : Shared} {x : Str} {d : D} (h : Var env O s x d) (ho : ∀ a ∈ O', a ∈ O) : Var env O' s x d :=
  let ⟨v, l, r⟩ := h; ⟨v, l, r.mono fun a _ x => ⟨x.1, fun hm => x.2 (ho a hm)⟩⟩

section
variable {prog : Program} {w : World} {A : Around} {env : Env} {O O' : List Addr} {s s' : Shared} {e : Expr} {d : D}
theorem Look.load {x : Str} {v : Value} {M : Model} {Q : Value → Shared → Prop} {E : Value → Shared → Prop} (l : Look env s.heap x v) (h : Q v s) : wpAny M A (loadName env x) Q E s := by
  cases l with
  | loc a b c d => exact wpAny_loadName_local a b c d h
  | cel a b c d => exact wpAny_loadName_cell a b c d h
theorem Ev.name {x : Str} {p : Pos} (h : Var env O s x d) (hd : (x == ("__debug__" : Str)) = false := by kernel_rfl) : Ev prog w A env O s (.Name x p) d := fun s₁ g Q hQ => by
  obtain ⟨v, l, r⟩ := h
  exact wpAny_Name ((l.keeps g.heap).load (hQ v s₁ (.refl _) (g.rep r))) hd
theorem Ev.int {i : Int} {k : Nat} {p : Pos} : Ev prog w A env O s (.Constant (.int i) k p) (.int i) := fun s₁ _ Q hQ => wpAny_Constant_int (hQ _ _ .toks (.int _ _))
theorem Ev.str {x : Str} {k : Nat} {p : Pos} : Ev prog w A env O s (.Constant (.str x) k p) (.str x) := fun s₁ _ Q hQ => Constant_str (hQ _ _ .toks (.str _ _))
end
end Mine

namespace Mine
open PySem PySem.Calls

/-- two values in, one out -/
def Op2 (prog : Program) (w : World) (A : Around) (O : List Addr) (f : Value → Value → Sem Value) (dl dr d : D) : Prop :=
  ∀ (s : Shared) (a b : Value), Live O s.heap → Rep (Fz O s.heap) a dl → Rep (Fz O s.heap) b dr → To prog w A O s (f a b) d

section
variable {prog : Program} {w : World} {A : Around} {env : Env} {O O' : List Addr} {s s' : Shared} {e l r : Expr} {d dl dr : D} {k : Nat} {p : Pos}
theorem Ev.bytes {b : List UInt8} : Ev prog w A env O s (.Constant (.bytes b) k p) (.bytes b.toArray) := fun s₁ _ Q hQ => by
  show wpAny _ A (mkTextBytes b.toArray) Q Never s₁
  intro _ _ _
  exact hQ _ { s₁ with toks := s₁.toks + 1 } .toks (.bytes _ _)
theorem Ev.cnone : Ev prog w A env O s (.Constant .none k p) .none := fun s₁ _ Q hQ => wpAny_Constant_none (hQ _ _ (.refl _) .none)
theorem Ev.bool {b : Bool} : Ev prog w A env O s (.Constant (.bool b) k p) (.bool b) := fun s₁ _ Q hQ => wpAny_Constant_bool (hQ _ _ (.refl _) (.bool _))

theorem Ev.bin {op : Operator} (hl : Ev prog w A env O s l dl) (hr : Ev prog w A env O s r dr) (lv : Live O s.heap) (h : Op2 prog w A O (binaryOp op) dl dr d) : Ev prog w A env O s (.BinOp l op r p) d := fun s₁ g Q hQ =>
  wpAny_BinOp (hl s₁ g _ fun a s₂ g₂ ra => hr s₂ (g.trans g₂) _ fun b s₃ g₃ rb => h s₃ a b (lv.gr (g.trans (g₂.trans g₃))) (g₃.rep ra) rb Q fun v s₄ g₄ rv => hQ v s₄ (g₂.trans (g₃.trans g₄)) rv)

theorem op_addI {a b : Int} : Op2 prog w A O (binaryOp .Add) (.int a) (.int b) (.int (a + b)) := fun s u v _ hu hv Q hQ => by
  cases hu; cases hv; exact wpAny_add_int (hQ _ _ .toks (.int _ _))
theorem op_subI {a b : Int} : Op2 prog w A O (binaryOp .Sub) (.int a) (.int b) (.int (a - b)) := fun s u v _ hu hv Q hQ => by
  cases hu; cases hv; exact P.sub_int (hQ _ _ .toks (.int _ _))
theorem op_modI {a b : Int} (hb : b ≠ 0) : Op2 prog w A O (binaryOp .Mod) (.int a) (.int b) (.int (a.fmod b)) := fun s u v _ hu hv Q hQ => by
  cases hu; cases hv; exact PyProof.Rows.mod_int' hb (hQ _ _ .toks (.int _ _))
theorem op_divI {a b : Int} (hb : b ≠ 0) (hp : Builtin.divisionGoesByPylong a b = false) : Op2 prog w A O (binaryOp .FloorDiv) (.int a) (.int b) (.int (a.fdiv b)) := fun s u v _ hu hv Q hQ => by
  cases hu; cases hv; exact PyProof.Rows.floordiv_int hb (hQ _ _ .toks (.int _ _)) (.inl hp)
theorem op_mulI {a b : Int} (hm : IntMulOk a b) : Op2 prog w A O (binaryOp .Mult) (.int a) (.int b) (.int (a * b)) := fun s u v _ hu hv Q hQ => by
  cases hu; cases hv; exact P.mul_int (hQ _ _ .toks (.int _ _)) hm
theorem op_addS {x y : Str} (hz : x.length + y.length ≤ sizeLine) : Op2 prog w A O (binaryOp .Add) (.str x) (.str y) (.str (x ++ y)) := fun s u v _ hu hv Q hQ => by
  cases hu; cases hv; exact SB.add (fun t' k => hQ _ _ .toks (.str _ _)) hz
theorem op_mulS {x : Str} {n : Int} (hm : MulOk x n) : Op2 prog w A O (binaryOp .Mult) (.str x) (.int n) (.str (Txt.mul x n)) := fun s u v _ hu hv Q hQ => by
  cases hu; cases hv; exact SB.mul hm (fun t' k => hQ _ _ .toks (.str _ _))
theorem op_addL {x y : List D} (hz : x.length + y.length ≤ sizeLine) : Op2 prog w A O (binaryOp .Add) (.list x) (.list y) (.list (x ++ y)) := fun s u v lv hu hv Q hQ => by
  cases hu with
  | @list l vs n _ hl rl =>
    cases hv with
    | @list b ws m _ hb rb =>
      have e : vs.toArray ++ ws.toArray = (vs ++ ws).toArray := by simp
      refine concat_meets ⟨_, hl.1, rfl⟩ ⟨_, hb.1, rfl⟩ noFill_list_add seq_list_add PySem.F.slot_list_add PySem.F.entry_list_add (PySem.F.args_list_add_2 _ _) (PyProof.Rows.list_addW l b vs.toArray ws.toArray n m _ _ _ _ (by simpa [rl.length, rb.length] using hz)) ⟨hl.1, hb.1, ?_⟩
      rw [e]
      exact hQ _ _ .push' (.list (n := 0) (lv.fz rfl) ((Gr.push'.reps rl).append (Gr.push'.reps rb)))

theorem Ev.cmp {op : CmpOp} (hl : Ev prog w A env O s l dl) (hr : Ev prog w A env O s r dr) (lv : Live O s.heap) (h : Op2 prog w A O (compareOp op) dl dr d) (hm : behindInMarks op r = false := by with_unfolding_all rfl) :
    Ev prog w A env O s (.Compare l [op] [r] p) d := fun s₁ g Q hQ =>
  wpAny_Compare1 (hl s₁ g _ fun a s₂ g₂ ra => hr s₂ (g.trans g₂) _ fun b s₃ g₃ rb => h s₃ a b (lv.gr (g.trans (g₂.trans g₃))) (g₃.rep ra) rb Q fun v s₄ g₄ rv => hQ v s₄ (g₂.trans (g₃.trans g₄)) rv) hm


theorem op_eqI {a b : Int} : Op2 prog w A O (compareOp .Eq) (.int a) (.int b) (.bool (a == b)) := fun s u v _ hu hv Q hQ => by
  cases hu; cases hv; exact P.eq_int (hQ _ _ (.refl _) (.bool _))
theorem op_neI {a b : Int} : Op2 prog w A O (compareOp .NotEq) (.int a) (.int b) (.bool (a != b)) := fun s u v _ hu hv Q hQ => by
  cases hu; cases hv; exact P.ne_int (hQ _ _ (.refl _) (.bool _))
theorem op_ltI {a b : Int} : Op2 prog w A O (compareOp .Lt) (.int a) (.int b) (.bool (decide (a < b))) := fun s u v _ hu hv Q hQ => by
  cases hu; cases hv; exact P.lt_int (hQ _ _ (.refl _) (.bool _))
theorem op_leI {a b : Int} : Op2 prog w A O (compareOp .LtE) (.int a) (.int b) (.bool (decide (a ≤ b))) := fun s u v _ hu hv Q hQ => by
  cases hu; cases hv; exact P.le_int (hQ _ _ (.refl _) (.bool _))
theorem op_gtI {a b : Int} : Op2 prog w A O (compareOp .Gt) (.int a) (.int b) (.bool (decide (b < a))) := fun s u v _ hu hv Q hQ => by
  cases hu; cases hv; exact P.gt_int (hQ _ _ (.refl _) (.bool _))
theorem op_eqS {x y : Str} : Op2 prog w A O (compareOp .Eq) (.str x) (.str y) (.bool (x == y)) := fun s u v _ hu hv Q hQ => by
  cases hu; cases hv; exact PyProof.Rows.eq_str (hQ _ _ (.refl _) (.bool _))
theorem op_neS {x y : Str} : Op2 prog w A O (compareOp .NotEq) (.str x) (.str y) (.bool (x != y)) := fun s u v _ hu hv Q hQ => by
  cases hu; cases hv; exact PyProof.Rows.ne_str (hQ _ _ (.refl _) (.bool _))
theorem op_isNone {d₁ : D} : Op2 prog w A O (compareOp .Is) d₁ .none (.bool (match d₁ with | .none => true | _ => false)) := fun s u v _ hu hv Q hQ => by
  cases hv
  cases hu <;> exact is_none (hQ _ _ (.refl _) (.bool _))
theorem op_inS {x y : Str} : Op2 prog w A O (compareOp .In) (.str y) (.str x) (.bool (Txt.contains x y)) := fun s u v _ hu hv Q hQ => by
  cases hu; cases hv; exact SB.contains (hQ _ _ (.refl _) (.bool _))
theorem op_notInS {x y : Str} : Op2 prog w A O (compareOp .NotIn) (.str y) (.str x) (.bool (!Txt.contains x y)) := fun s u v _ hu hv Q hQ => by
  cases hu; cases hv; exact SB.notContains (hQ _ _ (.refl _) (.bool _))

theorem Ev.neg {x : Expr} {a : Int} (h : Ev prog w A env O s x (.int a)) : Ev prog w A env O s (.UnaryOp .USub x p) (.int (-a)) := fun s₁ g Q hQ => by
  show wpAny _ A (do let v ← eval x env; standAt p; holding [v] (unaryOp .USub v)) Q Never s₁
  refine wpAny_bind (h s₁ g _ fun v s₂ g₂ r => ?_)
  cases r
  exact wpAny_bind (wpAny_standAt (wpAny_holding (P.neg_int (hQ _ _ (g₂.trans .toks) (.int _ _)))))

/-- a test -/
def Tr (prog : Program) (w : World) (A : Around) (env : Env) (s : Shared) (e : Expr) (b : Bool) : Prop :=
  ∀ s₁, Gr s s₁ → ∀ Q : Bool → Shared → Prop, (∀ s₂, Gr s₁ s₂ → Q b s₂) → wpAny (model prog w) A (isTrue e env (eval e env)) Q Never s₁
theorem Tr.gr {b : Bool} (h : Tr prog w A env s e b) (g : Gr s s') : Tr prog w A env s' e b := fun s₁ g₁ => h s₁ (g.trans g₁)
theorem Tr.cmp {op : CmpOp} {b : Bool} (hl : Ev prog w A env O s l dl) (hr : Ev prog w A env O s r dr) (lv : Live O s.heap) (h : Op2 prog w A O (compareOp op) dl dr (.bool b)) (hm : behindInMarks op r = false := by with_unfolding_all rfl) :
    Tr prog w A env s (.Compare l [op] [r] p) b := fun s₁ g Q hQ =>
  wpAny_isTrue_Compare1 (hl s₁ g _ fun a s₂ g₂ ra => hr s₂ (g.trans g₂) _ fun c s₃ g₃ rb => h s₃ a c (lv.gr (g.trans (g₂.trans g₃))) (g₃.rep ra) rb _ fun v s₄ g₄ rv => by
    cases rv
    exact wpAny_truthy_bool (hQ _ (g₂.trans (g₃.trans g₄)))) hm
theorem Tr.name {x : Str} {b : Bool} (h : Ev prog w A env O s (.Name x p) (.bool b)) : Tr prog w A env s (.Name x p) b := fun s₁ g Q hQ => by
  show wpAny _ A (do let v ← eval (.Name x p) env; standAt p; holding [v] (truthy v)) Q Never s₁
  refine wpAny_bind (h s₁ g _ fun v s₂ g₂ r => ?_)
  cases r
  exact wpAny_bind (wpAny_standAt (wpAny_holding (wpAny_truthy_bool (hQ _ g₂))))
theorem Ev.ite {test : Expr} {b : Bool} (ht : Tr prog w A env s test b) (h1 : b = true → Ev prog w A env O s l d) (h2 : b = false → Ev prog w A env O s r d) : Ev prog w A env O s (.IfExp test l r p) d := fun s₁ g Q hQ => by
  rw [PyProof.Rows.eval_IfExp]
  refine wpAny_bind (ht s₁ g _ fun s₂ g₂ => ?_)
  cases b with
  | true => exact h1 rfl s₂ (g.trans g₂) Q fun v s₃ g₃ r => hQ v s₃ (g₂.trans g₃) r
  | false => exact h2 rfl s₂ (g.trans g₂) Q fun v s₃ g₃ r => hQ v s₃ (g₂.trans g₃) r

/-- a slice's end -/
def D.part : Option Int → D
  | Option.none => .none
  | some i => .int i
def EvP (prog : Program) (w : World) (A : Around) (env : Env) (s : Shared) (e : Option Expr) (i : Option Int) : Prop := ∀ s₁, Gr s s₁ → To prog w A [] s₁ (evalPart e env) (D.part i)
theorem EvP.none : EvP prog w A env s Option.none Option.none := fun s₁ _ Q hQ => by
  rw [evalPart_none]; exact wpAny_pure (hQ _ _ (.refl _) .none)
theorem EvP.some {i : Int} (h : Ev prog w A env O s e (.int i)) : EvP prog w A env s (some e) (some i) := fun s₁ g => by
  rw [evalPart_some]; exact (h s₁ g).scalar

theorem Ev.sub {value slice : Expr} {pos : Pos} (hv : Ev prog w A env O s value dl) (hi : Ev prog w A env O s slice dr) (lv : Live O s.heap) (h : Op2 prog w A O (PyProof.Rows.subscriptTail value slice) dl dr d) :
    Ev prog w A env O s (.Subscript value slice pos) d := fun s₁ g Q hQ =>
  PyProof.Rows.Subscript_ (hv s₁ g _ fun a s₂ g₂ ra => hi s₂ (g.trans g₂) _ fun b s₃ g₃ rb => h s₃ a b (lv.gr (g.trans (g₂.trans g₃))) (g₃.rep ra) rb Q fun v s₄ g₄ rv => hQ v s₄ (g₂.trans (g₃.trans g₄)) rv)

theorem op_itemL {value slice : Expr} {ds : List D} {i : Int} (h0 : 0 ≤ i) (hf : i < 2 ^ 63) (hd : ds[i.toNat]? = some d)
    (hs : ∀ l u, subscripted slice false (.ref l) (.int i u) = operate [.ref l, .int i u] (getItem (.ref l) (.int i u)) := by intro _ _; with_unfolding_all rfl) :
    Op2 prog w A O (PyProof.Rows.subscriptTail value slice) (.list ds) (.int i) d := fun s u v _ hu hv Q hQ => by
  cases hv
  cases hu with
  | @list l vs n _ hl rl =>
    obtain ⟨x, hx, rx⟩ := rl.get' hd
    have hL : s.heap.IsList l vs.toArray := ⟨_, hl.1, rfl, n, rfl⟩
    exact PyProof.Rows.tail_any hL.typeIs slot_list_getitem.lookup (wpAny_getItem_list hL h0 hf (by simpa using hx) (hQ _ _ (.refl _) rx)) (hs _ _)
theorem op_itemLn {value slice : Expr} {ds : List D} {i : Int} (h0 : i < 0) (h1 : -(ds.length : Int) ≤ i) (hf : -(2 ^ 63) ≤ i) (hd : ds[(i + ds.length).toNat]? = some d)
    (hs : ∀ l u, subscripted slice false (.ref l) (.int i u) = operate [.ref l, .int i u] (getItem (.ref l) (.int i u)) := by intro _ _; with_unfolding_all rfl) :
    Op2 prog w A O (PyProof.Rows.subscriptTail value slice) (.list ds) (.int i) d := fun s u v _ hu hv Q hQ => by
  cases hv
  cases hu with
  | @list l vs n _ hl rl =>
    obtain ⟨x, hx, rx⟩ := rl.get' hd
    have hL : s.heap.IsList l vs.toArray := ⟨_, hl.1, rfl, n, rfl⟩
    have hz : vs.toArray.size = ds.length := by simpa using rl.length
    exact PyProof.Rows.tail_any hL.typeIs slot_list_getitem.lookup (wpAny_getItem_list_neg hL h0 (by rw [hz]; exact h1) hf (by rw [hz]; simpa using hx) (hQ _ _ (.refl _) rx)) (hs _ _)
theorem op_itemT {value slice : Expr} {ds : List D} {i : Int} (h0 : 0 ≤ i) (hf : i < 2 ^ 63) (hd : ds[i.toNat]? = some d)
    (hs : ∀ l u, subscripted slice false (.ref l) (.int i u) = operate [.ref l, .int i u] (getItem (.ref l) (.int i u)) := by intro _ _; with_unfolding_all rfl) :
    Op2 prog w A O (PyProof.Rows.subscriptTail value slice) (.tuple ds) (.int i) d := fun s u v _ hu hv Q hQ => by
  cases hv
  cases hu with
  | @tuple l vs n _ hl rl =>
    obtain ⟨x, hx, rx⟩ := rl.get' hd
    have hj : seqIndex? i vs.length = some i.toNat := by
      have hlt : i.toNat < vs.length := (List.getElem?_eq_some_iff.mp hx).1
      unfold seqIndex?
      simp only [show ¬ i < 0 by omega, if_false]
      rw [if_pos (by simp only [Bool.and_eq_true, decide_eq_true_eq]; omega)]
    exact PyProof.Rows.item_tupleT (j := i.toNat) ⟨_, hl.1, rfl, n, rfl⟩ (by omega) hf hj hx (hQ _ _ (.refl _) rx) (hs _ _)

theorem Ev.sliceS {value : Expr} {lower upper : Option Expr} {lo hi : Option Int} {x : Str} {pos : Pos} (hv : Ev prog w A env O s value (.str x)) (h1 : EvP prog w A env s lower lo) (h2 : EvP prog w A env s upper hi) (hz : x.length ≤ sizeLine) :
    Ev prog w A env O s (.Subscript value (.Slice lower upper none p) pos) (.str (Txt.slice x lo hi)) := fun s₁ g Q hQ => by
  refine PyProof.Rows.Subscript_ (hv s₁ g _ fun a s₂ g₂ ra => wpAny_Slice (h1 s₂ (g.trans g₂) _ fun b s₃ g₃ rb => h2 s₃ (g.trans (g₂.trans g₃)) _ fun c s₄ g₄ rc => ?_))
  rw [evalPart_none]
  refine wpAny_pure ?_
  cases ra with
  | str _ t =>
    have fin : ∀ (vl vu : Value) (l u : Option (Int × Tok)), vl = partValue l → vu = partValue u → l.map (·.1) = lo → u.map (·.1) = hi →
        wpAny (model prog w) A (PyProof.Rows.subscriptTail value (.Slice lower upper none p) (.str x t) (.ref s₄.heap.objs.size)) Q Never { s₄ with heap := s₄.heap.push { cls := .type "slice", data := .fields #[vl, vu, .none] } } := by
      rintro vl vu l u rfl rfl rfl rfl
      refine PyProof.Rows.tail_any (ops := [.ref s₄.heap.objs.size, .str x t]) (typeIs_str _ x t) F.slot_str_getitem.lookup (wpAny_getItem_str_slice (l := l) (u := u) (st := none) ⟨_, Heap.get?_push_size _ rfl, rfl, rfl⟩ rfl ?_) rfl
      exact post_val_or_str ⟨Nat.le_trans (Txt.slice_le x _ _) hz, fun t' k => hQ _ _ (g₂.trans (g₃.trans (g₄.trans .push))) (.str _ _)⟩
    cases lo with
    | none =>
      cases rb
      cases hi with
      | none => cases rc; exact fin _ _ none none rfl rfl rfl rfl
      | some j => cases rc with | int _ t' => exact fin _ _ none (some (j, t')) rfl rfl rfl rfl
    | some i =>
      cases rb with
      | int _ tb =>
      cases hi with
      | none => cases rc; exact fin _ _ (some (i, tb)) none rfl rfl rfl rfl
      | some j => cases rc with | int _ t' => exact fin _ _ (some (i, tb)) (some (j, t')) rfl rfl rfl rfl

/-- a list's part -/
def lpick {α : Type} (xs : List α) (lo hi : Option Int) : List α :=
  (sliceRange (sliceBounds lo hi none xs.length).1 (sliceBounds lo hi none xs.length).2.1 (sliceBounds lo hi none xs.length).2.2).filterMap (xs[·]?)
theorem Reps.pick {P : Addr → Obj → Prop} {vs : List Value} {ds : List D} (h : Reps P vs ds) : ∀ is : List Nat, Reps P (is.filterMap (vs[·]?)) (is.filterMap (ds[·]?))
  | [] => .nil
  | i :: is => by
    cases hv : vs[i]? with
    | none =>
      have hd : ds[i]? = none := by
        rw [List.getElem?_eq_none_iff] at hv ⊢; rw [← h.length]; exact hv
      simp only [List.filterMap_cons, hv, hd]
      exact Reps.pick h is
    | some v =>
      obtain ⟨d, hd, r⟩ := h.get hv
      simp only [List.filterMap_cons, hv, hd]
      exact .cons r (Reps.pick h is)
theorem Ev.sliceL {value : Expr} {lower upper : Option Expr} {lo hi : Option Int} {ds : List D} {pos : Pos} (hv : Ev prog w A env O s value (.list ds)) (h1 : EvP prog w A env s lower lo) (h2 : EvP prog w A env s upper hi) (lv : Live O s.heap) (hz : ds.length ≤ sizeLine) :
    Ev prog w A env O s (.Subscript value (.Slice lower upper none p) pos) (.list (lpick ds lo hi)) := fun s₁ g Q hQ => by
  refine PyProof.Rows.Subscript_ (hv s₁ g _ fun a s₂ g₂ ra => wpAny_Slice (h1 s₂ (g.trans g₂) _ fun b s₃ g₃ rb => h2 s₃ (g.trans (g₂.trans g₃)) _ fun c s₄ g₄ rc => ?_))
  rw [evalPart_none]
  refine wpAny_pure ?_
  have ra4 := (g₃.trans g₄).rep ra
  have lv4 := lv.gr (g.trans (g₂.trans (g₃.trans g₄)))
  cases ra4 with
  | @list l vs n _ hl rl =>
    have fin : ∀ (vl vu : Value), IsPart vl lo → IsPart vu hi →
        wpAny (model prog w) A (PyProof.Rows.subscriptTail value (.Slice lower upper none p) (.ref l) (.ref s₄.heap.objs.size)) Q Never { s₄ with heap := s₄.heap.push { cls := .type "slice", data := .fields #[vl, vu, .none] } } := by
      intro vl vu pl pu
      have g5 : Gr s₄ { s₄ with heap := s₄.heap.push { cls := .type "slice", data := .fields #[vl, vu, .none] } } := .push'
      have hL : (s₄.heap.push { cls := .type "slice", data := .fields #[vl, vu, .none] }).IsList l vs.toArray := ⟨_, (g5.fz _ _ hl).1, rfl, n, rfl⟩
      refine PyProof.Rows.tail_any (ops := [.ref s₄.heap.objs.size, .ref l]) hL.typeIs list_getitem_lookup
        (wpAny_getItem_list_slice hL (Heap.IsSliceOf.new ..) pl pu .none (by simp) ?_ (by simpa [rl.length] using hz)) rfl
      refine hQ _ _ (g₂.trans (g₃.trans (g₄.trans (g5.trans .push')))) ?_
      have e : slicePick vs.toArray lo hi none = (lpick vs lo hi).toArray := by simp [slicePick, lpick]
      rw [e]
      refine .list (n := 0) (Live.fz (lv4.gr g5) rfl) ?_
      have hlen := rl.length
      have := Reps.pick (rl.mono (g5.trans (Gr.push' (o := { cls := .type "list", data := .seq (lpick vs lo hi).toArray }))).fz) (sliceRange (sliceBounds lo hi none vs.length).1 (sliceBounds lo hi none vs.length).2.1 (sliceBounds lo hi none vs.length).2.2)
      unfold lpick
      rw [← hlen]
      exact this
    cases lo with
    | none =>
      cases rb
      cases hi with
      | none => cases rc; exact fin _ _ .none .none
      | some j => cases rc with | int _ t' => exact fin _ _ .none (.int _ _)
    | some i =>
      cases rb with
      | int _ tb =>
      cases hi with
      | none => cases rc; exact fin _ _ (.int _ _) .none
      | some j => cases rc with | int _ t' => exact fin _ _ (.int _ _) (.int _ _)

theorem Ev.list {es : List Expr} {ds : List D} (h : Evs prog w A env O s es ds) (lv : Live O s.heap) (hz : ds.length ≤ sizeLine) : Ev prog w A env O s (.List es p) (.list ds) := fun s₁ g Q hQ =>
  PyProof.Rows.List_ (h s₁ g p _ fun vs s₂ g₂ rs => by
    refine wpAny_newObj_type ?_ (by show vs.toArray.size ≤ sizeLine; simpa [rs.length] using hz)
    exact hQ _ _ (g₂.trans .push') (.list (n := 0) ((lv.gr (g.trans g₂)).fz rfl) (Gr.push'.reps rs)))
theorem Ev.tuple {es : List Expr} {ds : List D} (h : Evs prog w A env O s es ds) (lv : Live O s.heap) (hz : ds.length ≤ sizeLine) : Ev prog w A env O s (.Tuple es k p) (.tuple ds) := fun s₁ g Q hQ =>
  PyProof.Rows.Tuple_ (h s₁ g p _ fun vs s₂ g₂ rs => by
    refine wpAny_newObj_type ?_ (by show vs.toArray.size ≤ sizeLine; simpa [rs.length] using hz)
    exact hQ _ _ (g₂.trans .push') (.tuple (n := 0) ((lv.gr (g.trans g₂)).fz rfl) (Gr.push'.reps rs)))
end
end Mine

namespace Mine
open PySem PySem.Calls

/-- what a name of a frame holds: a datum, or a value told as it is -/
inductive Sl where
  | dat (d : D)
  | raw (v : Value)
/-- what a list of the frame's own holds -/
inductive Wn where
  | lst (ds : List D)
  | raw (vs : List Value)

structure Fx where
  prog : Program
  w : World
  A : Around
  env : Env
  O : List Addr
  B : Addr → Obj → Prop
  wc : List Addr
  s₀ : Shared

def Fx.own (F : Fx) (μ : List (Addr × Wn)) : List Addr := F.env.locals :: (F.wc ++ μ.map (·.1))
def Fx.all (F : Fx) (μ : List (Addr × Wn)) : List Addr := F.own μ ++ F.O

def got (env : Env) (lm cm : Str → Option Value) (x : Str) : Option Value :=
  match env.kindOf x with
  | some .local => lm x
  | some .cell => match env.cells.lookup x with
    | some _ => cm x
    | none => none
  | _ => none
def Sl.ok (P : Addr → Obj → Prop) (v : Value) : Sl → Prop
  | .dat d => Rep P v d
  | .raw u => v = u
def Wn.ok (P : Addr → Obj → Prop) (vs : List Value) : Wn → Prop
  | .lst ds => Reps P vs ds
  | .raw us => vs = us
theorem Sl.ok.mono {P P' : Addr → Obj → Prop} (h : ∀ a o, P a o → P' a o) {v : Value} : ∀ {sl : Sl}, sl.ok P v → sl.ok P' v
  | .dat _, r => Rep.mono h r
  | .raw _, r => r
theorem Wn.ok.mono {P P' : Addr → Obj → Prop} (h : ∀ a o, P a o → P' a o) {v : List Value} : ∀ {sl : Wn}, sl.ok P v → sl.ok P' v
  | .lst _, r => Reps.mono h r
  | .raw _, r => r

structure Inv (F : Fx) (s : Shared) (σ : List (Str × Sl)) (μ : List (Addr × Wn)) : Prop where
  kind : F.env.scope.kind = .function
  drawn : s.drawn = F.s₀.drawn
  os : s.os = F.s₀.os
  gens : GExt F.s₀.gens s.gens
  base : ∀ a o, F.B a o → s.heap.get? a = some o ∧ a ∉ F.own μ
  apart : ∀ a ∈ F.O, a ∉ F.own μ
  live : Live F.O s.heap
  nodup : (F.own μ).Nodup
  roc : ∀ n c, F.env.cells.lookup n = some c → c ∈ F.wc ∨ c ∉ F.own μ
  inj : ∀ n n' c, F.env.cells.lookup n = some c → F.env.cells.lookup n' = some c → c ∈ F.wc → n = n'
  mem : ∃ lm cm, s.heap.Ns F.env.locals lm ∧ (∀ n c, F.env.cells.lookup n = some c → s.heap.IsCell c (cm n)) ∧ (∀ c ∈ F.wc, ∃ v, s.heap.IsCell c v) ∧
    ∀ x sl, σ.lookup x = some sl → ∃ v, got F.env lm cm x = some v ∧ sl.ok (Fz (F.all μ) s.heap) v
  muts : ∀ a w, (a, w) ∈ μ → ∃ vs n, s.heap.get? a = some { cls := .type "list", data := .seq vs.toArray n } ∧ w.ok (Fz (F.all μ) s.heap) vs

theorem Heap.Ns.unique {h : Heap} {a : Addr} {m m' : Str → Option Value} (x : h.Ns a m) (y : h.Ns a m') : m = m' := by
  obtain ⟨o, es, ep, ho, hd, _, hm⟩ := x
  obtain ⟨o', es', ep', ho', hd', _, hm'⟩ := y
  rw [ho] at ho'
  cases ho'
  rw [hd] at hd'
  cases hd'
  funext n
  rw [← hm, ← hm']

section
variable {F : Fx} {s s' : Shared} {σ σ' : List (Str × Sl)} {μ : List (Addr × Wn)}

theorem Inv.liveAll (I : Inv F s σ μ) : Live (F.all μ) s.heap := by
  obtain ⟨lm, cm, hn, hc, hcs, hv⟩ := I.mem
  intro a ha
  rcases List.mem_append.mp ha with ha | ha
  · rcases List.mem_cons.mp ha with rfl | ha
    · obtain ⟨o, _, _, ho, _⟩ := hn; exact ⟨o, ho⟩
    · rcases List.mem_append.mp ha with ha | ha
      · obtain ⟨v, o, ho, _⟩ := hcs a ha; exact ⟨o, ho⟩
      · obtain ⟨⟨b, w⟩, hm, rfl⟩ := List.mem_map.mp ha
        obtain ⟨vs, n, ho, _⟩ := I.muts b w hm
        exact ⟨_, ho⟩
  · exact I.live a ha

theorem Inv.look (I : Inv F s σ μ) {x : Str} {sl : Sl} (hx : σ.lookup x = some sl) : ∃ v, Look F.env s.heap x v ∧ sl.ok (Fz (F.all μ) s.heap) v := by
  obtain ⟨lm, cm, hn, hc, hcs, hv⟩ := I.mem
  obtain ⟨v, hg, hr⟩ := hv x sl hx
  refine ⟨v, ?_, hr⟩
  unfold got at hg
  cases hk : F.env.kindOf x with
  | none => simp [hk] at hg
  | some k =>
    cases k with
    | «local» => simp only [hk] at hg; exact .loc I.kind hk hn hg
    | cell =>
      simp only [hk] at hg
      cases hl : F.env.cells.lookup x with
      | none => simp [hl] at hg
      | some c =>
        simp only [hl] at hg
        have := hc x c hl
        rw [hg] at this
        exact .cel I.kind hk hl this
    | _ => simp [hk] at hg
theorem Inv.var (I : Inv F s σ μ) {x : Str} {d : D} (hx : σ.lookup x = some (.dat d)) : Var F.env (F.all μ) s x d := let ⟨v, l, r⟩ := I.look hx; ⟨v, l, r⟩
theorem Inv.raw (I : Inv F s σ μ) {x : Str} {v : Value} (hx : σ.lookup x = some (.raw v)) : Look F.env s.heap x v := by
  obtain ⟨u, l, rfl⟩ := I.look hx; exact l
/-- what a list of the frame's own is to a reader -/
theorem Inv.own (I : Inv F s σ μ) {a : Addr} {ds : List D} (hm : (a, Wn.lst ds) ∈ μ) : Rep (Fz F.O s.heap) (.ref a) (.list ds) := by
  obtain ⟨vs, n, ho, hr⟩ := I.muts a _ hm
  refine .list ⟨ho, fun h => I.apart a h ?_⟩ (Reps.mono (fun b o x => ⟨x.1, fun h => x.2 (List.mem_append.mpr (.inr h))⟩) hr)
  exact List.mem_cons_of_mem _ (List.mem_append.mpr (.inr (List.mem_map.mpr ⟨_, hm, rfl⟩)))
theorem Inv.varOwn (I : Inv F s σ μ) {x : Str} {a : Addr} {ds : List D} (hx : σ.lookup x = some (.raw (.ref a))) (hm : (a, Wn.lst ds) ∈ μ) : Var F.env F.O s x (.list ds) :=
  ⟨_, I.raw hx, I.own hm⟩
theorem Inv.varOld (I : Inv F s σ μ) {x : Str} {d : D} (hx : σ.lookup x = some (.dat d)) : Var F.env F.O s x d := (I.var hx).weaken fun a h => List.mem_append.mpr (.inr h)

theorem Inv.gr (I : Inv F s σ μ) (g : Gr s s') : Inv F s' σ μ where
  kind := I.kind
  drawn := g.drawn.trans I.drawn
  os := g.os.trans I.os
  gens := I.gens.trans g.gens
  base := fun a o h => ⟨g.heap a o (I.base a o h).1, (I.base a o h).2⟩
  apart := I.apart
  live := I.live.gr g
  nodup := I.nodup
  roc := I.roc
  inj := I.inj
  mem := by
    obtain ⟨lm, cm, hn, hc, hcs, hv⟩ := I.mem
    refine ⟨lm, cm, hn.keeps g.heap, fun n c h => (hc n c h).keeps g.heap, fun c h => let ⟨v, x⟩ := hcs c h; ⟨v, x.keeps g.heap⟩, fun x sl h => ?_⟩
    obtain ⟨v, h1, h2⟩ := hv x sl h
    exact ⟨v, h1, h2.mono g.fz⟩
  muts := fun a w h => let ⟨vs, n, ho, hr⟩ := I.muts a w h; ⟨vs, n, g.heap _ _ ho, hr.mono g.fz⟩

theorem Inv.sub (I : Inv F s σ μ) (h : ∀ x sl, σ'.lookup x = some sl → σ.lookup x = some sl) : Inv F s σ' μ where
  kind := I.kind
  drawn := I.drawn
  os := I.os
  gens := I.gens
  base := I.base
  apart := I.apart
  live := I.live
  nodup := I.nodup
  roc := I.roc
  inj := I.inj
  mem := by
    obtain ⟨lm, cm, hn, hc, hcs, hv⟩ := I.mem
    exact ⟨lm, cm, hn, hc, hcs, fun x sl e => hv x sl (h x sl e)⟩
  muts := I.muts

/-- every entry of the one list stands in the other one -/
def Subs : List (Str × Sl) → List (Str × Sl) → Prop
  | [], _ => True
  | (x, sl) :: r, σ => σ.lookup x = some sl ∧ Subs r σ
theorem Subs.lookup : ∀ {σ' : List (Str × Sl)}, Subs σ' σ → ∀ x sl, σ'.lookup x = some sl → σ.lookup x = some sl
  | (y, t) :: r, h, x, sl, e => by
    rw [List.lookup_cons] at e
    cases hb : x == y with
    | true => rw [hb] at e; cases e; rw [beq_iff_eq.mp hb]; exact h.1
    | false => rw [hb] at e; exact h.2.lookup x sl e
theorem Inv.re (I : Inv F s σ μ) (h : Subs σ' σ) : Inv F s σ' μ := I.sub h.lookup

/-- what changes is only the frame's own -/
theorem Inv.change {μ' : List (Addr × Wn)} (I : Inv F s σ μ) (hμ : μ'.map (·.1) = μ.map (·.1)) (h' : Heap) (tk : Nat)
    (keep : ∀ a o, a ∉ F.own μ → s.heap.get? a = some o → h'.get? a = some o)
    (mem : ∃ lm cm, h'.Ns F.env.locals lm ∧ (∀ n c, F.env.cells.lookup n = some c → h'.IsCell c (cm n)) ∧ (∀ c ∈ F.wc, ∃ v, h'.IsCell c v) ∧
      ∀ x sl, σ'.lookup x = some sl → ∃ v, got F.env lm cm x = some v ∧ sl.ok (Fz (F.all μ) s.heap) v)
    (muts : ∀ a w, (a, w) ∈ μ' → ∃ vs n, h'.get? a = some { cls := .type "list", data := .seq vs.toArray n } ∧ w.ok (Fz (F.all μ) s.heap) vs) :
    Inv F { s with heap := h', toks := tk } σ' μ' := by
  have ho : F.own μ' = F.own μ := by unfold Fx.own; rw [hμ]
  have ha : F.all μ' = F.all μ := by unfold Fx.all; rw [ho]
  have fz : ∀ a o, Fz (F.all μ) s.heap a o → Fz (F.all μ') h' a o := fun a o x => ⟨keep a o (fun hm => x.2 (List.mem_append.mpr (.inl hm))) x.1, by rw [ha]; exact x.2⟩
  refine ⟨I.kind, I.drawn, I.os, I.gens, fun a o h => ?_, fun a h => ?_, fun a h => ?_, ?_, ?_, I.inj, ?_, fun a w h => ?_⟩
  · rw [ho]; exact ⟨keep a o (I.base a o h).2 (I.base a o h).1, (I.base a o h).2⟩
  · rw [ho]; exact I.apart a h
  · obtain ⟨o, e⟩ := I.live a h; exact ⟨o, keep a o (I.apart a h) e⟩
  · rw [ho]; exact I.nodup
  · rw [ho]; exact I.roc
  · obtain ⟨lm, cm, hn, hc, hcs, hv⟩ := mem
    refine ⟨lm, cm, hn, hc, hcs, fun x sl e => ?_⟩
    obtain ⟨v, h1, h2⟩ := hv x sl e
    exact ⟨v, h1, h2.mono fz⟩
  · obtain ⟨vs, n, h1, h2⟩ := muts a w h
    exact ⟨vs, n, h1, h2.mono fz⟩

theorem lk_head {x : Str} {sl : Sl} : List.lookup x ((x, sl) :: σ) = some sl := by rw [List.lookup_cons]; simp
theorem lk_here {x y : Str} {sl t : Sl} (hxy : x = y) (hst : t = sl) : List.lookup x ((y, t) :: σ) = some sl := by subst hxy; subst hst; exact lk_head
theorem lk_tail {x y : Str} {sl t : Sl} (hne : (x == y) = false) (h : σ.lookup x = some sl) : List.lookup x ((y, t) :: σ) = some sl := by rw [List.lookup_cons, hne]; exact h
theorem lookup_ne {x y : Str} {sl t : Sl} (h : List.lookup x ((y, t) :: σ) = some sl) (hne : x ≠ y) : σ.lookup x = some sl := by
  rw [List.lookup_cons] at h
  have : (x == y) = false := by simpa using hne
  rw [this] at h; exact h
theorem lookup_eq {x : Str} {sl t : Sl} (h : List.lookup x ((x, t) :: σ) = some sl) : t = sl := by
  rw [List.lookup_cons] at h
  simp only [beq_self_eq_true] at h
  exact Option.some.inj h

theorem Inv.nodupL (I : Inv F s σ μ) : F.env.locals ∉ F.wc ∧ F.env.locals ∉ μ.map (·.1) := by
  have h := (List.nodup_cons.mp I.nodup).1
  exact ⟨fun e => h (List.mem_append.mpr (.inl e)), fun e => h (List.mem_append.mpr (.inr e))⟩
theorem Inv.cellNeL (I : Inv F s σ μ) {n : Str} {c : Addr} (h : F.env.cells.lookup n = some c) : c ≠ F.env.locals := by
  rcases I.roc n c h with h | h
  · exact fun q => I.nodupL.1 (q ▸ h)
  · exact fun q => h (q ▸ List.mem_cons_self ..)
theorem Inv.cellNeM (I : Inv F s σ μ) {n : Str} {c a : Addr} (h : F.env.cells.lookup n = some c) (ha : a ∈ μ.map (·.1)) : c ≠ a := by
  rcases I.roc n c h with h | h
  · exact (List.nodup_append.mp (List.nodup_cons.mp I.nodup).2).2.2 c h a ha
  · exact fun q => h (q ▸ List.mem_cons_of_mem _ (List.mem_append.mpr (.inr ha)))

/-- a name is bound -/
theorem Inv.store (I : Inv F s σ μ) {x : Str} {v : Value} {sl : Sl} (hr : sl.ok (Fz (F.all μ) s.heap) v) {M : Model} {A : Around} {Q : Unit → Shared → Prop} {E : Value → Shared → Prop}
    (h : ∀ s', Inv F s' ((x, sl) :: σ) μ → (∀ a o, a ∉ F.own μ → s.heap.get? a = some o → s'.heap.get? a = some o) → Q () s')
    (hk : F.env.kindOf x = some .local ∨ (F.env.kindOf x = some .cell ∧ ∃ c, F.env.cells.lookup x = some c ∧ c ∈ F.wc)) : wpAny M A (storeName F.env x v) Q E s := by
  obtain ⟨lm, cm, hn, hc, hcs, hv⟩ := I.mem
  rcases hk with hl | ⟨hl, c, hcl, hcm⟩
  · refine wpAny_storeName_local hl hn (fun h' hn' hs => ?_) (by rw [I.kind]; rfl)
    have keep : ∀ a o, a ∉ F.own μ → s.heap.get? a = some o → h'.get? a = some o := fun a o ha e => hs.extBut a o (fun q => ha (q ▸ List.mem_cons_self ..)) e
    refine h _ (I.change rfl h' (s.toks + 1) keep ⟨_, cm, hn', fun n c hc' => (hc n c hc').sameBut hs (I.cellNeL hc'),
      fun c hc' => let ⟨v, x⟩ := hcs c hc'; ⟨v, x.sameBut hs fun q => I.nodupL.1 (q ▸ hc')⟩, fun y t e => ?_⟩ fun a w hm => ?_) keep
    · by_cases hy : y = x
      · subst hy
        cases lookup_eq e
        exact ⟨v, by simp [got, hl], hr⟩
      · obtain ⟨u, h1, h2⟩ := hv y t (lookup_ne e hy)
        refine ⟨u, ?_, h2⟩
        rw [← h1]
        unfold got
        simp only [hy, if_false]
    · obtain ⟨vs, n, h1, h2⟩ := I.muts a w hm
      exact ⟨vs, n, (hs.2 a fun q => I.nodupL.2 (q ▸ List.mem_map.mpr ⟨_, hm, rfl⟩)).trans h1, h2⟩
  · refine wpAny_storeName_cell I.kind hl hcl (hc x c hcl) fun h' hc' hs => ?_
    have hown : c ∈ F.own μ := List.mem_cons_of_mem _ (List.mem_append.mpr (.inl hcm))
    have keep : ∀ a o, a ∉ F.own μ → s.heap.get? a = some o → h'.get? a = some o := fun a o ha e => hs.extBut a o (fun q => ha (q ▸ hown)) e
    have hLc : F.env.locals ≠ c := fun q => I.nodupL.1 (q ▸ hcm)
    have hdis := (List.nodup_append.mp (List.nodup_cons.mp I.nodup).2).2.2
    refine h _ (I.change rfl h' s.toks keep ⟨lm, fun y => if y = x then some v else cm y, hn.sameBut hs hLc, fun n c' hc2 => ?_, fun c' hc2 => ?_, fun y t e => ?_⟩ fun a w hm => ?_) keep
    · by_cases hnx : n = x
      · subst hnx; rw [hcl] at hc2; cases hc2; simpa using hc'
      · show h'.IsCell c' (if n = x then some v else cm n)
        rw [if_neg hnx]
        exact (hc n c' hc2).sameBut hs fun q => hnx (I.inj n x c (q ▸ hc2) hcl hcm)
    · by_cases q : c' = c
      · subst q; exact ⟨_, hc'⟩
      · obtain ⟨u, x⟩ := hcs c' hc2; exact ⟨u, x.sameBut hs q⟩
    · by_cases hy : y = x
      · subst hy
        cases lookup_eq e
        exact ⟨v, by simp [got, hl, hcl], hr⟩
      · obtain ⟨u, h1, h2⟩ := hv y t (lookup_ne e hy)
        refine ⟨u, ?_, h2⟩
        rw [← h1]
        unfold got
        simp only [hy, if_false]
    · obtain ⟨vs, n, h1, h2⟩ := I.muts a w hm
      exact ⟨vs, n, (hs.2 a fun q => hdis c hcm a (List.mem_map.mpr ⟨_, hm, rfl⟩) q.symm).trans h1, h2⟩

/-- an own list is changed -/
theorem Inv.setList (I : Inv F s σ μ) {a : Addr} {w : Wn} {μ₁ μ₂ : List (Addr × Wn)} (hμ : μ = μ₁ ++ (a, w) :: μ₂) {w' : Wn} {vs' : List Value} {n : Nat} {h' : Heap}
    (hs : Heap.SameBut a s.heap h') (ho : h'.get? a = some { cls := .type "list", data := .seq vs'.toArray n }) (hw : w'.ok (Fz (F.all μ) s.heap) vs') :
    Inv F { s with heap := h' } σ (μ₁ ++ (a, w') :: μ₂) := by
  obtain ⟨lm, cm, hn, hc, hcs, hv⟩ := I.mem
  have ham : a ∈ μ.map (·.1) := by rw [hμ]; simp
  have hown : a ∈ F.own μ := List.mem_cons_of_mem _ (List.mem_append.mpr (.inr ham))
  have hnd := (List.nodup_append.mp (List.nodup_cons.mp I.nodup).2)
  have hLa : F.env.locals ≠ a := fun q => I.nodupL.2 (q ▸ ham)
  refine I.change (by rw [hμ]; simp) h' s.toks (fun b o hb e => hs.extBut b o (fun q => hb (q ▸ hown)) e)
    ⟨lm, cm, hn.sameBut hs hLa, fun n c hc' => (hc n c hc').sameBut hs (I.cellNeM hc' ham),
      fun c hc' => let ⟨v, x⟩ := hcs c hc'; ⟨v, x.sameBut hs fun q => hnd.2.2 c hc' a ham q⟩, hv⟩ fun b u hm => ?_
  have hnd2 := hnd.2.1
  rw [hμ] at hnd2
  simp only [List.map_append, List.map_cons] at hnd2
  rcases List.mem_append.mp hm with hm | hm
  · obtain ⟨vs, n, h1, h2⟩ := I.muts b u (by rw [hμ]; exact List.mem_append.mpr (.inl hm))
    refine ⟨vs, n, (hs.2 b fun q => ?_).trans h1, h2⟩
    exact (List.nodup_append.mp hnd2).2.2 b (List.mem_map.mpr ⟨_, hm, rfl⟩) a (List.mem_cons_self ..) q
  · rcases List.mem_cons.mp hm with e | hm
    · cases e; exact ⟨vs', n, ho, hw⟩
    · obtain ⟨vs, n, h1, h2⟩ := I.muts b u (by rw [hμ]; exact List.mem_append.mpr (.inr (List.mem_cons_of_mem _ hm)))
      refine ⟨vs, n, (hs.2 b fun q => ?_).trans h1, h2⟩
      exact (List.nodup_cons.mp (List.nodup_append.mp hnd2).2.1).1 (q ▸ List.mem_map.mpr ⟨_, hm, rfl⟩)

/-- a new list becomes the frame's own -/
theorem Inv.newList (I : Inv F s σ μ) {vs : List Value} {w : Wn} (hw : w.ok (Fz (F.all μ) s.heap) vs) :
    Inv F { s with heap := s.heap.push { cls := .type "list", data := .seq vs.toArray } } σ ((s.heap.objs.size, w) :: μ) := by
  have lv := I.liveAll
  have hn : ∀ a o, s.heap.get? a = some o → a ≠ s.heap.objs.size := fun a o e => Nat.ne_of_lt (Heap.lt_size e)
  have hno : s.heap.objs.size ∉ F.all μ := lv.size
  have g : Gr s { s with heap := s.heap.push { cls := .type "list", data := .seq vs.toArray } } := .push'
  have J := I.gr g
  have hown : ∀ b, b ∈ F.own ((s.heap.objs.size, w) :: μ) ↔ b = s.heap.objs.size ∨ b ∈ F.own μ := by
    intro b; simp only [Fx.own, List.map_cons, List.mem_cons, List.mem_append]
    constructor
    · rintro (h | h | h | h)
      · exact .inr (.inl h)
      · exact .inr (.inr (.inl h))
      · exact .inl h
      · exact .inr (.inr (.inr h))
    · rintro (h | h | h | h)
      · exact .inr (.inr (.inl h))
      · exact .inl h
      · exact .inr (.inl h)
      · exact .inr (.inr (.inr h))
  have fz : ∀ a o, Fz (F.all μ) s.heap a o → Fz (F.all ((s.heap.objs.size, w) :: μ)) (s.heap.push { cls := .type "list", data := .seq vs.toArray }) a o := fun a o x => by
    refine ⟨g.heap a o x.1, fun hm => ?_⟩
    rcases List.mem_append.mp hm with hm | hm
    · rcases (hown a).mp hm with e | hm
      · exact hn a o x.1 e
      · exact x.2 (List.mem_append.mpr (.inl hm))
    · exact x.2 (List.mem_append.mpr (.inr hm))
  refine ⟨I.kind, J.drawn, J.os, J.gens, fun a o h => ⟨(J.base a o h).1, fun hm => ?_⟩, fun a h hm => ?_, J.live, ?_, fun n c h => ?_, I.inj, ?_, fun a u hm => ?_⟩
  · rcases (hown a).mp hm with e | hm
    · exact hn a o (I.base a o h).1 e
    · exact (I.base a o h).2 hm
  · rcases (hown a).mp hm with e | hm
    · obtain ⟨o, ho⟩ := I.live a h; exact hn a o ho e
    · exact I.apart a h hm
  · have hnd := List.nodup_cons.mp I.nodup
    have h2 := List.nodup_append.mp hnd.2
    have hnin : s.heap.objs.size ∉ F.own μ := fun hm => hno (List.mem_append.mpr (.inl hm))
    refine List.nodup_cons.mpr ⟨fun hm => ?_, List.nodup_append.mpr ⟨h2.1, List.nodup_cons.mpr ⟨fun hm => hnin (List.mem_cons_of_mem _ (List.mem_append.mpr (.inr hm))), h2.2.1⟩, fun c hc b hb => ?_⟩⟩
    · rcases List.mem_append.mp hm with hm | hm
      · exact hnd.1 (List.mem_append.mpr (.inl hm))
      · rcases List.mem_cons.mp hm with e | hm
        · exact hnin (by have e : F.env.locals = s.heap.objs.size := e; rw [← e]; exact List.mem_cons_self ..)
        · exact hnd.1 (List.mem_append.mpr (.inr hm))
    · rcases List.mem_cons.mp hb with e | hb
      · exact fun q => hnin (List.mem_cons_of_mem _ (List.mem_append.mpr (.inl (by have e : c = s.heap.objs.size := q.trans e; rw [← e]; exact hc))))
      · exact h2.2.2 c hc b hb
  · rcases I.roc n c h with h1 | h1
    · exact .inl h1
    · refine .inr fun hm => ?_
      rcases (hown c).mp hm with e | hm
      · obtain ⟨lm, cm, hns, hc, hcs, hv⟩ := I.mem
        obtain ⟨o, ho, _⟩ := hc n c h
        exact hn c o ho e
      · exact h1 hm
  · obtain ⟨lm, cm, hns, hc, hcs, hv⟩ := I.mem
    refine ⟨lm, cm, hns.keeps g.heap, fun n c h => (hc n c h).keeps g.heap, fun c h => let ⟨v, x⟩ := hcs c h; ⟨v, x.keeps g.heap⟩, fun x sl h => ?_⟩
    obtain ⟨v, h1, h2⟩ := hv x sl h
    exact ⟨v, h1, h2.mono fz⟩
  · rcases List.mem_cons.mp hm with e | hm
    · cases e; exact ⟨vs, 0, Heap.get?_push_size _ rfl, hw.mono fz⟩
    · obtain ⟨us, n, h1, h2⟩ := I.muts a u hm
      exact ⟨us, n, g.heap _ _ h1, h2.mono fz⟩
end
end Mine

namespace Mine
open PySem PySem.Calls

@[reducible] def Fx.with (F : Fx) (B : Addr → Obj → Prop) (O : List Addr) : Fx := ⟨F.prog, F.w, F.A, F.env, O, B, F.wc, F.s₀⟩

section
variable {F : Fx} {s s' : Shared} {σ σ' : List (Str × Sl)} {μ : List (Addr × Wn)}

theorem Inv.weak {B : Addr → Obj → Prop} {O : List Addr} (I : Inv (F.with B O) s σ μ) (hB : ∀ a o, F.B a o → B a o) (hO : ∀ a ∈ F.O, a ∈ O) : Inv F s σ μ where
  kind := I.kind
  drawn := I.drawn
  os := I.os
  gens := I.gens
  base := fun a o h => I.base a o (hB a o h)
  apart := fun a h => I.apart a (hO a h)
  live := fun a h => I.live a (hO a h)
  nodup := I.nodup
  roc := I.roc
  inj := I.inj
  mem := by
    obtain ⟨lm, cm, hn, hc, hcs, hv⟩ := I.mem
    refine ⟨lm, cm, hn, hc, hcs, fun x sl e => ?_⟩
    obtain ⟨v, h1, h2⟩ := hv x sl e
    exact ⟨v, h1, h2.mono fun a o x => ⟨x.1, fun hm => x.2 ((List.mem_append.mp hm).elim (fun h => List.mem_append.mpr (.inl h)) fun h => List.mem_append.mpr (.inr (hO a h)))⟩⟩
  muts := fun a w h => by
    obtain ⟨vs, n, h1, h2⟩ := I.muts a w h
    exact ⟨vs, n, h1, h2.mono fun a o x => ⟨x.1, fun hm => x.2 ((List.mem_append.mp hm).elim (fun h => List.mem_append.mpr (.inl h)) fun h => List.mem_append.mpr (.inr (hO a h)))⟩⟩

theorem Inv.ownLive (I : Inv F s σ μ) {a : Addr} (h : a ∈ F.own μ) : ∃ o, s.heap.get? a = some o := I.liveAll a (List.mem_append.mpr (.inl h))

/-- everything that stands and is not the frame's own is kept from now on; what is new may be watched -/
theorem Inv.root (I : Inv F s σ μ) {wr : List Addr} (g : Gr s s') (hnew : ∀ b ∈ wr, s.heap.get? b = none) (hlive : ∀ b ∈ wr, ∃ o, s'.heap.get? b = some o) :
    Inv (F.with F.B (F.O ++ wr)) s' σ μ := by
  have J := I.gr g
  have fz : ∀ a o, Fz (F.all μ) s.heap a o → Fz ((F.with F.B (F.O ++ wr)).all μ) s'.heap a o := fun a o x => by
    refine ⟨g.heap a o x.1, fun hm => ?_⟩
    rcases List.mem_append.mp hm with hm | hm
    · exact x.2 (List.mem_append.mpr (.inl hm))
    · rcases List.mem_append.mp hm with hm | hm
      · exact x.2 (List.mem_append.mpr (.inr hm))
      · have := hnew a hm; rw [x.1] at this; cases this
  refine ⟨J.kind, J.drawn, J.os, J.gens, J.base, fun a h => ?_, fun a h => ?_, J.nodup, J.roc, J.inj, ?_, fun a w hm => ?_⟩
  · rcases List.mem_append.mp h with h | h
    · exact I.apart a h
    · intro hm
      obtain ⟨o, ho⟩ := I.ownLive hm
      have := hnew a h; rw [ho] at this; cases this
  · rcases List.mem_append.mp h with h | h
    · exact J.live a h
    · exact hlive a h
  · obtain ⟨lm, cm, hn, hc, hcs, hv⟩ := I.mem
    refine ⟨lm, cm, hn.keeps g.heap, fun n c h => (hc n c h).keeps g.heap, fun c h => let ⟨v, x⟩ := hcs c h; ⟨v, x.keeps g.heap⟩, fun x sl h => ?_⟩
    obtain ⟨v, h1, h2⟩ := hv x sl h
    exact ⟨v, h1, h2.mono fz⟩
  · obtain ⟨vs, n, h1, h2⟩ := I.muts a w hm
    exact ⟨vs, n, g.heap _ _ h1, h2.mono fz⟩

/-- only what is watched has changed -/
theorem Inv.foreign (I : Inv F s σ μ) {wr : List Addr} {h' : Heap} {tk : Nat} (hwr : ∀ b ∈ wr, b ∈ F.O) (hB : ∀ a o, F.B a o → a ∉ wr)
    (hk : ∀ a o, a ∉ wr → s.heap.get? a = some o → h'.get? a = some o) (hl : ∀ b ∈ wr, ∃ o, h'.get? b = some o) (hcw : ∀ n c, F.env.cells.lookup n = some c → c ∉ wr) : Inv F { s with heap := h', toks := tk } σ μ := by
  have own : ∀ a, a ∈ F.own μ → a ∉ wr := fun a ha hw => I.apart a (hwr a hw) ha
  have kown : ∀ a o, a ∈ F.own μ → s.heap.get? a = some o → h'.get? a = some o := fun a o ha e => hk a o (own a ha) e
  have fz : ∀ a o, Fz (F.all μ) s.heap a o → Fz (F.all μ) h' a o := fun a o x => ⟨hk a o (fun hw => x.2 (List.mem_append.mpr (.inr (hwr a hw)))) x.1, x.2⟩
  refine ⟨I.kind, I.drawn, I.os, I.gens, fun a o h => ⟨hk a o (hB a o h) (I.base a o h).1, (I.base a o h).2⟩, I.apart, fun a h => ?_, I.nodup, I.roc, I.inj, ?_, fun a w hm => ?_⟩
  · by_cases hw : a ∈ wr
    · exact hl a hw
    · obtain ⟨o, ho⟩ := I.live a h; exact ⟨o, hk a o hw ho⟩
  · obtain ⟨lm, cm, hn, hc, hcs, hv⟩ := I.mem
    have cellk : ∀ {c : Addr} {v : Option Value}, (c ∈ F.wc ∨ c ∉ F.own μ ∧ c ∉ wr) → s.heap.IsCell c v → h'.IsCell c v := by
      rintro c v hc ⟨o, ho, hd⟩
      refine ⟨o, hk c o ?_ ho, hd⟩
      rcases hc with hc | hc
      · exact own c (List.mem_cons_of_mem _ (List.mem_append.mpr (.inl hc)))
      · exact hc.2
    refine ⟨lm, cm, hn.at' fun o e => kown _ o (List.mem_cons_self ..) e, fun n c h => ?_, fun c h => let ⟨v, x⟩ := hcs c h; ⟨v, cellk (.inl h) x⟩, fun x sl h => ?_⟩
    · obtain ⟨o, ho, hd⟩ := hc n c h
      exact ⟨o, hk c o (hcw n c h) ho, hd⟩
    · obtain ⟨v, h1, h2⟩ := hv x sl h
      exact ⟨v, h1, h2.mono fz⟩
  · obtain ⟨vs, n, h1, h2⟩ := I.muts a w hm
    exact ⟨vs, n, kown a _ (List.mem_cons_of_mem _ (List.mem_append.mpr (.inr (List.mem_map.mpr ⟨_, hm, rfl⟩)))) h1, h2.mono fz⟩

/-- only what was watched has changed, and it is watched no more -/
theorem Inv.foreign' {wr : List Addr} (I : Inv (F.with F.B (F.O ++ wr)) s σ μ) {h' : Heap} {tk : Nat} (hB : ∀ a o, F.B a o → a ∉ wr)
    (hk : ∀ a o, a ∉ wr → s.heap.get? a = some o → h'.get? a = some o) (hO : ∀ a ∈ F.O, a ∉ wr) (hcw : ∀ n c, F.env.cells.lookup n = some c → c ∉ wr) : Inv F { s with heap := h', toks := tk } σ μ := by
  have own : ∀ a, a ∈ F.own μ → a ∉ wr := fun a ha hw => I.apart a (List.mem_append.mpr (.inr hw)) ha
  have kown : ∀ a o, a ∈ F.own μ → s.heap.get? a = some o → h'.get? a = some o := fun a o ha e => hk a o (own a ha) e
  have fz : ∀ a o, Fz ((F.with F.B (F.O ++ wr)).all μ) s.heap a o → Fz (F.all μ) h' a o := fun a o x => by
    refine ⟨hk a o (fun hw => x.2 (List.mem_append.mpr (.inr (List.mem_append.mpr (.inr hw))))) x.1, fun hm => x.2 ?_⟩
    rcases List.mem_append.mp hm with hm | hm
    · exact List.mem_append.mpr (.inl hm)
    · exact List.mem_append.mpr (.inr (List.mem_append.mpr (.inl hm)))
  refine ⟨I.kind, I.drawn, I.os, I.gens, fun a o h => ⟨hk a o (hB a o h) (I.base a o h).1, (I.base a o h).2⟩, fun a h => I.apart a (List.mem_append.mpr (.inl h)), fun a h => ?_, I.nodup, I.roc, I.inj, ?_, fun a w hm => ?_⟩
  · obtain ⟨o, ho⟩ := I.live a (List.mem_append.mpr (.inl h)); exact ⟨o, hk a o (hO a h) ho⟩
  · obtain ⟨lm, cm, hn, hc, hcs, hv⟩ := I.mem
    refine ⟨lm, cm, hn.at' fun o e => kown _ o (List.mem_cons_self ..) e, fun n c h => ?_, fun c h => ?_, fun x sl h => ?_⟩
    · obtain ⟨o, ho, hd⟩ := hc n c h
      exact ⟨o, hk c o (hcw n c h) ho, hd⟩
    · obtain ⟨v, o, ho, hd⟩ := hcs c h
      exact ⟨v, o, kown c o (List.mem_cons_of_mem _ (List.mem_append.mpr (.inl h))) ho, hd⟩
    · obtain ⟨v, h1, h2⟩ := hv x sl h
      exact ⟨v, h1, h2.mono fz⟩
  · obtain ⟨vs, n, h1, h2⟩ := I.muts a w hm
    exact ⟨vs, n, kown a _ (List.mem_cons_of_mem _ (List.mem_append.mpr (.inr (List.mem_map.mpr ⟨_, hm, rfl⟩)))) h1, h2.mono fz⟩

theorem Inv.cellLive (I : Inv F s σ μ) {n : Str} {c : Addr} (h : F.env.cells.lookup n = some c) : ∃ o, s.heap.get? c = some o := by
  obtain ⟨lm, cm, hn, hc, hcs, hv⟩ := I.mem
  obtain ⟨o, ho, _⟩ := hc n c h
  exact ⟨o, ho⟩

/-- from a state on, all that stands there and is not the frame's own is kept, whatever the frame does -/
def Kept (F : Fx) (μ : List (Addr × Wn)) (wr : List Addr) (s s' : Shared) : Prop := ∀ a o, a ∉ F.own μ → a ∉ wr → s.heap.get? a = some o → s'.heap.get? a = some o

theorem own_eq {μ' : List (Addr × Wn)} (h : μ'.map (·.1) = μ.map (·.1)) : F.own μ' = F.own μ := by unfold Fx.own; rw [h]
theorem all_eq {μ' : List (Addr × Wn)} (h : μ'.map (·.1) = μ.map (·.1)) : F.all μ' = F.all μ := by unfold Fx.all; rw [own_eq h]

/-- a for over what walks, one name; the frame's own lists stay the same ones -/
theorem for_name {R : Result → Shared → Prop} {x : Str} {px : Pos} {body : List Stmt} {It : Addr} {fp wr : List Addr} {n : Nat} {P : Nat → Value → Prop} {St : Nat → Heap → Prop} {s₁ s₂ : Shared}
    (I : Inv F s₁ σ μ) (g : Gr s₁ s₂) (hnew : ∀ b ∈ wr, s₁.heap.get? b = none) (hfp : ∀ b ∈ fp, b ∉ F.own μ) (hob : ∀ i h, St i h → ∀ b ∈ wr, ∃ o, h.get? b = some o)
    (W : Walks F.prog F.w F.A It fp wr n P St) (hst : St 0 s₂.heap) (item : Nat → D)
    (hP : ∀ i v (s' : Shared), i < n → P i v → Kept F μ wr s₁ s' → Rep (Fz ((F.with F.B (F.O ++ wr)).all μ) s'.heap) v (item i))
    (J : Nat → List (Str × Sl)) (M : Nat → List (Addr × Wn)) (h0 : Subs (J 0) σ) (hM0 : M 0 = μ) (hM : ∀ i, (M i).map (·.1) = μ.map (·.1))
    (hx : F.env.kindOf x = some .local ∨ (F.env.kindOf x = some .cell ∧ ∃ c, F.env.cells.lookup x = some c ∧ c ∈ F.wc))
    (turn : ∀ i (B : Addr → Obj → Prop) (O : List Addr) s', i < n → (∀ a o, F.B a o → B a o) → (∀ a ∈ F.O, a ∈ O) → Inv (F.with B O) s' ((x, .dat (item i)) :: J i) (M i) →
      wpAny (model F.prog F.w) F.A (execs body F.env) (fun f s'' => match f with
        | .next | .cont => Inv (F.with B O) s'' (J (i + 1)) (M (i + 1))
        | .brk => ∃ σ', Inv (F.with B O) s'' σ' (M (i + 1)) ∧ R (.ok .next) s''
        | .ret v => R (.ok (.ret v)) s'') Never s')
    (done : ∀ s', Inv F s' (J n) (M n) → R (.ok .next) s') :
    codeAny (model F.prog F.w) F.A (.forLoop (.Name x px) (.ref It) body [] F.env) R s₂ := by
  have hcw : ∀ m c, F.env.cells.lookup m = some c → c ∉ wr := fun m c h hw => by
    obtain ⟨o, ho⟩ := I.cellLive h; have := hnew c hw; rw [ho] at this; cases this
  have hBw : ∀ a o, F.B a o → a ∉ wr := fun a o h hw => by have := hnew a hw; rw [(I.base a o h).1] at this; cases this
  have hOw : ∀ a ∈ F.O, a ∉ wr := fun a h hw => by obtain ⟨o, ho⟩ := I.live a h; have := hnew a hw; rw [ho] at this; cases this
  have hownw : ∀ a ∈ F.own μ, a ∉ wr := fun a h hw => by obtain ⟨o, ho⟩ := I.ownLive h; have := hnew a hw; rw [ho] at this; cases this
  have I₂ : Inv (F.with F.B (F.O ++ wr)) s₂ (J 0) (M 0) := by rw [hM0]; exact (I.root g hnew (hob _ _ hst)).re h0
  have K₂ : Kept F μ wr s₁ s₂ := fun a o _ _ e => g.heap a o e
  refine codeAny_forLoop (fun k s' => ∃ i, i ≤ n ∧ k = n + 1 - i ∧ Inv (F.with F.B (F.O ++ wr)) s' (J i) (M i) ∧ St i s'.heap ∧ Kept F μ wr s₁ s') ?_ (n + 1) ⟨0, Nat.zero_le _, rfl, I₂, hst, K₂⟩
  rintro k s' ⟨i, hi, rfl, Ii, hsti, Ki⟩
  by_cases hlt : i < n
  · refine W.item i s' _ _ hlt hsti fun v h₁ tk₁ hPv hst₁ hk₁ => ?_
    have I1 : Inv (F.with F.B (F.O ++ wr)) { s' with heap := h₁, toks := tk₁ } (J i) (M i) :=
      Ii.foreign (wr := wr) (fun b hb => List.mem_append.mpr (.inr hb)) hBw (fun a o h e => hk₁ a o h e) (hob _ _ hst₁) hcw
    have K1 : Kept F μ wr s₁ { s' with heap := h₁, toks := tk₁ } := fun a o h h' e => hk₁ a o h' (Ki a o h h' e)
    have hr : Sl.ok (Fz ((F.with F.B (F.O ++ wr)).all (M i)) h₁) v (.dat (item i)) := by
      show Rep _ _ _
      rw [all_eq (F := F.with F.B (F.O ++ wr)) (hM i)]
      exact hP i v _ hlt hPv K1
    have ho : (F.with F.B (F.O ++ wr)).own (M i) = F.own μ := own_eq (F := F) (hM i)
    refine wpAny_assign_Name (Inv.store I1 hr (fun s₃ I3 k3 => ?_) hx)
    have hst₃ : St (i + 1) s₃.heap := W.frame _ _ _ hst₁ fun b hb o e => k3 b o (by rw [ho]; exact hfp b hb) e
    have K3 : Kept F μ wr s₁ s₃ := fun a o h h' e => k3 a o (by rw [ho]; exact h) (K1 a o h h' e)
    -- the turn keeps all that stands
    have I3' : Inv (F.with (fun a o => s₃.heap.get? a = some o ∧ a ∉ F.own μ) (F.O ++ wr)) s₃ ((x, .dat (item i)) :: J i) (M i) :=
      ⟨I3.kind, I3.drawn, I3.os, I3.gens, fun a o h => ⟨h.1, by have := h.2; rw [← ho] at this; exact this⟩, I3.apart, I3.live, I3.nodup, I3.roc, I3.inj, I3.mem, I3.muts⟩
    have hBB : ∀ a o, F.B a o → s₃.heap.get? a = some o ∧ a ∉ F.own μ := fun a o h => ⟨(I3.base a o h).1, by rw [← ho]; exact (I3.base a o h).2⟩
    refine wpAny_mono (turn i _ _ s₃ hlt hBB (fun a h => List.mem_append.mpr (.inl h)) I3') (fun f s₄ h₄ => ?_) fun _ _ e => e.elim
    have fin : Inv (F.with (fun a o => s₃.heap.get? a = some o ∧ a ∉ F.own μ) (F.O ++ wr)) s₄ (J (i + 1)) (M (i + 1)) →
        ∃ m, m < n + 1 - i ∧ ∃ j, j ≤ n ∧ m = n + 1 - j ∧ Inv (F.with F.B (F.O ++ wr)) s₄ (J j) (M j) ∧ St j s₄.heap ∧ Kept F μ wr s₁ s₄ := fun I4 => by
      refine ⟨n + 1 - (i + 1), by omega, i + 1, hlt, rfl, Inv.weak (F := F.with F.B (F.O ++ wr)) I4 hBB (fun a h => h), ?_, ?_⟩
      · exact W.frame _ _ _ hst₃ fun b hb o e => (I4.base b o ⟨e, hfp b hb⟩).1
      · exact fun a o h h' e => (I4.base a o ⟨K3 a o h h' e, h⟩).1
    cases f with
    | next => exact fin h₄
    | cont => exact fin h₄
    | brk => obtain ⟨_, _, h⟩ := h₄; exact h
    | ret v => exact h₄
  · have hin : i = n := by omega
    subst hin
    refine W.done s' _ _ hsti fun h₁ tk₁ hk₁ => wpAny_execs_nil ?_
    refine done _ ?_
    exact Ii.foreign' hBw (fun a o h e => hk₁ a o h e) hOw hcw

theorem mem_own_forget {a b : Addr} {w : Wn} (h : b ∈ F.own μ) : b ∈ F.own ((a, w) :: μ) := by
  rcases List.mem_cons.mp h with e | h
  · exact e ▸ List.mem_cons_self ..
  · rcases List.mem_append.mp h with h | h
    · exact List.mem_cons_of_mem _ (List.mem_append.mpr (.inl h))
    · exact List.mem_cons_of_mem _ (List.mem_append.mpr (.inr (List.mem_cons_of_mem _ h)))
/-- an own list is no more watched -/
theorem Inv.forget {a : Addr} {w : Wn} (I : Inv F s σ ((a, w) :: μ)) : Inv F s σ μ := by
  have fz : ∀ b o, Fz (F.all ((a, w) :: μ)) s.heap b o → Fz (F.all μ) s.heap b o := fun b o x =>
    ⟨x.1, fun hm => x.2 ((List.mem_append.mp hm).elim (fun h => List.mem_append.mpr (.inl (mem_own_forget h))) fun h => List.mem_append.mpr (.inr h))⟩
  refine ⟨I.kind, I.drawn, I.os, I.gens, fun b o h => ⟨(I.base b o h).1, fun hm => (I.base b o h).2 (mem_own_forget hm)⟩, fun b h hm => I.apart b h (mem_own_forget hm), I.live, ?_, fun n c h => (I.roc n c h).imp id fun q hm => q (mem_own_forget hm), I.inj, ?_, fun b u hm => ?_⟩
  · have h := List.nodup_cons.mp I.nodup
    have h2 := List.nodup_append.mp h.2
    refine List.nodup_cons.mpr ⟨fun hm => h.1 ?_, List.nodup_append.mpr ⟨h2.1, (List.nodup_cons.mp h2.2.1).2, fun c hc b hb => h2.2.2 c hc b (List.mem_cons_of_mem _ hb)⟩⟩
    rcases List.mem_append.mp hm with h | h
    · exact List.mem_append.mpr (.inl h)
    · exact List.mem_append.mpr (.inr (List.mem_cons_of_mem _ h))
  · obtain ⟨lm, cm, hn, hc, hcs, hv⟩ := I.mem
    refine ⟨lm, cm, hn, hc, hcs, fun x sl h => ?_⟩
    obtain ⟨v, h1, h2⟩ := hv x sl h
    exact ⟨v, h1, h2.mono fz⟩
  · obtain ⟨vs, n, h1, h2⟩ := I.muts b u (List.mem_cons_of_mem _ hm)
    exact ⟨vs, n, h1, h2.mono fz⟩
/-- an own list changes no more -/
theorem Inv.freeze {a : Addr} {x : Str} {ds : List D} (I : Inv F s σ ((a, .lst ds) :: μ)) (hx : σ.lookup x = some (.raw (.ref a))) : Inv F s ((x, .dat (.list ds)) :: σ) μ := by
  have J := I.forget
  refine ⟨J.kind, J.drawn, J.os, J.gens, J.base, J.apart, J.live, J.nodup, J.roc, J.inj, ?_, J.muts⟩
  obtain ⟨lm, cm, hn, hc, hcs, hv⟩ := J.mem
  refine ⟨lm, cm, hn, hc, hcs, fun y sl h => ?_⟩
  by_cases hy : y = x
  · subst hy
    cases lookup_eq h
    obtain ⟨v, h1, rfl⟩ := hv y _ hx
    refine ⟨_, h1, ?_⟩
    obtain ⟨vs, n, ho, hr⟩ := I.muts a _ (List.mem_cons_self ..)
    have hnot : a ∉ F.all μ := fun hm => by
      rcases List.mem_append.mp hm with hm | hm
      · have hnd := List.nodup_cons.mp I.nodup
        have h2 := List.nodup_append.mp hnd.2
        rcases List.mem_cons.mp hm with e | hm
        · exact hnd.1 (List.mem_append.mpr (.inr (by rw [← e]; exact List.mem_cons_self ..)))
        · rcases List.mem_append.mp hm with hm | hm
          · exact h2.2.2 a hm a (List.mem_cons_self ..) rfl
          · exact (List.nodup_cons.mp h2.2.1).1 hm
      · exact I.apart a hm (List.mem_cons_of_mem _ (List.mem_append.mpr (.inr (List.mem_cons_self ..))))
    refine .list ⟨ho, hnot⟩ (Reps.mono (fun b o x => ⟨x.1, fun hm => x.2 ?_⟩) hr)
    exact (List.mem_append.mp hm).elim (fun h => List.mem_append.mpr (.inl (mem_own_forget h))) fun h => List.mem_append.mpr (.inr h)
  · exact hv y sl (lookup_ne h hy)

/-- a for over pairs, two names -/
theorem for_pair {R : Result → Shared → Prop} {x y : Str} {px py pt : Pos} {k₁ : Nat} {body : List Stmt} {It : Addr} {fp wr : List Addr} {n : Nat} {Pt : Nat → Array Value → Prop} {St : Nat → Heap → Prop} {Mid : Nat → Addr → Heap → Prop} {s₁ s₂ : Shared}
    (hh : F.A.handled = none) (I : Inv F s₁ σ μ) (g : Gr s₁ s₂) (hnew : ∀ b ∈ wr, s₁.heap.get? b = none) (hfp : ∀ b ∈ fp, b ∉ F.own μ) (hob : ∀ i h, St i h → ∀ b ∈ wr, ∃ o, h.get? b = some o)
    (W : WalksU F.prog F.w F.A It fp wr n Pt St Mid) (hst : St 0 s₂.heap) (item jtem : Nat → D)
    (hP : ∀ i vals (s' : Shared), i < n → Pt i vals → Kept F μ wr s₁ s' → ∃ u v, vals = #[u, v] ∧ Rep (Fz ((F.with F.B (F.O ++ wr)).all μ) s'.heap) u (item i) ∧ Rep (Fz ((F.with F.B (F.O ++ wr)).all μ) s'.heap) v (jtem i))
    (J : Nat → List (Str × Sl)) (M : Nat → List (Addr × Wn)) (h0 : Subs (J 0) σ) (hM0 : M 0 = μ) (hM : ∀ i, (M i).map (·.1) = μ.map (·.1))
    (hx : F.env.kindOf x = some .local ∨ (F.env.kindOf x = some .cell ∧ ∃ c, F.env.cells.lookup x = some c ∧ c ∈ F.wc))
    (hy : F.env.kindOf y = some .local ∨ (F.env.kindOf y = some .cell ∧ ∃ c, F.env.cells.lookup y = some c ∧ c ∈ F.wc))
    (turn : ∀ i (B : Addr → Obj → Prop) (O : List Addr) s', i < n → (∀ a o, F.B a o → B a o) → (∀ a ∈ F.O, a ∈ O) → Inv (F.with B O) s' ((y, .dat (jtem i)) :: (x, .dat (item i)) :: J i) (M i) →
      wpAny (model F.prog F.w) F.A (execs body F.env) (fun f s'' => match f with
        | .next | .cont => Inv (F.with B O) s'' (J (i + 1)) (M (i + 1))
        | .brk => ∃ σ', Inv (F.with B O) s'' σ' (M (i + 1)) ∧ R (.ok .next) s''
        | .ret v => R (.ok (.ret v)) s'') Never s')
    (done : ∀ s', Inv F s' (J n) (M n) → R (.ok .next) s') :
    codeAny (model F.prog F.w) F.A (.forLoop (.Tuple [.Name x px, .Name y py] k₁ pt) (.ref It) body [] F.env) R s₂ := by
  have hcw : ∀ m c, F.env.cells.lookup m = some c → c ∉ wr := fun m c h hw => by
    obtain ⟨o, ho⟩ := I.cellLive h; have := hnew c hw; rw [ho] at this; cases this
  have hBw : ∀ a o, F.B a o → a ∉ wr := fun a o h hw => by have := hnew a hw; rw [(I.base a o h).1] at this; cases this
  have hOw : ∀ a ∈ F.O, a ∉ wr := fun a h hw => by obtain ⟨o, ho⟩ := I.live a h; have := hnew a hw; rw [ho] at this; cases this
  have I₂ : Inv (F.with F.B (F.O ++ wr)) s₂ (J 0) (M 0) := by rw [hM0]; exact (I.root g hnew (hob _ _ hst)).re h0
  have K₂ : Kept F μ wr s₁ s₂ := fun a o _ _ e => g.heap a o e
  refine codeAny_forLoop_any (fun k s' => ∃ i, i ≤ n ∧ k = n + 1 - i ∧ Inv (F.with F.B (F.O ++ wr)) s' (J i) (M i) ∧ St i s'.heap ∧ Kept F μ wr s₁ s') ?_ (n + 1) ⟨0, Nat.zero_le _, rfl, I₂, hst, K₂⟩
  rintro k s' ⟨i, hi, rfl, Ii, hsti, Ki⟩
  by_cases hlt : i < n
  · refine W.item i s' _ _ hlt hsti fun T vals h₁ tk₁ hPv hT₁ hm₁ hk₁ => ?_
    refine W.go _ _ _ i T _ _ _ hm₁ fun h₂ hst₂ hk₂ => ?_
    have hT₂ : h₂.IsTuple T vals := let ⟨o, ho, r⟩ := hT₁; ⟨o, hk₂ T o (W.apart i T h₁ hm₁) ho, r⟩
    have I1 : Inv (F.with F.B (F.O ++ wr)) { s' with heap := h₂, toks := tk₁ } (J i) (M i) :=
      Ii.foreign (wr := wr) (fun b hb => List.mem_append.mpr (.inr hb)) hBw (fun a o h e => hk₂ a o h (hk₁ a o h e)) (hob _ _ hst₂) hcw
    have K1 : Kept F μ wr s₁ { s' with heap := h₂, toks := tk₁ } := fun a o h h' e => hk₂ a o h' (hk₁ a o h' (Ki a o h h' e))
    have ho : (F.with F.B (F.O ++ wr)).own (M i) = F.own μ := own_eq (F := F) (hM i)
    obtain ⟨u₀, v₀, rfl, -, -⟩ := hP i vals _ hlt hPv K1
    refine wpAny_assign_Tuple hh hT₂ rfl rfl fun h₃ hx₃ => ?_
    have g3 : Gr { s' with heap := h₂, toks := tk₁ } { s' with heap := h₃, toks := tk₁ } := .keeps fun a o e => hx₃ a o (Nat.ne_of_lt (Heap.lt_size e)) e
    have I3 := I1.gr g3
    have K3 : Kept F μ wr s₁ { s' with heap := h₃, toks := tk₁ } := fun a o h h' e => g3.heap a o (K1 a o h h' e)
    obtain ⟨u, v, hv, hu, hw⟩ := hP i _ _ hlt hPv K3
    cases hv
    show wpAny _ _ (do holding [v₀] (assign (.Name x px) F.env u₀); do holding [] (assign (.Name y py) F.env v₀); pure ()) _ _ _
    have hst₃ : St (i + 1) h₃ := W.frame _ _ _ hst₂ fun b hb o e => g3.heap b o e
    have hr1 : Sl.ok (Fz ((F.with F.B (F.O ++ wr)).all (M i)) h₃) u₀ (.dat (item i)) := by
      show Rep _ _ _; rw [all_eq (F := F.with F.B (F.O ++ wr)) (hM i)]; exact hu
    refine wpAny_bind (wpAny_holding (wpAny_assign_Name (Inv.store I3 hr1 (fun s₄ I4 k4 => ?_) hx)))
    have hr2 : Sl.ok (Fz ((F.with F.B (F.O ++ wr)).all (M i)) s₄.heap) v₀ (.dat (jtem i)) := by
      show Rep _ _ _; rw [all_eq (F := F.with F.B (F.O ++ wr)) (hM i)]
      refine Rep.mono (fun a o q => ⟨k4 a o (fun hm => q.2 (List.mem_append.mpr (.inl (by rw [ho] at hm; exact hm)))) q.1, q.2⟩) hw
    refine wpAny_bind (wpAny_holding (wpAny_assign_Name (Inv.store I4 hr2 (fun s₅ I5 k5 => wpAny_pure ?_) hy)))
    have hst₅ : St (i + 1) s₅.heap := W.frame _ _ _ hst₃ fun b hb o e => k5 b o (by rw [ho]; exact hfp b hb) (k4 b o (by rw [ho]; exact hfp b hb) e)
    have K5 : Kept F μ wr s₁ s₅ := fun a o h h' e => k5 a o (by rw [ho]; exact h) (k4 a o (by rw [ho]; exact h) (K3 a o h h' e))
    have I5' : Inv (F.with (fun a o => s₅.heap.get? a = some o ∧ a ∉ F.own μ) (F.O ++ wr)) s₅ ((y, .dat (jtem i)) :: (x, .dat (item i)) :: J i) (M i) :=
      ⟨I5.kind, I5.drawn, I5.os, I5.gens, fun a o h => ⟨h.1, by have := h.2; rw [← ho] at this; exact this⟩, I5.apart, I5.live, I5.nodup, I5.roc, I5.inj, I5.mem, I5.muts⟩
    have hBB : ∀ a o, F.B a o → s₅.heap.get? a = some o ∧ a ∉ F.own μ := fun a o h => ⟨(I5.base a o h).1, by rw [← ho]; exact (I5.base a o h).2⟩
    refine wpAny_mono (turn i _ _ s₅ hlt hBB (fun a h => List.mem_append.mpr (.inl h)) I5') (fun f s₆ h₆ => ?_) fun _ _ e => e.elim
    have fin : Inv (F.with (fun a o => s₅.heap.get? a = some o ∧ a ∉ F.own μ) (F.O ++ wr)) s₆ (J (i + 1)) (M (i + 1)) →
        ∃ m, m < n + 1 - i ∧ ∃ j, j ≤ n ∧ m = n + 1 - j ∧ Inv (F.with F.B (F.O ++ wr)) s₆ (J j) (M j) ∧ St j s₆.heap ∧ Kept F μ wr s₁ s₆ := fun I6 => by
      refine ⟨n + 1 - (i + 1), by omega, i + 1, hlt, rfl, Inv.weak (F := F.with F.B (F.O ++ wr)) I6 hBB (fun a h => h), ?_, ?_⟩
      · exact W.frame _ _ _ hst₅ fun b hb o e => (I6.base b o ⟨e, hfp b hb⟩).1
      · exact fun a o h h' e => (I6.base a o ⟨K5 a o h h' e, h⟩).1
    cases f with
    | next => exact fin h₆
    | cont => exact fin h₆
    | brk => obtain ⟨_, _, h⟩ := h₆; exact h
    | ret v => exact h₆
  · have hin : i = n := by omega
    subst hin
    refine W.done s' _ _ hsti fun h₁ tk₁ hk₁ => wpAny_execs_nil ?_
    refine done _ ?_
    exact Ii.foreign' hBw (fun a o h e => hk₁ a o h e) hOw hcw
end
end Mine

namespace Mine
open PySem PySem.Calls

def rangeNs (a b c : Int) : List Int := (List.range (Builtin.Range.rangeSize a b c).toNat).map fun (i : Nat) => a + (i : Int) * c

inductive IterD : D → List D → Prop
  | list (ds : List D) : IterD (.list ds) ds
  | range (a b c : Int) (h : Builtin.Range.small a b c = true) (h0 : 0 ≤ Builtin.Range.rangeSize a b c) : IterD (.range a b c) ((rangeNs a b c).map .int)

section
variable {prog : Program} {w : World} {A : Around} {O : List Addr} {s : Shared}
theorem pyIter_dat {v : Value} {d : D} {ds : List D} {Q : Value → Shared → Prop} {E : Value → Shared → Prop} (hh : A.handled = none) (hr : Rep (Fz O s.heap) v d) (hi : IterD d ds)
    (h : ∀ It fp wr P St s₂, Gr s s₂ → (∀ b ∈ wr, s.heap.get? b = none) → (∀ b ∈ fp, b ∈ wr ∨ ∃ o, Fz O s.heap b o) → (∀ (i : Nat) (h : Heap), St i h → ∀ b ∈ wr, ∃ o, h.get? b = some o) → (∀ b ∈ fp, b < s₂.heap.objs.size) →
      (∀ A' : Around, A'.handled = none → Walks prog w A' It fp wr ds.length P St) → St 0 s₂.heap →
      (∀ (i : Nat) (v : Value) (P' : Addr → Obj → Prop), i < ds.length → P i v → (∀ a o, Fz O s.heap a o → P' a o) → Rep P' v (ds.getD i .none)) → Q (.ref It) s₂) :
    wpAny (model prog w) A (pyIter v) Q E s := by
  have fresh : s.heap.get? s.heap.objs.size = none := by
    cases e : s.heap.get? s.heap.objs.size with
    | none => rfl
    | some o => exact absurd (Heap.lt_size e) (Nat.lt_irrefl _)
  cases hi with
  | list ds =>
    cases hr with
    | @list l vs n _ hl rl =>
      have hL : s.heap.IsList l vs.toArray := ⟨_, hl.1, rfl, n, rfl⟩
      have hne : l ≠ s.heap.objs.size := Nat.ne_of_lt (Heap.lt_size hl.1)
      refine wpAny_pyIter_list hL (h s.heap.objs.size [s.heap.objs.size, l] [s.heap.objs.size] (fun i v => vs.toArray[i]? = some v) (fun i h => h.IsListIter s.heap.objs.size l i ∧ h.IsList l vs.toArray) _ .push' ?_ ?_ ?_ ?_ (fun A' hA => by
        have W := Walks.list (prog := prog) (w := w) hA s.heap.objs.size l hne vs.toArray
        rw [show vs.toArray.size = ds.length by simpa using rl.length] at W
        exact W) ⟨⟨_, Heap.get?_push_size _ rfl, rfl, rfl⟩, hL.push _⟩ ?_)
      · intro b hb; rw [List.mem_singleton.mp hb]; exact fresh
      · intro b hb
        rcases List.mem_cons.mp hb with e | hb
        · exact .inl (e ▸ List.mem_singleton.mpr rfl)
        · rw [List.mem_singleton.mp hb]; exact .inr ⟨_, hl⟩
      · rintro i hp ⟨⟨o, ho, _⟩, _⟩ b hb; rw [List.mem_singleton.mp hb]; exact ⟨o, ho⟩
      · intro b hb
        show b < (s.heap.push _).objs.size
        rw [Heap.size_push]
        rcases List.mem_cons.mp hb with e | hb
        · rw [e]; exact Nat.lt_succ_self _
        · rw [List.mem_singleton.mp hb]; exact Nat.lt_succ_of_lt (Heap.lt_size hl.1)
      · intro i v P' hi hv hz
        have hv' : vs[i]? = some v := by simpa using hv
        obtain ⟨d, hd, r⟩ := rl.get hv'
        rw [List.getD_eq_getElem?_getD, hd]
        exact r.mono hz
  | range a b c hs h0 =>
    cases hr with
    | @range r _ _ _ t u v hl =>
      refine wpAny_pyIter_range hl.1 hs (h s.heap.objs.size [s.heap.objs.size] [s.heap.objs.size] (fun i v => ∃ t, v = .int (a + i * c) t) (fun i h => IsRangeIter h s.heap.objs.size (a + (i : Nat) * c) ((((rangeNs a b c).map D.int).length : Int) - (i : Nat)) c) _ .push' ?_ ?_ ?_ ?_ (fun A' hA => Walks.range hA s.heap.objs.size a c _) ?_ ?_)
      · intro b hb; rw [List.mem_singleton.mp hb]; exact fresh
      · intro b hb; exact .inl hb
      · intro i hp hb b hb'; rw [List.mem_singleton.mp hb']; exact ⟨_, hb⟩
      · intro b hb
        show b < (s.heap.push _).objs.size
        rw [Heap.size_push, List.mem_singleton.mp hb]; exact Nat.lt_succ_self _
      · have e : (((rangeNs a b c).map D.int).length : Int) = Builtin.Range.rangeSize a b c := by simp [rangeNs, Int.toNat_of_nonneg h0]
        rw [e]
        show IsRangeIter _ _ _ _ _
        simpa using Heap.get?_push_size _ rfl
      · rintro i v P' hi ⟨t, rfl⟩ _
        have hi' : i < (Builtin.Range.rangeSize a b c).toNat := by simpa [rangeNs] using hi
        simp only [List.getD_eq_getElem?_getD, List.getElem?_map, rangeNs, List.getElem?_range hi', Option.map_some, Option.getD_some]
        exact .int _ _
end

/-- the tops' names -/
structure Glb (mg : Str → Option Value) (h : Heap) : Prop where
  g : h.Ns mainGlobals mg
  b : ∃ mb, h.Ns builtinsNs mb ∧ ∀ x : Str, x ≠ "__name__" → mb x = bootBuiltins x
  nolimit : h.NoLimit
theorem Glb.keeps {mg : Str → Option Value} {h h' : Heap} (G : Glb mg h) (hk : ∀ a o, h.get? a = some o → h'.get? a = some o) : Glb mg h' :=
  ⟨G.g.keeps hk, let ⟨mb, x, y⟩ := G.b; ⟨mb, x.keeps hk, y⟩, G.nolimit.keeps hk⟩

/-- an expression that is just the value v -/
def EvV (prog : Program) (w : World) (A : Around) (env : Env) (s : Shared) (e : Expr) (v : Value) : Prop :=
  ∀ s₁, Gr s s₁ → ∀ (Q : Value → Shared → Prop) (E : Value → Shared → Prop), Q v s₁ → wpAny (model prog w) A (eval e env) Q E s₁

section
variable {prog : Program} {w : World} {A : Around} {env : Env} {O : List Addr} {s : Shared} {mg : Str → Option Value} {d : D}
theorem EvV.glob {x : Str} {p : Pos} {v : Value} (G : Glb mg s.heap) (hv : mg x = some v) (hk : env.scope.kind = .function) (hx : env.kindOf x = some .globalImplicit) (he : env.globals = mainGlobals)
    (hd : (x == ("__debug__" : Str)) = false := by kernel_rfl) : EvV prog w A env s (.Name x p) v := fun s₁ g Q E h =>
  Name_function_global hk hx (loadGlobal_global (by rw [he]; exact G.g.keeps g.heap) hv h) hd
theorem EvV.built {x : Str} {p : Pos} {v : Value} (G : Glb mg s.heap) (hv : mg x = none) (hb : bootBuiltins x = some v) (hk : env.scope.kind = .function) (hx : env.kindOf x = some .globalImplicit) (he : env.globals = mainGlobals) (hbi : env.builtins = builtinsNs)
    (hn : x ≠ "__name__") (hd : (x == ("__debug__" : Str)) = false := by kernel_rfl) : EvV prog w A env s (.Name x p) v := fun s₁ g Q E h => by
  obtain ⟨mb, hm, hmb⟩ := G.b
  exact Name_function_global hk hx (loadGlobal_builtin (by rw [he]; exact G.g.keeps g.heap) hv (by rw [hbi]; exact hm.keeps g.heap) ((hmb x hn).trans hb) h) hd

/-- a call hands back d -/
def CallTo (prog : Program) (w : World) (A : Around) (O : List Addr) (s : Shared) (f : Value) (ds : List D) (d : D) : Prop :=
  ∀ s₁, Gr s s₁ → ∀ vs, Reps (Fz O s₁.heap) vs ds → To prog w A O s₁ (call f vs) d

theorem Ev.callB {x : Str} {np pos : Pos} {e : Expr} {es : List Expr} {id : String} {ds : List D} (hf : EvV prog w A env s (.Name x np) (.builtin id)) (ha : Evs prog w A env O s (e :: es) ds)
    (hc : CallTo prog w A O s (.builtin id) ds d) (he : starEach (e :: es) env = (false, eval e env) :: starEach es env := by rfl) (hp : (backTo pos (starEach (e :: es) env)).any (·.1) = false := by rfl) :
    Ev prog w A env O s (.Call (.Name x np) (e :: es) [] pos) d := fun s₁ g Q hQ => by
  show wpAny _ A (do callWith pos (← eval (.Name x np) env) [] (backTo pos (starEach (e :: es) env)) (backToKw pos (keywordEach [] env))) Q Never s₁
  refine wpAny_bind (hf s₁ g _ _ (callWith_builtin hp ?_))
  have := ha s₁ g pos
  rw [he] at this ⊢
  exact evalArgs_plain (this _ fun vs s₂ g₂ r => hc s₂ (g.trans g₂) vs r Q fun v s₃ g₃ r' => hQ v s₃ (g₂.trans g₃) r')
theorem Ev.callT {x : Str} {np pos : Pos} {e : Expr} {es : List Expr} {T : String} {ds : List D} (hf : EvV prog w A env s (.Name x np) (.type T)) (ha : Evs prog w A env O s (e :: es) ds)
    (hc : CallTo prog w A O s (.type T) ds d) (he : starEach (e :: es) env = (false, eval e env) :: starEach es env := by rfl) (hp : (backTo pos (starEach (e :: es) env)).any (·.1) = false := by rfl) :
    Ev prog w A env O s (.Call (.Name x np) (e :: es) [] pos) d := fun s₁ g Q hQ => by
  show wpAny _ A (do callWith pos (← eval (.Name x np) env) [] (backTo pos (starEach (e :: es) env)) (backToKw pos (keywordEach [] env))) Q Never s₁
  refine wpAny_bind (hf s₁ g _ _ (callWith_type hp ?_))
  have := ha s₁ g pos
  rw [he] at this ⊢
  exact evalArgs_plain (this _ fun vs s₂ g₂ r => hc s₂ (g.trans g₂) vs r Q fun v s₃ g₃ r' => hQ v s₃ (g₂.trans g₃) r')
theorem Ev.callF {x : Str} {np pos : Pos} {e : Expr} {es : List Expr} {a : Addr} {o : Obj} {fd : FuncData} {ds : List D} (hf : EvV prog w A env s (.Name x np) (.ref a)) (ha : Evs prog w A env O s (e :: es) ds)
    (ho : s.heap.get? a = some o) (hd : o.data = .func fd)
    (hc : CallTo prog w A O s (.ref a) ds d) (he : starEach (e :: es) env = (false, eval e env) :: starEach es env := by rfl) :
    Ev prog w A env O s (.Call (.Name x np) (e :: es) [] pos) d := fun s₁ g Q hQ => by
  show wpAny _ A (do callWith pos (← eval (.Name x np) env) [] (backTo pos (starEach (e :: es) env)) (backToKw pos (keywordEach [] env))) Q Never s₁
  refine wpAny_bind (hf s₁ g _ _ (callWith_function (o := o) (fd := fd) ?_))
  have := ha s₁ g pos
  rw [he] at this ⊢
  exact evalArgs_plain (this _ fun vs s₂ g₂ r => ⟨⟨(g.trans g₂).heap _ _ ho, hd⟩, hc s₂ (g.trans g₂) vs r Q fun v s₃ g₃ r' => hQ v s₃ (g₂.trans g₃) r'⟩)

theorem one_dat {P : Addr → Obj → Prop} {vs : List Value} {d : D} (r : Reps P vs [d]) : ∃ v, vs = [v] ∧ Rep P v d := by
  cases r with | cons h r => cases r; exact ⟨_, rfl, h⟩
theorem two_dat {P : Addr → Obj → Prop} {vs : List Value} {d e : D} (r : Reps P vs [d, e]) : ∃ u v, vs = [u, v] ∧ Rep P u d ∧ Rep P v e := by
  cases r with | cons h r => obtain ⟨v, rfl, h'⟩ := one_dat r; exact ⟨_, _, rfl, h, h'⟩
theorem three_dat {P : Addr → Obj → Prop} {vs : List Value} {d e f : D} (r : Reps P vs [d, e, f]) : ∃ u v x, vs = [u, v, x] ∧ Rep P u d ∧ Rep P v e ∧ Rep P x f := by
  cases r with | cons h r => obtain ⟨u, v, rfl, h', h''⟩ := two_dat r; exact ⟨_, _, _, rfl, h, h', h''⟩

theorem call_len_S {x : Str} (hz : ¬ (x.length : Int) ≥ 2 ^ 63) : CallTo prog w A O s (.builtin "len") [.str x] (.int x.length) := fun s₁ g vs r Q hQ => by
  obtain ⟨v, rfl, h⟩ := one_dat r
  cases h
  exact P.len_str hz (hQ _ _ .toks (.int _ _))
theorem call_len_L {ds : List D} (hz : (ds.length : Int) < 2 ^ 63) : CallTo prog w A O s (.builtin "len") [.list ds] (.int ds.length) := fun s₁ g vs r Q hQ => by
  obtain ⟨v, rfl, h⟩ := one_dat r
  cases h with
  | @list l us n _ hl rl =>
    have e : us.toArray.size = ds.length := by simpa using rl.length
    exact call_len_list ⟨_, hl.1, rfl, n, rfl⟩ (by rw [e]; exact hz) (by rw [e]; exact hQ _ _ .toks (.int _ _))
theorem call_range1 {n : Int} (lv : Live O s.heap) : CallTo prog w A O s (.type "range") [.int n] (.range 0 n 1) := fun s₁ g vs r Q hQ => by
  obtain ⟨v, rfl, h⟩ := one_dat r
  cases h
  exact call_range_1 (hQ _ _ .push (.range ((lv.gr g).fz rfl)))
theorem call_range2 {a b : Int} (lv : Live O s.heap) : CallTo prog w A O s (.type "range") [.int a, .int b] (.range a b 1) := fun s₁ g vs r Q hQ => by
  obtain ⟨u, v, rfl, h, h'⟩ := two_dat r
  cases h; cases h'
  exact call_range_2 (hQ _ _ .push (.range ((lv.gr g).fz rfl)))
theorem call_range3 {a b c : Int} (lv : Live O s.heap) (hc : c ≠ 0) (hp : Builtin.divisionGoesByPylong (b - a) c = false) : CallTo prog w A O s (.type "range") [.int a, .int b, .int c] (.range a b c) := fun s₁ g vs r Q hQ => by
  obtain ⟨u, v, x, rfl, h, h', h''⟩ := three_dat r
  cases h; cases h'; cases h''
  exact call_range_3 hc (hQ _ _ .push (.range ((lv.gr g).fz rfl))) (.inl hp)
end
end Mine

namespace Mine
open PySem PySem.Calls

def Bindable (F : Fx) (x : Str) : Prop := F.env.kindOf x = some .local ∨ (F.env.kindOf x = some .cell ∧ ∃ c, F.env.cells.lookup x = some c ∧ c ∈ F.wc)

/-- the walk of a block -/
abbrev Ex (F : Fx) (ss : List Stmt) (Q : Flow → Shared → Prop) (s : Shared) : Prop := wpAny (model F.prog F.w) F.A (execs ss F.env) Q Never s
abbrev FEv (F : Fx) (μ : List (Addr × Wn)) (s : Shared) (e : Expr) (d : D) : Prop := Ev F.prog F.w F.A F.env (F.all μ) s e d
abbrev FEv0 (F : Fx) (s : Shared) (e : Expr) (d : D) : Prop := Ev F.prog F.w F.A F.env F.O s e d

section
variable {F : Fx} {s s' : Shared} {σ σ' : List (Str × Sl)} {μ : List (Addr × Wn)} {Q : Flow → Shared → Prop} {rest : List Stmt} {x : Str} {px pos : Pos} {e : Expr} {d : D}

theorem x_nil (h : Q .next s) : Ex F [] Q s := wpAny_execs_nil h

theorem x_assign (I : Inv F s σ μ) (he : FEv F μ s e d) (k : ∀ s', Inv F s' ((x, .dat d) :: σ) μ → Ex F rest Q s') (hk : Bindable F x) (hs : swapsWith e (some (.Name x px)) pos.line F.env = pure false := by rfl) :
    Ex F (.Assign [.Name x px] e pos :: rest) Q s :=
  wpAny_execs_cons (wpAny_Assign_Name (he.now _ fun v s₂ g r => Inv.store (I.gr g) (sl := .dat d) r (fun s₃ I₃ _ => k s₃ I₃) hk) hs)
theorem x_assign0 (I : Inv F s σ μ) (he : FEv0 F s e d) (hd : d.scalar = true) (k : ∀ s', Inv F s' ((x, .dat d) :: σ) μ → Ex F rest Q s') (hk : Bindable F x) (hs : swapsWith e (some (.Name x px)) pos.line F.env = pure false := by rfl) :
    Ex F (.Assign [.Name x px] e pos :: rest) Q s := x_assign I (he.scalar hd) k hk hs

/-- a list of the frame's own is made -/
theorem x_assignNew {es : List Expr} {ds : List D} {lp : Pos} (I : Inv F s σ μ) (he : Evs F.prog F.w F.A F.env (F.all μ) s es ds) (hz : ds.length ≤ sizeLine)
    (k : ∀ s' a, Inv F s' ((x, .raw (.ref a)) :: σ) ((a, .lst ds) :: μ) → Ex F rest Q s') (hk : Bindable F x) (hs : swapsWith (.List es lp) (some (.Name x px)) pos.line F.env = pure false := by rfl) :
    Ex F (.Assign [.Name x px] (.List es lp) pos :: rest) Q s :=
  wpAny_execs_cons (wpAny_Assign_Name (PyProof.Rows.List_ (he s (.refl s) lp _ fun vs s₂ g rs => by
    refine wpAny_newObj_type ?_ (by show vs.toArray.size ≤ sizeLine; simpa [rs.length] using hz)
    refine Inv.store ((I.gr g).newList (w := .lst ds) rs) (sl := .raw (.ref s₂.heap.objs.size)) rfl (fun s₃ I₃ _ => k s₃ _ I₃) hk)) hs)

theorem x_aug {op : Operator} {d₀ dr : D} (I : Inv F s σ μ) (hx : σ.lookup x = some (.dat d₀)) (he : FEv F μ s e dr) (ho : Op2 F.prog F.w F.A (F.all μ) (inplaceOp op) d₀ dr d)
    (k : ∀ s', Inv F s' ((x, .dat d) :: σ) μ → Ex F rest Q s') (hk : Bindable F x) : Ex F (.AugAssign (.Name x px) op e pos :: rest) Q s := by
  obtain ⟨v, l, r⟩ := I.var hx
  refine wpAny_execs_cons (wpAny_AugAssign_Name (l.load (he.now _ fun u s₂ g ru => ho s₂ v u (I.gr g).liveAll (g.rep r) ru _ fun y s₃ g₃ ry => ?_)))
  exact Inv.store (I.gr (g.trans g₃)) (sl := .dat d) ry (fun s₄ I₄ _ => k s₄ I₄) hk

theorem op_iaddI {prog : Program} {w : World} {A : Around} {O : List Addr} {a b : Int} : Op2 prog w A O (inplaceOp .Add) (.int a) (.int b) (.int (a + b)) := fun s u v _ hu hv Q hQ => by
  cases hu; cases hv; exact P.iadd_int (hQ _ _ .toks (.int _ _))
theorem op_isubI {prog : Program} {w : World} {A : Around} {O : List Addr} {a b : Int} : Op2 prog w A O (inplaceOp .Sub) (.int a) (.int b) (.int (a - b)) := fun s u v _ hu hv Q hQ => by
  cases hu; cases hv; exact P.isub_int (hQ _ _ .toks (.int _ _))
theorem op_iaddS {prog : Program} {w : World} {A : Around} {O : List Addr} {a b : Str} (hz : a.length + b.length ≤ sizeLine) : Op2 prog w A O (inplaceOp .Add) (.str a) (.str b) (.str (a ++ b)) := fun s u v _ hu hv Q hQ => by
  cases hu; cases hv; exact SB.iadd (fun t' k => hQ _ _ .toks (.str _ _)) hz

theorem x_if {test : Expr} {body orelse : List Stmt} {b : Bool} (ht : Tr F.prog F.w F.A F.env s test b)
    (h1 : ∀ s', Gr s s' → b = true → Ex F body (fun f s'' => match f with | .next => Ex F rest Q s'' | f => Q f s'') s')
    (h2 : ∀ s', Gr s s' → b = false → Ex F orelse (fun f s'' => match f with | .next => Ex F rest Q s'' | f => Q f s'') s') : Ex F (.If test body orelse pos :: rest) Q s := by
  refine wpAny_execs_cons (wpAny_If (ht s (.refl s) _ fun s₂ g => ?_))
  cases b with
  | true => exact h1 s₂ g rfl
  | false => exact h2 s₂ g rfl

theorem x_return (he : FEv0 F s e d) (k : ∀ v s', Gr s s' → Rep (Fz F.O s'.heap) v d → Q (.ret v) s') : Ex F (.Return (some e) pos :: rest) Q s :=
  wpAny_execs_cons (wpAny_Return_some (he.now _ fun v s₂ g r => k v s₂ g r))

theorem mem_split {a : Addr} {w : Wn} : ∀ {μ : List (Addr × Wn)}, (a, w) ∈ μ → ∃ μ₁ μ₂, μ = μ₁ ++ (a, w) :: μ₂ := fun h => List.append_of_mem h

/-- x.append(e), x a list of the frame's own -/
theorem x_append {ap cp : Pos} {a : Addr} {ds : List D} {μ₁ μ₂ : List (Addr × Wn)} (I : Inv F s σ μ) (hx : Look F.env s.heap x (.ref a)) (hμ : μ = μ₁ ++ (a, .lst ds) :: μ₂) (he : FEv F μ s e d) (hz : ds.length ≤ sizeLine)
    (k : ∀ s', Inv F s' σ (μ₁ ++ (a, .lst (ds ++ [d])) :: μ₂) → Ex F rest Q s')
    (hbase : attributeBase (.Name x px) "append" F.env (eval (.Name x px) F.env) = eval (.Name x px) F.env := by rfl) (hse : starEach [e] F.env = [(false, eval e F.env)] := by rfl) (hline : (ap.endLine == cp.line) = true := by rfl)
    (hs : swapsWith (.Call (.Attribute (.Name x px) "append" ap) [e] [] cp) none pos.line F.env = pure false := by rfl) (hd : (x == ("__debug__" : Str)) = false := by kernel_rfl) :
    Ex F (.Expr (.Call (.Attribute (.Name x px) "append" ap) [e] [] cp) pos :: rest) Q s := by
  have hm : (a, Wn.lst ds) ∈ μ := by rw [hμ]; simp
  obtain ⟨vs, n, ho, hr⟩ := I.muts a _ hm
  refine wpAny_execs_cons (wpAny_Expr (Call_method1 hbase hse hline (wpAny_Name (hx.load ?_) hd)) (by unfold interactive; rw [I.kind]; rfl) hs)
  refine ⟨"list", "list.append", PySem.F.plainAttrs_list, PySem.F.slot_list_append, PySem.F.type_list_append, ⟨_, ho, rfl⟩, (fun b e => by cases e; exact ⟨_, ho, rfl⟩), ?_⟩
  refine callWith_builtin rfl (evalArgs_plain (spliced_cons (he.now _ fun v s₂ g r => spliced_nil ?_)))
  have I₂ := I.gr g
  have ho₂ := g.heap _ _ ho
  refine wpAny_list_append_plain (items := vs.toArray) ⟨n, ho₂⟩ (fun h' hl hsb => ?_) (by simpa [hr.length] using hz)
  obtain ⟨n', hl⟩ := hl
  have e1 : vs.toArray.push v = (vs ++ [v]).toArray := by simp
  rw [e1] at hl
  exact k _ (I₂.setList hμ hsb hl (w' := .lst (ds ++ [d])) ((g.reps hr).append (.one r)))


/-- what a turn must leave -/
abbrev Turn (F : Fx) (B : Addr → Obj → Prop) (O : List Addr) (σ' : List (Str × Sl)) (μ' : List (Addr × Wn)) (Q : Flow → Shared → Prop) : Flow → Shared → Prop := fun f s'' => match f with
  | .next => Inv (F.with B O) s'' σ' μ'
  | .cont => Inv (F.with B O) s'' σ' μ'
  | .brk => False
  | .ret v => Q (.ret v) s''

theorem x_for {iter : Expr} {body : List Stmt} {ds : List D} (hh : F.A.handled = none) (I : Inv F s σ μ) (he : FEv F μ s iter d) (hi : IterD d ds)
    (J : Nat → List (Str × Sl)) (M : Nat → List (Addr × Wn)) (h0 : Subs (J 0) σ) (hM0 : M 0 = μ) (hM : ∀ i, (M i).map (·.1) = μ.map (·.1)) (hx : Bindable F x)
    (turn : ∀ i (B : Addr → Obj → Prop) (O : List Addr) s', i < ds.length → (∀ a o, F.B a o → B a o) → (∀ a ∈ F.O, a ∈ O) → Inv (F.with B O) s' ((x, .dat (ds.getD i .none)) :: J i) (M i) →
      Ex (F.with B O) body (Turn F B O (J (i + 1)) (M (i + 1)) Q) s')
    (done : ∀ s', Inv F s' (J ds.length) (M ds.length) → Ex F rest Q s') (hs : ∀ v, foldedSetIterable iter F.env v = pure v := by intro _; rfl) :
    Ex F (.For (.Name x px) iter body [] pos :: rest) Q s := by
  refine wpAny_execs_cons (wpAny_For (he.now _ fun v s₁ g r => ?_) hs)
  have I₁ := I.gr g
  refine pyIter_dat hh r hi fun It fp wr P St s₂ g₂ hnew hfp hob hlt W hst hP => ?_
  refine for_name (R := fun r s' => match r with
    | .ok f => (match f with | .next => Ex F rest Q s' | f => Q f s')
    | .error e => cameBackBy (model F.prog F.w) F.A F.env Never e s') I₁ g₂ hnew (fun b hb hm => ?_) hob (W F.A hh) hst (fun i => ds.getD i .none) (fun i v s' hi hp hk => ?_) J M h0 hM0 hM hx (fun i B O s' hi hB hO I' => ?_) done
  · rcases hfp b hb with h | ⟨o, h⟩
    · obtain ⟨o, ho⟩ := I₁.ownLive hm
      have := hnew b h; rw [ho] at this; cases this
    · exact h.2 (List.mem_append.mpr (.inl hm))
  · refine hP i v _ hi hp fun a o h => ?_
    have haw : a ∉ wr := fun hw => by have := hnew a hw; rw [h.1] at this; cases this
    refine ⟨hk a o (fun hm => h.2 (List.mem_append.mpr (.inl hm))) haw h.1, fun hm => ?_⟩
    rcases List.mem_append.mp hm with hm | hm
    · exact h.2 (List.mem_append.mpr (.inl hm))
    · rcases List.mem_append.mp hm with hm | hm
      · exact h.2 (List.mem_append.mpr (.inr hm))
      · exact haw hm
  · refine wpAny_mono (turn i B O s' hi hB hO I') (fun f s'' h => ?_) fun _ _ e => e
    cases f with
    | next => exact h
    | cont => exact h
    | brk => exact h.elim
    | ret v => exact h

/-- for i, v in enumerate(e) -/
theorem x_forEnum {y : Str} {py pt np cp : Pos} {k₁ : Nat} {body : List Stmt} {ds : List D} (hh : F.A.handled = none) (I : Inv F s σ μ)
    (hf : EvV F.prog F.w F.A F.env s (.Name "enumerate" np) (.type "enumerate")) (he : FEv F μ s e (.list ds))
    (J : Nat → List (Str × Sl)) (M : Nat → List (Addr × Wn)) (h0 : Subs (J 0) σ) (hM0 : M 0 = μ) (hM : ∀ i, (M i).map (·.1) = μ.map (·.1)) (hx : Bindable F x) (hy : Bindable F y)
    (turn : ∀ i (B : Addr → Obj → Prop) (O : List Addr) s', i < ds.length → (∀ a o, F.B a o → B a o) → (∀ a ∈ F.O, a ∈ O) → Inv (F.with B O) s' ((y, .dat (ds.getD i .none)) :: (x, .dat (.int i)) :: J i) (M i) →
      Ex (F.with B O) body (Turn F B O (J (i + 1)) (M (i + 1)) Q) s')
    (done : ∀ s', Inv F s' (J ds.length) (M ds.length) → Ex F rest Q s') (hs : ∀ v, foldedSetIterable (.Call (.Name "enumerate" np) [e] [] cp) F.env v = pure v := by intro _; rfl)
    (hse : starEach [e] F.env = [(false, eval e F.env)] := by rfl) :
    Ex F (.For (.Tuple [.Name x px, .Name y py] k₁ pt) (.Call (.Name "enumerate" np) [e] [] cp) body [] pos :: rest) Q s := by
  refine wpAny_execs_cons (wpAny_For (Call_name1 hse (hf s (.refl s) _ _ (callWith_type1 (he.now _ fun v s₁ g r => ?_)))) hs)
  have I₁ := I.gr g
  cases r with
  | @list l vs n _ hl rl =>
    have hL : s₁.heap.IsList l vs.toArray := ⟨_, hl.1, rfl, n, rfl⟩
    have hll := Heap.lt_size hl.1
    refine call_enumerate_1 hl.1 fun h' hen hit hsz hk => ?_
    have g₂ : Gr s₁ { s₁ with heap := h' } := .keeps hk
    have fresh : ∀ b, s₁.heap.objs.size ≤ b → s₁.heap.get? b = none := fun b hb => by
      cases e : s₁.heap.get? b with
      | none => rfl
      | some o => exact absurd (Heap.lt_size e) (Nat.not_lt.mpr hb)
    have hle : l ≠ s₁.heap.objs.size + 1 := Nat.ne_of_lt (Nat.lt_succ_of_lt hll)
    have hli : l ≠ s₁.heap.objs.size := Nat.ne_of_lt hll
    have W := (WalksT.enumerate (prog := F.prog) (w := F.w) hh (s₁.heap.objs.size + 1) s₁.heap.objs.size l (Nat.succ_ne_self _) hle hli vs.toArray).toU
    have hn : vs.toArray.size = ds.length := by simpa using rl.length
    rw [hn] at W
    refine wpAny_pyIter_enum hen ?_
    refine for_pair (wr := [s₁.heap.objs.size + 1, s₁.heap.objs.size]) (R := fun r s' => match r with
      | .ok f => (match f with | .next => Ex F rest Q s' | f => Q f s')
      | .error e => cameBackBy (model F.prog F.w) F.A F.env Never e s') hh I₁ g₂ (fun b hb => ?_) (fun b hb hm => ?_) ?_ W ⟨⟨_, hen⟩, hit, hL.at fun o e => hk l o e⟩ (fun i => .int i) (fun i => ds.getD i .none) (fun i vals s' hi hp hkk => ?_) J M h0 hM0 hM hx hy (fun i B O s' hi hB hO I' => ?_) done
    · rcases List.mem_cons.mp hb with e | hb
      · rw [e]; exact fresh _ (Nat.le_succ _)
      · rw [List.mem_singleton.mp hb]; exact fresh _ (Nat.le_refl _)
    · obtain ⟨o, ho⟩ := I₁.ownLive hm
      have hlt := Heap.lt_size ho
      rcases List.mem_cons.mp hb with e | hb
      · rw [e] at hlt; exact absurd hlt (Nat.not_lt.mpr (Nat.le_succ _))
      · rcases List.mem_cons.mp hb with e | hb
        · rw [e] at hlt; exact Nat.lt_irrefl _ hlt
        · rw [List.mem_singleton.mp hb] at hm; exact hl.2 (List.mem_append.mpr (.inl hm))
    · rintro i h ⟨⟨old, h1⟩, ⟨o, h2, _⟩, _⟩ b hb
      rcases List.mem_cons.mp hb with e | hb
      · rw [e]; exact ⟨_, h1⟩
      · rw [List.mem_singleton.mp hb]; exact ⟨_, h2⟩
    · obtain ⟨t, u, hu, rfl⟩ := hp
      have hu' : vs[i]? = some u := by simpa using hu
      obtain ⟨d, hd, r⟩ := rl.get hu'
      refine ⟨_, _, rfl, .int _ _, ?_⟩
      rw [List.getD_eq_getElem?_getD, hd]
      refine Rep.mono (fun a o h => ?_) r
      have haw : a ∉ [s₁.heap.objs.size + 1, s₁.heap.objs.size] := fun hw => by
        have hlt := Heap.lt_size h.1
        rcases List.mem_cons.mp hw with e | hw
        · rw [e] at hlt; exact absurd hlt (Nat.not_lt.mpr (Nat.le_succ _))
        · rw [List.mem_singleton.mp hw] at hlt; exact Nat.lt_irrefl _ hlt
      refine ⟨hkk a o (fun hm => h.2 (List.mem_append.mpr (.inl hm))) haw h.1, fun hm => ?_⟩
      rcases List.mem_append.mp hm with hm | hm
      · exact h.2 (List.mem_append.mpr (.inl hm))
      · rcases List.mem_append.mp hm with hm | hm
        · exact h.2 (List.mem_append.mpr (.inr hm))
        · exact haw hm
    · refine wpAny_mono (turn i B O s' hi hB hO I') (fun f s'' h => ?_) fun _ _ e => e
      cases f with
      | next => exact h
      | cont => exact h
      | brk => exact h.elim
      | ret v => exact h
end
end Mine

namespace Mine
open PySem PySem.Calls

/-- a def of the text stands at a -/
def FnAt (h : Heap) (a : Addr) (name : Str) (params : Arguments) (body : List Stmt) (scope : Scope) : Prop :=
  ∃ o pm cd doc, h.get? a = some o ∧ o.data = .func (docDef name params body scope pm cd doc) ∧ h.CodeRec cd name
theorem FnAt.keeps {h h' : Heap} {a : Addr} {name : Str} {params : Arguments} {body : List Stmt} {scope : Scope} (f : FnAt h a name params body scope) (hk : ∀ a o, h.get? a = some o → h'.get? a = some o) : FnAt h' a name params body scope :=
  let ⟨o, pm, cd, doc, x, y, z⟩ := f; ⟨o, pm, cd, doc, hk _ _ x, y, z.keeps hk⟩

/-- the frame of a call -/
@[reducible] def fxOf (prog : Program) (w : World) (A : Around) (O : List Addr) (s : Shared) (env : Env) : Fx := ⟨prog, w, A.deeper env, env, O, fun a o => s.heap.get? a = some o, env.cells.map (·.2), s⟩
@[reducible] def envFor (name : Str) (params : Arguments) (body : List Stmt) (scope : Scope) (pm cd doc : Value) (L a : Addr) : Env := callEnvC (docDef name params body scope pm cd doc) L a

section
variable {prog : Program} {w : World} {A : Around} {O : List Addr} {s : Shared}

theorem nodup_snd : ∀ {l : List (Str × Addr)}, (l.map (·.2)).Nodup → ∀ {n n' : Str} {c : Addr}, (n, c) ∈ l → (n', c) ∈ l → n = n'
  | (y, b) :: r, hp, n, n', c, h, h' => by
    obtain ⟨h1, h2⟩ := List.nodup_cons.mp hp
    rcases List.mem_cons.mp h with e | h <;> rcases List.mem_cons.mp h' with e' | h'
    · cases e; cases e'; rfl
    · cases e; exact absurd (List.mem_map.mpr ⟨_, h', rfl⟩) h1
    · cases e'; exact absurd (List.mem_map.mpr ⟨_, h, rfl⟩) h1
    · exact nodup_snd h2 h h'
theorem lookup_of_mem : ∀ {l : List (Str × Addr)}, (l.map (·.1)).Nodup → ∀ {n : Str} {c : Addr}, (n, c) ∈ l → l.lookup n = some c
  | (y, b) :: r, hp, n, c, h => by
    obtain ⟨h1, h2⟩ := List.nodup_cons.mp hp
    rw [List.lookup_cons]
    rcases List.mem_cons.mp h with e | h
    · cases e; simp
    · have : (n == y) = false := by
        have : n ≠ y := fun e => h1 (e ▸ List.mem_map.mpr ⟨_, h, rfl⟩)
        simpa using this
      rw [this]; exact lookup_of_mem h2 h
theorem cellsFrom_names : ∀ (names : List (Str × NameKind)) (n m : Nat) (acc acc' : List (Str × Addr)), acc.map (·.1) = acc'.map (·.1) → (cellsFrom n names acc).map (·.1) = (cellsFrom m names acc').map (·.1)
  | [], _, _, _, _, h => h
  | (x, k) :: r, n, m, acc, acc', h => by
    unfold cellsFrom
    split
    · exact cellsFrom_names r _ _ _ _ (by simp [h])
    · exact cellsFrom_names r _ _ _ _ h

/-- what the block of a def must hand back -/
abbrev Back (s : Shared) (O : List Addr) (d : D) : Flow → Shared → Prop := fun f s' => match f with
  | .ret v => Gr s s' ∧ Rep (Fz O s'.heap) v d
  | _ => Gr s s' ∧ d = .none

theorem Inv.grow {F : Fx} {s' : Shared} {σ : List (Str × Sl)} {μ : List (Addr × Wn)} (I : Inv F s' σ μ) (hB : ∀ a o, F.s₀.heap.get? a = some o → F.B a o) : Gr F.s₀ s' :=
  ⟨I.drawn, I.os, fun a o h => (I.base a o (hB a o h)).1, I.gens⟩

theorem fn_enter {a : Addr} {name : Str} {params : Arguments} {body : List Stmt} {scope : Scope} {vs : List Value} {binds : List (Str × Value)} {σ : List (Str × Sl)} {d : D} (hlim : s.heap.NoLimit) (hroom : A.depth < recursionLimit)
    (hf : FnAt s.heap a name params body scope) (lv : Live O s.heap)
    (hbind : ∀ pm cd doc, bindArgs (docDef name params body scope pm cd doc) ⟨vs, []⟩ = pure binds)
    (hkind : ∀ L, ∀ x ∈ binds, scope.names.lookup x.1 = some .local ∨ (scope.names.lookup x.1 = some .cell ∧ ((cellsFrom L scope.names []).lookup x.1).isSome = true))
    (hσ : ∀ (env : Env), env.scope = scope → (∀ n, env.cells.lookup n = (cellsFrom (env.locals + 1) scope.names []).lookup n) → ∀ x sl, σ.lookup x = some sl →
      ∃ v, got env (bindL env.kindOf binds fun _ => none) (bindC env.kindOf binds fun _ => none) x = some v ∧ sl.ok (Fz O s.heap) v)
    (h : ∀ (env : Env) (L : Addr) (pm cd doc : Value) (s₁ : Shared), env = envFor name params body scope pm cd doc L a → Inv (fxOf prog w A O s env) s₁ σ [] → Gr s s₁ → Ex (fxOf prog w A O s env) body (Back s O d) s₁)
    (hdup : ((cellsFrom 0 scope.names []).map (·.1)).Nodup := by decide +kernel) (hco : scope.isCoroutine = false := by rfl) (hgen : scope.isGenerator = false := by rfl) (hk : scope.kind = .function := by rfl) :
    To prog w A O s (call (.ref a) vs) d := fun Q hQ => by
  obtain ⟨o, pm, cd, doc, ho, hd, hcd⟩ := hf
  refine wpAny_call (codeAny_call_cells hroom ho hd hlim hcd rfl (hbind pm cd doc) rfl (hkind _) (fun s₁ X => ?_) hco hgen hk)
  obtain ⟨⟨⟨h₁, tk₁, rfl⟩, hns, hkeep, hfr⟩, hcell, hap, hab⟩ := X
  have g : Gr s { s with heap := h₁, toks := tk₁ } := .keeps hkeep
  refine wpAny_mono (h (callEnvC (docDef name params body scope pm cd doc) s.heap.objs.size a) s.heap.objs.size pm cd doc { s with heap := h₁, toks := tk₁ } rfl ?_ g) (fun f s' hb => ?_) fun _ _ e => e.elim
  · have fresh : ∀ b, s.heap.objs.size ≤ b → ∀ o, s.heap.get? b ≠ some o := fun b hb o e => absurd (Heap.lt_size e) (Nat.not_lt.mpr hb)
    have hown : ∀ b ∈ (fxOf prog w A O s (callEnvC (docDef name params body scope pm cd doc) s.heap.objs.size a)).own [], s.heap.objs.size ≤ b := by
      intro b hb
      rcases List.mem_cons.mp hb with e | hb
      · rw [e]; exact Nat.le_refl _
      · rcases List.mem_append.mp hb with hb | hb
        · obtain ⟨⟨n, c⟩, hm, rfl⟩ := List.mem_map.mp hb
          exact Nat.le_of_lt (hab n c hm)
        · cases hb
    have hnd : ((callEnvC (docDef name params body scope pm cd doc) s.heap.objs.size a).cells.map (·.2)).Nodup := by
      rw [List.nodup_iff_pairwise_ne, List.pairwise_map]; exact hap
    refine ⟨hk, rfl, rfl, .refl _, fun b o e => ⟨hkeep b o e, fun hm => fresh b (hown b hm) o e⟩, fun b hb hm => ?_, lv.gr g, ?_, fun n c e => .inl (List.mem_map.mpr ⟨_, mem_of_lookup e, rfl⟩), fun n n' c e e' _ => nodup_snd hnd (mem_of_lookup e) (mem_of_lookup e'), ⟨_, _, hns, hcell, fun c hc => ?_, fun x sl e => ?_⟩, fun b w hm => (nomatch hm)⟩
    · obtain ⟨o, e⟩ := lv b hb; exact fresh b (hown b hm) o e
    · refine List.nodup_cons.mpr ⟨fun hm => ?_, by rw [List.map_nil, List.append_nil]; exact hnd⟩
      rcases List.mem_append.mp hm with hm | hm
      · obtain ⟨⟨n, c⟩, hm, e⟩ := List.mem_map.mp hm
        have := hab n c hm
        exact Nat.lt_irrefl _ (e ▸ this)
      · cases hm
    · obtain ⟨⟨n, c'⟩, hm, rfl⟩ := List.mem_map.mp hc
      have hd' : ((callEnvC (docDef name params body scope pm cd doc) s.heap.objs.size a).cells.map (·.1)).Nodup := by
        rw [show (callEnvC (docDef name params body scope pm cd doc) s.heap.objs.size a).cells.map (·.1) = (cellsFrom 0 scope.names []).map (·.1) from cellsFrom_names _ _ _ _ _ rfl]; exact hdup
      exact ⟨_, hcell n c' (lookup_of_mem hd' hm)⟩
    · obtain ⟨v, h1, h2⟩ := hσ (callEnvC (docDef name params body scope pm cd doc) s.heap.objs.size a) rfl (fun _ => rfl) x sl e
      refine ⟨v, h1, h2.mono fun b o x => ⟨hkeep b o x.1, fun hm => ?_⟩⟩
      rcases List.mem_append.mp hm with hm | hm
      · exact fresh b (hown b hm) o x.1
      · exact x.2 hm
  · cases f with
    | ret v => exact hQ v s' hb.1 hb.2
    | next => obtain ⟨g, rfl⟩ := hb; exact hQ _ s' g .none
    | brk => obtain ⟨g, rfl⟩ := hb; exact hQ _ s' g .none
    | cont => obtain ⟨g, rfl⟩ := hb; exact hQ _ s' g .none

theorem got_skip {env : Env} {x : Str} : ∀ (binds : List (Str × Value)) (m cm : Str → Option Value), (∀ y ∈ binds, x ≠ y.1) → got env (bindL env.kindOf binds m) (bindC env.kindOf binds cm) x = got env m cm x
  | [], _, _, _ => rfl
  | (n, v) :: r, m, cm, h => by
    unfold bindL bindC
    rw [got_skip r _ _ fun y hy => h y (List.mem_cons_of_mem _ hy)]
    have hne : x ≠ n := h (n, v) (List.mem_cons_self ..)
    by_cases hk : env.kindOf n = some .local
    · rw [if_pos hk, if_pos hk]; unfold got; simp only [hne, if_false]
    · rw [if_neg hk, if_neg hk]; unfold got; simp only [hne, if_false]
theorem got_binds {env : Env} : ∀ (ns : List Str) (vs : List Value) (ds : List D) (P : Addr → Obj → Prop) (m cm : Str → Option Value), ns.Nodup → Reps P vs ds →
    (∀ n ∈ ns, env.kindOf n = some .local ∨ (env.kindOf n = some .cell ∧ (env.cells.lookup n).isSome = true)) → ∀ x sl, (ns.zip (ds.map Sl.dat)).lookup x = some sl →
    ∃ v, got env (bindL env.kindOf (ns.zip vs) m) (bindC env.kindOf (ns.zip vs) cm) x = some v ∧ sl.ok P v
  | [], _, _, _, _, _, _, _, _, x, sl, h => by cases h
  | n :: ns, [], ds, _, _, _, _, hr, _, x, sl, h => by cases hr; cases h
  | n :: ns, v :: vs, ds, P, m, cm, hnd, hr, hk, x, sl, h => by
    cases hr with
    | @cons _ _ d ds r rs =>
    obtain ⟨h1, h2⟩ := List.nodup_cons.mp hnd
    simp only [List.map_cons, List.zip_cons_cons] at h
    by_cases hx : x = n
    · subst hx
      cases lookup_eq h
      refine ⟨v, ?_, r⟩
      simp only [List.zip_cons_cons]
      unfold bindL bindC
      rw [got_skip _ _ _ fun y hy (e : x = y.1) => h1 (by rw [e]; exact (List.of_mem_zip hy).1)]
      rcases hk x (List.mem_cons_self ..) with hl | ⟨hl, hc⟩
      · rw [if_pos hl]; unfold got; simp [hl]
      · have : ¬ env.kindOf x = some .local := by rw [hl]; simp
        rw [if_neg this, if_neg this]; unfold got; simp only [hl]
        obtain ⟨c, hc⟩ := Option.isSome_iff_exists.mp hc
        simp [hc]
    · simp only [List.zip_cons_cons]
      unfold bindL bindC
      exact got_binds ns vs ds P _ _ h2 rs (fun n hn => hk n (List.mem_cons_of_mem _ hn)) x sl (lookup_ne h hx)

structure FrameOf (env : Env) (scope : Scope) (L : Addr) : Prop where
  sc : env.scope = scope
  gl : env.globals = mainGlobals
  bi : env.builtins = builtinsNs
  ce : env.cells = cellsFrom (L + 1) scope.names []
theorem FrameOf.kind {env : Env} {scope : Scope} {L : Addr} (f : FrameOf env scope L) {x : Str} {k : Option NameKind} (h : scope.names.lookup x = k) : env.kindOf x = k := by
  unfold Env.kindOf; rw [f.sc]; exact h

theorem kind_of {scope : Scope} {ns : List Str} (h : (ns.all fun n => scope.names.lookup n == some .local || scope.names.lookup n == some .cell) = true) (L : Nat) (n : Str) (hn : n ∈ ns) :
    scope.names.lookup n = some .local ∨ (scope.names.lookup n = some .cell ∧ ((cellsFrom L scope.names []).lookup n).isSome = true) := by
  have := List.all_eq_true.mp h n hn
  rcases Bool.or_eq_true_iff.mp this with q | q
  · exact .inl (by simpa using q)
  · have q' : scope.names.lookup n = some .cell := by simpa using q
    exact .inr ⟨q', PySem.W.cellsFrom_some _ _ _ (.inl q')⟩

theorem fn_call {a : Addr} {name : Str} {params : Arguments} {body : List Stmt} {scope : Scope} (ns : List Str) (σ : List (Str × Sl)) {ds : List D} {d : D} (hlim : s.heap.NoLimit) (hroom : A.depth < recursionLimit)
    (hf : FnAt s.heap a name params body scope) (lv : Live O s.heap) (hnd : ns.Nodup) (hσ : ns.zip (ds.map .dat) = σ)
    (hbind : ∀ vs, vs.length = ds.length → ∀ pm cd doc, bindArgs (docDef name params body scope pm cd doc) ⟨vs, []⟩ = pure (ns.zip vs))
    (hkind : (ns.all fun n => scope.names.lookup n == some .local || scope.names.lookup n == some .cell) = true)
    (h : ∀ (s₀ : Shared) (env : Env) (L : Addr) (s₁ : Shared), Gr s s₀ → Live O s₀.heap → FrameOf env scope L → Inv (fxOf prog w A O s₀ env) s₁ σ [] → Gr s₀ s₁ → Ex (fxOf prog w A O s₀ env) body (Back s₀ O d) s₁)
    (hdup : ((cellsFrom 0 scope.names []).map (·.1)).Nodup := by decide +kernel) (hco : scope.isCoroutine = false := by rfl) (hgen : scope.isGenerator = false := by rfl) (hk : scope.kind = .function := by rfl) :
    CallTo prog w A O s (.ref a) ds d := fun s₀ g vs r => by
  subst hσ
  refine fn_enter (binds := ns.zip vs) (σ := ns.zip (ds.map .dat)) (hlim.keeps g.heap) hroom (hf.keeps g.heap) (lv.gr g) (hbind vs r.length) (fun L x hx => ?_) (fun env hs hc x sl e => ?_) (fun env L pm cd doc s₁ he I g₁ => h s₀ env L s₁ g (lv.gr g) (by subst he; exact ⟨rfl, rfl, rfl, rfl⟩) I g₁) hdup hco hgen hk
  · exact kind_of hkind L x.1 (List.of_mem_zip hx).1
  · refine got_binds ns vs ds _ _ _ hnd r (fun n hn => ?_) x sl e
    unfold Env.kindOf
    rw [hs, hc]
    exact kind_of hkind _ n hn
end
end Mine

namespace Mine
open PySem PySem.Calls PySem.Builtin

def Asc (x : Str) : Prop := ∀ c ∈ x.cps.toList, c < 128
def toB (x : Str) : Array UInt8 := x.cps.map (·.toUInt8)
def ofB (b : Array UInt8) : Str := ⟨b.map (·.toNat)⟩

theorem asc_not_bad {x : Str} (h : Asc x) : x.cps.findIdx? Str.isSurrogate = none := by
  rw [Array.findIdx?_eq_none_iff]
  intro c hc
  have := h c (Array.mem_toList_iff.mpr hc)
  unfold Str.isSurrogate
  simp only [Bool.and_eq_false_iff, decide_eq_false_iff_not]
  omega
theorem utf8Of_asc {c : Nat} (h : c < 128) : Str.utf8Of c = [c.toUInt8] := by unfold Str.utf8Of; rw [if_pos h]
theorem foldl_utf8 : ∀ (l : List Nat) (acc : Array UInt8), (∀ c ∈ l, c < 128) → l.foldl (fun acc y => acc ++ (Str.utf8Of y).toArray) acc = acc ++ (l.map (·.toUInt8)).toArray
  | [], acc, _ => by simp
  | c :: l, acc, h => by
    rw [List.foldl_cons, utf8Of_asc (h c (List.mem_cons_self ..)), foldl_utf8 l _ fun d hd => h d (List.mem_cons_of_mem _ hd)]
    simp

open Builtin._codecs in
theorem encodeNarrow_asc (id : String) (self : Value) (x : Str) (h : Asc x) (hz : x.length ≤ sizeLine) : encodeNarrow id utf8Codec none self x = pure (toB x) := by
  have hb := asc_not_bad h
  have hf : x.cps.foldl (fun acc y => acc ++ (Str.utf8Of y).toArray) #[] = toB x := by
    obtain ⟨⟨l⟩⟩ := x
    have := foldl_utf8 l #[] h
    simpa [toB] using this
  unfold encodeNarrow
  simp only [Std.Legacy.Range.forIn_eq_forIn_range']
  rw [show Std.Legacy.Range.size [:x.length] = x.length by simp [Std.Legacy.Range.size]]
  cases hx : x.length with
  | zero =>
    have : toB x = #[] := by
      apply Array.eq_empty_of_size_eq_zero
      unfold toB
      rw [Array.size_map]; exact hx
    rw [this]; rfl
  | succ n =>
    rw [show List.range' 0 (n + 1) 1 = 0 :: List.range' 1 n 1 from rfl, List.forIn_cons]
    have hpos : 0 < x.cps.size := by have : x.cps.size = n + 1 := hx; omega
    have h0 : x.cps[0]? = some x.cps[0] := Array.getElem?_eq_getElem hpos
    have hb0 : utf8Codec.bad x.cps[0] = false := by
      have := h x.cps[0] (by simp)
      show Str.isSurrogate _ = false
      unfold Str.isSurrogate
      simp only [Bool.and_eq_false_iff, decide_eq_false_iff_not]
      omega
    have hbad : Array.findIdx? utf8Codec.bad x.cps = none := hb
    have hex : x.cps.extract 0 = x.cps := by simp
    have hf' : Array.foldl (fun acc y => acc ++ (utf8Codec.bytesOf y).toArray) #[] x.cps = toB x := hf
    have hz0 : ¬ (#[] : Array UInt8).size > sizeLine := by simp
    have hz1 : ¬ (toB x).size > sizeLine := by
      unfold toB; rw [Array.size_map]; have : x.cps.size ≤ sizeLine := hz; omega
    have hend : x.cps[x.cps.size]? = none := by simp
    simp only [hz0, if_false, h0, hb0, Bool.not_false, if_true, hex, hbad, Option.getD_none, hf', Array.extract_size, Nat.zero_add, pure_bind]
    cases n with
    | zero => simp
    | succ m =>
      rw [show List.range' 1 (m + 1) 1 = 1 :: List.range' 2 m 1 from rfl, List.forIn_cons]
      simp only [hz1, if_false, hend, pure_bind]

theorem encode_tree2 (x : Str) (t u : Tok) : «str.encode» ⟨[.str x t, .str (Str.ofString "utf-8") u], []⟩ = (do ret (← _codecs.encodeRoad "str.encode" (.str x t) x (Str.ofString "utf-8") none)) := by kernel_rfl
theorem meets_encode (x : Str) (t u : Tok) (h : Asc x) (hz : x.length ≤ sizeLine) :
    Meets («str.encode» ⟨[.str x t, .str (Str.ofString "utf-8") u], []⟩) (fun _ R s => R (.ok (.ret (.bytes (toB x) s.toks))) { s with toks := s.toks + 1 }) := by
  refine .of_wp fun prog w A R s hS => ?_
  rw [encode_tree2, encodeRoad_utf8, encodeNarrow_asc _ _ _ h hz]
  refine wpAny_bind (wpAny_bind (wpAny_pure ?_))
  have hz' : ¬ (toB x).size > sizeLine := by unfold toB; rw [Array.size_map]; have : x.cps.size ≤ sizeLine := hz; omega
  unfold mkBytes
  rw [if_neg hz']
  intro _ _ _ _ _ _
  exact ⟨_, rfl, hS⟩

def Asb (b : Array UInt8) : Prop := ∀ c ∈ b.toList, c.toNat < 128
theorem utf8At_asc {b : Array UInt8} {p : Nat} {c : UInt8} (hc : b[p]? = some c) (h : c.toNat < 128) : Bytes.utf8At b p = (.char c.toNat, p + 1) := by
  unfold Bytes.utf8At
  simp only [Array.getD_eq_getD_getElem?, hc, Option.getD_some, h, if_true]

open Builtin._codecs in
theorem find_asc {b : Array UInt8} {p : Nat} {c : UInt8} (hc : b[p]? = some c) (h : c.toNat < 128) : utf8Decoder.find true b p = .char c.toNat (p + 1) := by
  show (match Bytes.utf8At b p with
    | (.char c, next) => Found.char c next
    | (.bad _ stop reason, _) => .bad stop reason (reason == "unexpected end of data" || (b.getD p 0 == 0xED && p + 2 == b.size && 0xA0 ≤ b.getD (p + 1) 0 && b.getD (p + 1) 0 ≤ 0xBF))) = _
  rw [utf8At_asc hc h]
open Builtin._codecs in
theorem decode_loop (b : Array UInt8) (h : Asb b) (hz : b.size ≤ sizeLine) (st : Faults) (f : Nat → (Nat × Array Nat × Faults) → Sem (ForInStep (Nat × Array Nat × Faults)))
    (hf : ∀ i p out c, b[p]? = some c → c.toNat < 128 → out.size ≤ sizeLine → f i (p, out, st) = pure (.yield (p + 1, out.push c.toNat, st))) :
    ∀ (l : List Nat) (p : Nat), p + l.length = b.size → forIn l (p, (b.map (·.toNat)).extract 0 p, st) f = pure (b.size, b.map (·.toNat), st)
  | [], p, e => by
    rw [List.forIn_nil]
    have : p = b.size := by simpa using e
    subst this
    rw [show (b.map (·.toNat)).extract 0 b.size = b.map (·.toNat) by rw [← Array.size_map (f := (·.toNat))]; simp]
  | i :: l, p, e => by
    have hp : p < b.size := by rw [List.length_cons] at e; omega
    have hc : b[p]? = some b[p] := Array.getElem?_eq_getElem hp
    rw [List.forIn_cons, hf i p _ _ hc (h _ (by simp)) (by rw [Array.size_extract, Array.size_map]; omega), pure_bind]
    have e2 : ((b.map (·.toNat)).extract 0 p).push b[p].toNat = (b.map (·.toNat)).extract 0 (p + 1) := by
      rw [Array.extract_succ_right (by omega) (by rw [Array.size_map]; exact hp)]
      simp
    rw [e2]
    exact decode_loop b h hz st f hf l (p + 1) (by rw [List.length_cons] at e; omega)
open Builtin._codecs in
theorem runDecoder_asc (id : String) (b : Array UInt8) (h : Asb b) (hz : b.size ≤ sizeLine) : runDecoder id utf8Decoder none true b 0 [] = pure ((ofB b).cps, b.size) := by
  unfold runDecoder
  simp only [Std.Legacy.Range.forIn_eq_forIn_range']
  rw [show Std.Legacy.Range.size [:b.size] = b.size by simp [Std.Legacy.Range.size]]
  rw [show (#[] : Array Nat) = (b.map (·.toNat)).extract 0 0 by simp]
  rw [decode_loop b h hz { held := [] } _ ?_ (List.range' 0 b.size) 0 (by simp)]
  · rfl
  · intro i p out c hc hlt hout
    have h1 : ¬ out.size > sizeLine := Nat.not_lt.mpr hout
    have h2 : ¬ p ≥ b.size := Nat.not_le.mpr (Array.getElem?_eq_some_iff.mp hc).1
    simp only [h1, if_false, h2, find_asc hc hlt, Found.char]
    simp

theorem args_decode_2 (a b : Value) : argsOk "bytes.decode" ⟨[a, b], []⟩ := by
  unfold argsOk; kernel_rfl
theorem decode_tree2 (c : UInt8) (cs : List UInt8) (t u : Tok) : «bytes.decode» ⟨[.bytes (c :: cs).toArray t, .str (Str.ofString "utf-8") u], []⟩ = (mkStr (PySem.Str.ofString "utf-8") >>= fun _ => mkStr (PySem.Str.ofString "utf-8") >>= fun e => mkStr (PySem.Str.ofString "bytes.decode") >>= fun d =>
    call (.builtin "_codecs.decode.text") [.bytes (c :: cs).toArray t, e, .none, d] >>= fun v => ret v) := by kernel_rfl
theorem decode_tree0 (b : Array UInt8) (t u : Tok) (hb : b.isEmpty = true) : «bytes.decode» ⟨[.bytes b t, .str (Str.ofString "utf-8") u], []⟩ = (do rule "bytes.decode.empty"; retStr Str.empty) := by
  obtain ⟨l⟩ := b
  cases l with
  | cons _ _ => cases hb
  | nil => kernel_rfl

theorem meets_decode2 (b : Array UInt8) (t u : Tok) (h : Asb b) (hz : b.size ≤ sizeLine) :
    Meets («bytes.decode» ⟨[.bytes b t, .str (Str.ofString "utf-8") u], []⟩) (fun _ R s => ∀ t' k, R (.ok (.ret (.str (ofB b) t'))) { s with toks := k }) := by
  refine .of_wp fun prog w A R s hS => ?_
  obtain ⟨l⟩ := b
  cases l with
  | nil =>
    rw [decode_tree0 _ _ _ rfl]
    refine wpAny_bind (wpAny_rule ?_)
    show wpAny _ _ (do ret (← mkStr Str.empty)) _ _ s
    exact wpAny_bind (wpAny_mkStr (wpAny_pure ⟨_, rfl, (show ofB ([] : List UInt8).toArray = Str.empty by unfold ofB Str.empty; simp) ▸ hS _ _⟩) (by decide))
  | cons c cs =>
    rw [decode_tree2]
    refine wpAny_bind (wpAny_mkStr ?_ (by decide))
    refine wpAny_bind (wpAny_mkStr ?_ (by decide))
    refine wpAny_bind (wpAny_mkStr ?_ (by decide))
    have hd : ∀ id, _codecs.runDecoder id _codecs.utf8Decoder none true (c :: cs).toArray 0 [] = pure ((ofB (c :: cs).toArray).cps, (c :: cs).toArray.size) := fun id => runDecoder_asc id _ h hz
    have hz' : (ofB (c :: cs).toArray).length ≤ sizeLine := by
      show ((c :: cs).toArray.map (·.toNat)).size ≤ sizeLine
      rw [Array.size_map]; exact hz
    exact wpAny_bind (call_function_meets PySem.W.KBd.kind_text PySem.W.KBd.plain_text PySem.W.KBd.entry_text (PySem.W.KBd.args_text _ _ _ _) (PySem.W.KBd.meets_text hd) ⟨hz', wpAny_pure ⟨_, rfl, hS _ _⟩⟩)

section
variable {prog : Program} {w : World} {A : Around} {env : Env} {O : List Addr} {s : Shared} {d : D}

/-- a method of a text or of bytes, one argument -/
theorem Ev.meth1 {o e : Expr} {name : Str} {ap pos : Pos} {T id : String} {do_ de : D} (ho : Ev prog w A env O s o do_) (he : Ev prog w A env O s e de) (pa : PlainAttrs T) (sl : Slot T name id) (ty : typeOf (.builtin id) = pure (.type "method_descriptor"))
    (hT : ∀ (s₁ : Shared) (P : Addr → Obj → Prop) v, Rep P v do_ → s₁.TypeIs v T ∧ ∀ a, v ≠ .ref a)
    (hc : ∀ s₁, Gr s s₁ → ∀ u v, Rep (Fz O s₁.heap) u do_ → Rep (Fz O s₁.heap) v de → To prog w A O s₁ (call (.builtin id) [u, v]) d)
    (hbase : attributeBase o name env (eval o env) = eval o env := by rfl) (hse : starEach [e] env = [(false, eval e env)] := by rfl) (hline : (ap.endLine == pos.line) = true := by rfl) :
    Ev prog w A env O s (.Call (.Attribute o name ap) [e] [] pos) d := fun s₁ g Q hQ => by
  refine Call_method1 hbase hse hline (ho s₁ g _ fun u s₂ g₂ r => ⟨T, id, pa, sl, ty, (hT _ _ u r).1, fun a e => absurd e ((hT s₂ _ u r).2 a), ?_⟩)
  exact callWith_builtin rfl (evalArgs_plain (spliced_cons (he s₂ (g.trans g₂) _ fun v s₃ g₃ rv => spliced_nil (hc s₃ (g.trans (g₂.trans g₃)) u v (g₃.rep r) rv Q fun y s₄ g₄ ry => hQ y s₄ (g₂.trans (g₃.trans g₄)) ry))))
theorem str_T {x : Str} (s₁ : Shared) (P : Addr → Obj → Prop) (v : Value) (r : Rep P v (.str x)) : s₁.TypeIs v "str" ∧ ∀ a, v ≠ .ref a := by
  cases r; exact ⟨typeIs_str _ _ _, fun _ e => nomatch e⟩
theorem bytes_T {x : Array UInt8} (s₁ : Shared) (P : Addr → Obj → Prop) (v : Value) (r : Rep P v (.bytes x)) : s₁.TypeIs v "bytes" ∧ ∀ a, v ≠ .ref a := by
  cases r; exact ⟨PySem.W.typeIs_bytes _ _ _, fun _ e => nomatch e⟩

theorem Ev.encode {o e : Expr} {ap pos : Pos} {x : Str} (ho : Ev prog w A env O s o (.str x)) (he : Ev prog w A env O s e (.str (Str.ofString "utf-8"))) (h : Asc x) (hz : x.length ≤ sizeLine)
    (hbase : attributeBase o "encode" env (eval o env) = eval o env := by rfl) (hse : starEach [e] env = [(false, eval e env)] := by rfl) (hline : (ap.endLine == pos.line) = true := by rfl) :
    Ev prog w A env O s (.Call (.Attribute o "encode" ap) [e] [] pos) (.bytes (toB x)) :=
  Ev.meth1 ho he PySem.F.plainAttrs_str PySem.F.slot_str_encode PySem.F.type_str_encode str_T (fun s₁ g u v ru rv Q hQ => by
    cases ru with | str _ t => cases rv with | str _ t' =>
    exact call_meets PySem.F.slot_str_encode (typeIs_str _ _ _) PySem.F.entry_str_encode (PySem.F.args_str_encode_2 _ _) (meets_encode x t t' h hz) (hQ _ _ .toks (.bytes _ _))) hbase hse hline
theorem Ev.decode {o e : Expr} {ap pos : Pos} {b : Array UInt8} (ho : Ev prog w A env O s o (.bytes b)) (he : Ev prog w A env O s e (.str (Str.ofString "utf-8"))) (h : Asb b) (hz : b.size ≤ sizeLine)
    (hbase : attributeBase o "decode" env (eval o env) = eval o env := by rfl) (hse : starEach [e] env = [(false, eval e env)] := by rfl) (hline : (ap.endLine == pos.line) = true := by rfl) :
    Ev prog w A env O s (.Call (.Attribute o "decode" ap) [e] [] pos) (.str (ofB b)) :=
  Ev.meth1 ho he PySem.W.FB.plainAttrs_bytes PySem.W.FB.slot_bytes_decode PySem.W.FB.type_bytes_decode bytes_T (fun s₁ g u v ru rv Q hQ => by
    cases ru with | bytes _ t => cases rv with | str _ t' =>
    exact call_meets PySem.W.FB.slot_bytes_decode (PySem.W.typeIs_bytes _ _ _) PySem.W.FB.entry_bytes_decode (args_decode_2 _ _) (meets_decode2 b t t' h hz) (fun t k => hQ _ _ .toks (.str _ _))) hbase hse hline
theorem Ev.lstrip {o e : Expr} {ap pos : Pos} {x y : Str} (ho : Ev prog w A env O s o (.str x)) (he : Ev prog w A env O s e (.str y)) (hz : x.length ≤ sizeLine)
    (hbase : attributeBase o "lstrip" env (eval o env) = eval o env := by rfl) (hse : starEach [e] env = [(false, eval e env)] := by rfl) (hline : (ap.endLine == pos.line) = true := by rfl) :
    Ev prog w A env O s (.Call (.Attribute o "lstrip" ap) [e] [] pos) (.str (Txt.lstripChars x y)) := fun s₁ g Q hQ =>
  Call_method1 hbase hse hline (ho s₁ g _ fun u s₂ g₂ r => by
    cases r with | str _ t =>
    exact SB.lstripChars (he s₂ (g.trans g₂) _ fun v s₃ g₃ rv => by
      cases rv with | str _ t' => exact ⟨_, _, rfl, fun t k => hQ _ _ (g₂.trans (g₃.trans .toks)) (.str _ _)⟩) hz)
end
end Mine

namespace Mine
open PySem PySem.Calls PySem.Builtin PySem.Builtin.Str

theorem reps_strs {P : Addr → Obj → Prop} : ∀ {vs : List Value} {xs : List Str}, Reps P vs (xs.map D.str) → ∃ l : List (Str × Tok), vs = strValues l ∧ l.map (·.1) = xs
  | [], [], _ => ⟨[], rfl, rfl⟩
  | v :: vs, x :: xs, h => by
    cases h with
    | cons h r =>
      cases h with
      | str _ t =>
        obtain ⟨l, rfl, rfl⟩ := reps_strs r
        exact ⟨(x, t) :: l, rfl, rfl⟩
theorem strs_reps {P : Addr → Obj → Prop} : ∀ (l : List (Str × Tok)), Reps P (strValues l) ((l.map (·.1)).map D.str)
  | [] => .nil
  | (x, t) :: l => .cons (.str x t) (strs_reps l)

section
variable {prog : Program} {w : World} {A : Around} {env : Env} {O : List Addr} {s : Shared} {d : D}

theorem join_post {sep : Str} {s : Shared} {Q : Value → Shared → Prop} : ∀ (l : List (Str × Tok)), (glued sep (l.map (·.1))).length ≤ sizeLine → (∀ t' k, Q (.str (glued sep (l.map (·.1))) t') { s with toks := k }) → (joinMade sep l).post Q s
  | [], hz, h => ⟨hz, h _ _⟩
  | [p], hz, h => by
    have e : glued sep ([p].map (·.1)) = p.1 := by obtain ⟨⟨c⟩, t⟩ := p; rfl
    rw [e] at h
    exact h p.2 s.toks
  | p :: q :: r, hz, h => ⟨hz, h _ _⟩

/-- a text's join of a list of texts -/
theorem Ev.join {o e : Expr} {ap pos : Pos} {x : Str} {xs : List Str} (ho : Ev prog w A env O s o (.str x)) (he : Ev prog w A env O s e (.list (xs.map D.str))) (hl : Builtin.Str.tooLong (xs.toArray.foldl (· + ·.length + x.length) 0) = false) (hz : (glued x xs).length ≤ sizeLine)
    (hbase : attributeBase o "join" env (eval o env) = eval o env := by rfl) (hse : starEach [e] env = [(false, eval e env)] := by rfl) (hline : (ap.endLine == pos.line) = true := by rfl) :
    Ev prog w A env O s (.Call (.Attribute o "join" ap) [e] [] pos) (.str (glued x xs)) :=
  Ev.meth1 ho he PySem.F.plainAttrs_str PySem.F.slot_str_join PySem.F.type_str_join str_T (fun s₁ g u v ru rv Q hQ => by
    cases ru with | str _ t =>
    cases rv with | @list a vs n _ hl' rl =>
    obtain ⟨l, rfl, rfl⟩ := reps_strs rl
    exact call_meets PySem.F.slot_str_join (typeIs_str _ _ _) PySem.F.entry_str_join (PySem.F.args_str_join_2 _ _) (meets_str_join_list x t a l hl) ⟨⟨_, hl'.1, rfl, n, rfl⟩, join_post l hz fun t' k => hQ _ _ .toks (.str _ _)⟩) hbase hse hline

theorem strsFrom_reps {P : Addr → Obj → Prop} : ∀ (xs : List Str) (k : Tok), Reps P (strsFrom k xs) (xs.map D.str)
  | [], _ => .nil
  | x :: xs, k => .cons (.str x k) (strsFrom_reps xs (k + 1))

theorem Ev.split {o e : Expr} {ap pos : Pos} {x y : Str} (ho : Ev prog w A env O s o (.str x)) (he : Ev prog w A env O s e (.str y)) (lv : Live O s.heap) (hy : (y.length == 0) = false) (hx : x.length ≤ sizeLine)
    (hn : (partsBetween x (occurrences x y 0 x.length (x.length + 1)) y.length).length ≤ sizeLine)
    (hbase : attributeBase o "split" env (eval o env) = eval o env := by rfl) (hse : starEach [e] env = [(false, eval e env)] := by rfl) (hline : (ap.endLine == pos.line) = true := by rfl) :
    Ev prog w A env O s (.Call (.Attribute o "split" ap) [e] [] pos) (.list ((Txt.split x y).map D.str)) :=
  Ev.meth1 ho he PySem.F.plainAttrs_str PySem.F.slot_str_split PySem.F.type_str_split str_T (fun s₁ g u v ru rv Q hQ => by
    cases ru with | str _ t =>
    cases rv with | str _ t' =>
    have lv₁ := lv.gr g
    unfold Txt.split at hQ
    by_cases h1 : (decide (x.length < y.length) || decide (Builtin.Str.strKind x < Builtin.Str.strKind y)) = true
    · rw [if_pos h1] at hQ
      exact call_meets PySem.F.slot_str_split (typeIs_str _ _ _) PySem.F.entry_str_split (PySem.F.args_str_split_2 _ _) (meets_str_split_cannot_occur x y t t' h1) (hQ _ _ .push' (.list (n := 0) (lv₁.fz rfl) (.one (.str x t))))
    · rw [if_neg h1] at hQ
      have h1' : (decide (x.length < y.length) || decide (Builtin.Str.strKind x < Builtin.Str.strKind y)) = false := by simpa using h1
      by_cases hf : (occurrences x y 0 x.length (x.length + 1)).isEmpty = true
      · rw [if_pos hf] at hQ
        exact call_meets PySem.F.slot_str_split (typeIs_str _ _ _) PySem.F.entry_str_split (PySem.F.args_str_split_2 _ _) (meets_str_split_not_found x y t t' h1' hy hf) (hQ _ _ .push' (.list (n := 0) (lv₁.fz rfl) (.one (.str x t))))
      · rw [if_neg hf] at hQ
        have hf' : (occurrences x y 0 x.length (x.length + 1)).isEmpty = false := by simpa using hf
        exact call_meets PySem.F.slot_str_split (typeIs_str _ _ _) PySem.F.entry_str_split (PySem.F.args_str_split_2 _ _) (meets_str_split_sep x y t t' h1' hy hf' hx hn) (hQ _ _ .push (.list (n := 0) (lv₁.fz rfl) (strsFrom_reps _ _)))) hbase hse hline
end
end Mine

namespace Mine
open PySem PySem.Sre

def dotCode : Array Nat := #[14, 4, 0, 1, 1, 6, 1, 16, 46, 1]

@[reducible] def att (text : Array Nat) (lim s : Nat) (seen : Seen) (o : Bool) : M :=
  { code := dotCode, text, lim, start := s, lastStart := lim, pc := 5, pos := s, handed := s, outermost := o, marks := #[],
    frames := [{ wait := .nextStart, pc := 5, pos := s, outermost := o }], weight := 1, seen }

theorem ops5 : ops[dotCode.getD 5 0]? = some .AT := by rfl
theorem ops7 : ops[dotCode.getD 7 0]? = some .LITERAL := by rfl
theorem ops9 : ops[dotCode.getD 9 0]? = some .SUCCESS := by rfl

section
variable {text : Array Nat} {lim s : Nat} {seen : Seen} {o : Bool}
def bol (text : Array Nat) (s : Nat) : Bool := s == 0 || text.getD (s - 1) 0 == 10

theorem e6 : dotCode.getD (5 + 1) 0 = 1 := rfl
theorem e8 : dotCode.getD (7 + 1) 0 = 46 := rfl

theorem step_at (h : bol text s = true) : ∃ seen', (att text lim s seen o).step = { att text lim s seen' o with pc := 7 } := by
  unfold bol at h
  refine ⟨(seen.add (dotCode.getD 5 0)).add (43 + dotCode.getD (5 + 1) 0), ?_⟩
  show (att text lim s seen o).exec = _
  unfold M.exec
  simp only [M.word, Nat.add_zero, ops5, M.isAt, e6, h, if_true]
theorem step_at_no (h : bol text s = false) : ∃ seen', (att text lim s seen o).step = { att text lim s seen' o with answer := some false } := by
  unfold bol at h
  refine ⟨(seen.add (dotCode.getD 5 0)).add (43 + dotCode.getD (5 + 1) 0), ?_⟩
  show (att text lim s seen o).exec = _
  unfold M.exec
  simp only [M.word, Nat.add_zero, ops5, M.isAt, e6, h, Bool.false_eq_true, if_false]
  rfl
theorem step_lit (h1 : s < lim) (h : text.getD s 0 = 46) : ∃ seen', ({ att text lim s seen o with pc := 7 } : M).step = { att text lim s seen' o with pc := 9, pos := s + 1 } := by
  refine ⟨seen.add (dotCode.getD 7 0), ?_⟩
  show ({ att text lim s seen o with pc := 7 } : M).exec = _
  unfold M.exec
  have h1' : ¬ s ≥ lim := Nat.not_le.mpr h1
  simp only [M.word, Nat.add_zero, ops7, accepts, e8, h, h1', if_false, beq_self_eq_true, itemWidth]
theorem step_lit_no (h1 : s < lim) (h : text.getD s 0 ≠ 46) : ∃ seen', ({ att text lim s seen o with pc := 7 } : M).step = { att text lim s seen' o with pc := 7, answer := some false } := by
  refine ⟨seen.add (dotCode.getD 7 0), ?_⟩
  show ({ att text lim s seen o with pc := 7 } : M).exec = _
  unfold M.exec
  have h1' : ¬ s ≥ lim := Nat.not_le.mpr h1
  have h2 : (text.getD s 0 == 46) = false := by simpa using h
  simp only [M.word, Nat.add_zero, ops7, accepts, e8, h2, h1', if_false]
  rfl
theorem step_lit_end (h1 : lim ≤ s) : ∃ seen', ({ att text lim s seen o with pc := 7 } : M).step = { att text lim s seen' o with pc := 7, answer := some false } := by
  refine ⟨seen.add (dotCode.getD 7 0), ?_⟩
  show ({ att text lim s seen o with pc := 7 } : M).exec = _
  unfold M.exec
  have h1' : s ≥ lim := h1
  simp only [M.word, Nat.add_zero, ops7, h1', if_true]
  rfl
theorem step_succ : ∃ seen', ({ att text lim s seen o with pc := 9, pos := s + 1 } : M).step = { att text lim s seen' o with pc := 9, pos := s + 1, handed := s + 1, answer := some true } := by
  refine ⟨seen.add (dotCode.getD 9 0), ?_⟩
  show ({ att text lim s seen o with pc := 9, pos := s + 1 } : M).exec = _
  unfold M.exec
  simp only [M.word, Nat.add_zero, ops9, Bool.false_and, Bool.or_self, Bool.and_false, Bool.false_eq_true, if_false]
  rfl
theorem step_yes : ({ att text lim s seen o with pc := 9, pos := s + 1, handed := s + 1, answer := some true } : M).step.step =
    { att text lim s seen o with handed := s + 1, frames := [], weight := 0, answer := some true, outcome := some .matched } := by
  rfl
theorem step_no {pc : Nat} (h : s < lim) : ({ att text lim s seen o with pc := pc, answer := some false } : M).step = att text lim (s + 1) seen false := by
  show M.resume { att text lim s seen o with frames := [], weight := 1 - (1 + 0) } { wait := .nextStart, pc := 5, pos := s, outermost := o } false = _
  unfold M.resume
  simp only [Bool.false_eq_true, if_false]
  rw [if_pos h]
  unfold M.attemptFrom
  rw [if_pos (by rfl)]
  rfl
theorem step_none {pc : Nat} (h : lim ≤ s) : ∃ m : M, ({ att text lim s seen o with pc := pc, answer := some false } : M).step.step = m ∧ m.outcome = some .failed := by
  refine ⟨_, rfl, ?_⟩
  have e : ({ att text lim s seen o with pc := pc, answer := some false } : M).step = { att text lim s seen o with frames := [], weight := 0, answer := some false } := by
    show M.resume { att text lim s seen o with frames := [], weight := 1 - (1 + 0) } { wait := .nextStart, pc := 5, pos := s, outermost := o } false = _
    unfold M.resume
    simp only [Bool.false_eq_true, if_false]
    rw [if_neg (Nat.not_lt.mpr h)]
    rfl
  rw [e]
  rfl
end

def iter : Nat → M → M
  | 0, m => m
  | n + 1, m => iter n m.step
theorem iter_add (m : M) : ∀ (a b : Nat), iter (a + b) m = iter b (iter a m) := by
  intro a
  induction a generalizing m with
  | zero => intro b; rw [Nat.zero_add]; rfl
  | succ a ih => intro b; rw [Nat.succ_add]; exact ih m.step b
theorem step_done {m : M} (h : m.outcome.isSome = true) : m.step = m := by unfold M.step; rw [if_pos h]
theorem iter_done {m : M} (h : m.outcome.isSome = true) : ∀ n, iter n m = m
  | 0 => rfl
  | n + 1 => by show iter n m.step = m; rw [step_done h]; exact iter_done h n
theorem runFor_iter : ∀ (n : Nat) (m : M), m.runFor n = iter n m
  | 0, _ => rfl
  | n + 1, m => by
    unfold M.runFor
    by_cases h : m.outcome.isSome = true
    · rw [if_pos h, iter_done h]
    · rw [if_neg h]; exact runFor_iter n m.step
theorem iter_same {m : M} {j k : Nat} (hj : (iter j m).outcome.isSome = true) (hk : (iter k m).outcome.isSome = true) : iter j m = iter k m := by
  rcases Nat.le_total j k with h | h
  · obtain ⟨d, rfl⟩ := Nat.exists_eq_add_of_le h
    rw [iter_add, iter_done hj]
  · obtain ⟨d, rfl⟩ := Nat.exists_eq_add_of_le h
    rw [iter_add, iter_done hk]

def nxt (text : Array Nat) : Nat → Nat → Option Nat
  | 0, _ => none
  | k + 1, s => if bol text s && text.getD s 0 == 46 then some s else nxt text k (s + 1)
def EndsAt (m : M) : Option Nat → Prop
  | some q => m.outcome = some .matched ∧ m.start = q ∧ m.handed = q + 1
  | none => m.outcome = some .failed
theorem search (text : Array Nat) (lim : Nat) : ∀ (k s : Nat) (seen : Seen) (o : Bool), s + k = lim → ∃ K, K ≤ 5 * k + 6 ∧ EndsAt (iter K (att text lim s seen o)) (nxt text k s) := by
  intro k
  induction k with
  | zero =>
    intro s seen o hs
    have hle : lim ≤ s := by omega
    cases hb : bol text s with
    | true =>
      obtain ⟨s1, h1⟩ := step_at (lim := lim) (seen := seen) (o := o) hb
      obtain ⟨s2, h2⟩ := step_lit_end (text := text) (seen := s1) (o := o) hle
      obtain ⟨m, h3, h4⟩ := step_none (text := text) (seen := s2) (o := o) (pc := 7) hle
      refine ⟨4, by omega, ?_⟩
      show EndsAt (M.step (M.step (M.step (M.step _)))) none
      rw [h1, h2, h3]
      exact h4
    | false =>
      obtain ⟨s1, h1⟩ := step_at_no (lim := lim) (seen := seen) (o := o) hb
      obtain ⟨m, h3, h4⟩ := step_none (text := text) (seen := s1) (o := o) (pc := 5) hle
      refine ⟨3, by omega, ?_⟩
      show EndsAt (M.step (M.step (M.step _))) none
      rw [h1, h3]
      exact h4
  | succ k ih =>
    intro s seen o hs
    have hlt : s < lim := by omega
    unfold nxt
    cases hb : bol text s with
    | false =>
      simp only [Bool.false_and, Bool.false_eq_true, if_false]
      obtain ⟨s1, h1⟩ := step_at_no (lim := lim) (seen := seen) (o := o) hb
      have h2 := step_no (text := text) (seen := s1) (o := o) (pc := 5) hlt
      obtain ⟨K, hK, hE⟩ := ih (s + 1) s1 false (by omega)
      refine ⟨K + 2, by omega, ?_⟩
      rw [Nat.add_comm, iter_add]
      show EndsAt (iter K (M.step (M.step _))) _
      rw [h1, h2]
      exact hE
    | true =>
      obtain ⟨s1, h1⟩ := step_at (lim := lim) (seen := seen) (o := o) hb
      by_cases hc : text.getD s 0 = 46
      · rw [if_pos (by rw [hc]; rfl)]
        obtain ⟨s2, h2⟩ := step_lit (text := text) (seen := s1) (o := o) hlt hc
        obtain ⟨s3, h3⟩ := step_succ (text := text) (lim := lim) (s := s) (seen := s2) (o := o)
        refine ⟨5, by omega, ?_⟩
        show EndsAt (M.step (M.step (M.step (M.step (M.step _))))) _
        rw [h1, h2, h3, step_yes]
        exact ⟨rfl, rfl, rfl⟩
      · rw [if_neg (by simp only [Bool.true_and, beq_iff_eq]; exact hc)]
        obtain ⟨s2, h2⟩ := step_lit_no (text := text) (seen := s1) (o := o) hlt hc
        have h3 := step_no (text := text) (seen := s2) (o := o) (pc := 7) hlt
        obtain ⟨K, hK, hE⟩ := ih (s + 1) s2 false (by omega)
        refine ⟨K + 3, by omega, ?_⟩
        rw [Nat.add_comm, iter_add]
        show EndsAt (iter K (M.step (M.step (M.step _)))) _
        rw [h1, h2, h3]
        exact hE
theorem forSearch_eq (text : Array Nat) (s : Nat) (hs : s < text.size) : Sre.forSearch dotCode text 0 s text.size false = att text text.size s (({} : Seen).add 14) true := by
  unfold Sre.forSearch
  have h1 : ¬ (s > text.size) := by omega
  have h2 : ¬ (text.size - s < 1) := by omega
  simp only [show (Sre.header dotCode) = (1, 5) from rfl]
  rw [if_neg (by simp only [decide_eq_true_eq, Bool.or_eq_true]; omega)]
  unfold M.attemptFrom
  rw [if_pos (by rfl)]
  rfl
theorem forSearch_end (text : Array Nat) (s : Nat) (hs : text.size ≤ s) : (iter 1 (Sre.forSearch dotCode text 0 s text.size false)).outcome = some .failed := by
  unfold Sre.forSearch
  simp only [show (Sre.header dotCode) = (1, 5) from rfl]
  rw [if_pos (by simp only [decide_eq_true_eq, Bool.or_eq_true]; omega)]
  rfl
end Mine

namespace Mine
open PySem PySem.Calls PySem.Builtin PySem.Builtin.Re

namespace RP
theorem plain : PlainAttrs "re.Pattern" := by
  refine ⟨⟨"object.__getattribute__", by rw [typeLookup_type, builtinLookup_eq_fast]; kernel_rfl, by decide +kernel⟩, by rw [typeLookup_type, builtinLookup_eq_fast]; kernel_rfl⟩
theorem slot : Slot "re.Pattern" "sub" "re.Pattern.sub" :=
  .of (owner := "re.Pattern") (n := "sub") (by rw [typeLookup_type, builtinLookup_eq_fast]; kernel_rfl) (by decide +kernel) (by decide +kernel) (by decide +kernel)
    (by first | exact .inl (by decide +kernel) | exact .inr (by decide +kernel)) (by rw [isSubtype_type]; kernel_rfl)
theorem type : typeOf (.builtin "re.Pattern.sub") = pure (.type "method_descriptor") := by show builtinType _ = _; rw [builtinType_eq_fast]; kernel_rfl
theorem entry : entryFor table "re.Pattern.sub" = some Builtin.«re.Pattern.sub» := entryFor_of_tree (by kernel_rfl)
theorem entryL : entryFor table "re.Pattern.sub.loop" = some Builtin.«re.Pattern.sub.loop» := entryFor_of_tree (by kernel_rfl)
theorem args (a b c : Value) : argsOk "re.Pattern.sub" ⟨[a, b, c], []⟩ := by
  unfold argsOk; kernel_rfl
theorem look_call : typeLookup (.type "bytes") "__call__" = pure none := by rw [typeLookup_type, builtinLookup_eq_fast]; kernel_rfl
theorem kind_join : builtinKind "bytes.join" = some .method := by decide +kernel
theorem slot_join : Slot "bytes" "join" "bytes.join" :=
  .of (owner := "bytes") (n := "join") (by rw [typeLookup_type, builtinLookup_eq_fast]; kernel_rfl) (by decide +kernel) (by decide +kernel) (by decide +kernel)
    (by first | exact .inl (by decide +kernel) | exact .inr (by decide +kernel)) (by rw [isSubtype_type]; kernel_rfl)
theorem entry_join : entryFor table "bytes.join" = some Builtin.«bytes.join» := entryFor_of_tree (by kernel_rfl)
theorem args_join (a b : Value) : argsOk "bytes.join" ⟨[a, b], []⟩ := by
  unfold argsOk; kernel_rfl
end RP

theorem reDrive_wp {M : Model} {A : Around} {E : Value → Shared → Prop} {s : Shared} {Q : Sre.M → Shared → Prop} : ∀ (turns K : Nat) (m : Sre.M), K < 4 * turns → (iter K m).outcome.isSome = true → Q (iter K m) s → wpAny M A (reDrive turns m) Q E s
  | 0, K, m, hK, _, _ => by omega
  | turns + 1, K, m, hK, hd, hq => by
    unfold reDrive
    show wpAny M A (if (m.runFor reTurnSteps).outcome.isSome = true then pure (m.runFor reTurnSteps) else (do rule "sre.turn"; reDrive turns (m.runFor reTurnSteps))) Q E s
    rw [runFor_iter]
    by_cases h : (iter 4 m).outcome.isSome = true
    · rw [show iter reTurnSteps m = iter 4 m from rfl, if_pos h]
      exact wpAny_pure (iter_same h hd ▸ hq)
    · rw [show iter reTurnSteps m = iter 4 m from rfl, if_neg h]
      have h4 : 4 ≤ K := by
        refine Nat.le_of_not_lt fun hlt => h ?_
        obtain ⟨d, hd'⟩ := Nat.exists_eq_add_of_lt hlt
        rw [show (4 : Nat) = K + (d + 1) by omega, iter_add, iter_done hd]
        exact hd
      obtain ⟨d, rfl⟩ := Nat.exists_eq_add_of_le h4
      rw [iter_add] at hd hq
      exact wpAny_bind (wpAny_rule (reDrive_wp turns d (iter 4 m) (by omega) hd hq))

theorem reRun_wp {M : Model} {A : Around} {E : Value → Shared → Prop} {s : Shared} {Q : Option Sre.M → Shared → Prop} {K : Nat} {m : Sre.M} {r : Option Nat} (hK : K < 2 ^ 66) (h : EndsAt (iter K m) r)
    (hq : match r with | some q => ∀ m' : Sre.M, m'.start = q → m'.handed = q + 1 → Q (some m') s | none => Q none s) : wpAny M A (reRunToEnd m) Q E s := by
  unfold reRunToEnd
  have hd : (iter K m).outcome.isSome = true := by
    cases r with
    | some q => rw [h.1]; rfl
    | none => rw [show (iter K m).outcome = _ from h]; rfl
  refine wpAny_bind (reDrive_wp (2 ^ 64) K m (by omega) hd ?_)
  refine wpAny_bind (wpAny_mono (wpAny_forIn_list _ (fun _ _ s' => s' = s) (fun _ s' => s' = s) (fun i rest b s' e => ?_) (fun _ _ e => e) _ _ rfl) (fun u s' e => ?_) fun _ _ h => h)
  · cases e
    split
    · exact wpAny_bind (wpAny_rule (wpAny_pure rfl))
    · exact wpAny_pure rfl
  · cases e
    cases r with
    | some q =>
      obtain ⟨h1, h2, h3⟩ := h
      rw [h1]
      exact wpAny_pure (hq _ h2 h3)
    | none =>
      rw [show (iter K m).outcome = _ from h]
      exact wpAny_pure hq

/-- bytes, joined with nothing between -/
def flat (bs : List (Array UInt8)) : Array UInt8 := bs.foldl (· ++ ·) #[]
def bval (x : Array UInt8 × Tok) : Value := .bytes x.1 x.2
theorem joined_flat (bs : List (Array UInt8)) : Bytes.joined #[] bs = flat bs := by
  have key : ∀ (l : List (Array UInt8)) (n : Nat) (a : Array UInt8), (l.zipIdx n).foldl (fun out (p, i) => (if i > 0 then out ++ (#[] : Array UInt8) else out) ++ p) a = l.foldl (· ++ ·) a := by
    intro l
    induction l with
    | nil => intro n a; rfl
    | cons x l ih =>
      intro n a
      rw [List.zipIdx_cons, List.foldl_cons, List.foldl_cons, ih]
      simp
  exact key bs 0 #[]

theorem take_eq {id : String} {b : Array UInt8} {t : Tok} : Bytes.takeBufferQuiet? id (.bytes b t) 0 = pure (some (b, none)) := by
  unfold Bytes.takeBufferQuiet? Bytes.takeBuffer?
  rw [PySem.W.KBy.special_eq PySem.W.KBy.look_buffer, PySem.W.KBy.own_buffer]
  have : ∀ f, Bytes.buffer? id (.bytes b t) f = pure (some b) := fun f => by
    unfold Bytes.buffer?
    rw [PySem.W.KBy.special_eq PySem.W.KBy.look_buffer, PySem.W.KBy.own_buffer, PySem.W.KBy.own_release]
    kernel_rfl
  simp only [this]
  kernel_rfl
end Mine

namespace Mine
open PySem PySem.Calls PySem.Builtin PySem.Builtin.Re

theorem joinLetGo_wp {M : Model} {A : Around} {E : Value → Shared → Prop} {s : Shared} {Q : Unit → Shared → Prop} (h : Q () s) : ∀ (l : List (Array UInt8 × Tok)) (keep : List Value), wpAny M A (Bytes.joinLetGo (l.map fun p => (bval p, none)) keep) Q E s
  | [], keep => wpAny_pure h
  | p :: l, keep => by
    rw [List.map_cons]
    unfold Bytes.joinLetGo
    exact wpAny_bind (wpAny_letGo (joinLetGo_wp h l keep))

theorem bval_any : ∀ (l : List (Array UInt8 × Tok)), ((l.map fun p => ((bval p, none) : Value × Option Value)).any fun x => x.1.onHeap) = false
  | [] => rfl
  | p :: l => by rw [List.map_cons, List.any_cons, bval_any l]; rfl

theorem meets_join (t : Tok) (a : Addr) (l : List (Array UInt8 × Tok)) (hz : (flat (l.map (·.1))).size ≤ sizeLine) (hz2 : (((l.map (·.1)).toArray).foldl (fun x1 x2 => x1 + x2.size) 0) ≤ sizeLine) :
    Meets («bytes.join» ⟨[.bytes #[] t, .ref a], []⟩) (fun _ R s => s.heap.IsList a (l.map bval).toArray ∧ ∀ t' k, R (.ok (.ret (.bytes (flat (l.map (·.1))) t'))) { s with toks := k }) := by
  refine .of_wp fun prog w A R s ⟨⟨o, ho, hc, n, hd⟩, hS⟩ => ?_
  have hT : s.TypeIs (.ref a) "list" := ⟨o, ho, hc⟩
  unfold «bytes.join» Bytes.joinM
  refine wpAny_bind (wpAny_of_eq (a := (Value.bytes #[] t, Value.ref a)) rfl ?_)
  dsimp only
  rw [if_pos (by rfl)]
  refine wpAny_bind ?_
  · unfold Bytes.joinItems
    refine wpAny_bind (wpAny_typeOf hT ?_)
    rw [if_pos (by rfl)]
    refine wpAny_pure ?_
    refine wpAny_bind (wpAny_seqItems ho hd ?_)
    dsimp only
    rw [if_pos (by rfl)]
    generalize hi : (List.map bval l).toArray = items at hd ⊢
    obtain ⟨items⟩ := items
    have hi' : items = l.map bval := by simpa using hi.symm
    cases hi'
    have hsz : (List.map bval l).toArray.size = l.length := by simp
    by_cases h1 : ∃ p, l = [p]
    · obtain ⟨p, rfl⟩ := h1
      refine wpAny_bind (wpAny_typeOf (T := "bytes") (by obtain ⟨b, u⟩ := p; exact PySem.W.typeIs_bytes s b u) ?_)
      rw [if_pos (by rfl)]
      refine wpAny_bind (wpAny_rule ?_)
      have e : flat ([p].map (·.1)) = p.1 := by simp [flat]
      have h2 := hS p.2 s.toks
      rw [e] at h2
      exact wpAny_pure ⟨_, rfl, h2⟩
    · have key : ∀ (u : Value → Sem PySem.Fin) (j : Sem PySem.Fin), (match (List.map bval l).toArray with | #[x] => u x | _ => j) = j := by
        intro u j
        match l, h1 with
        | [], _ => rfl
        | [p], h1 => exact absurd ⟨p, rfl⟩ h1
        | p :: q :: r, _ => rfl
      refine (congrArg (fun T => wpAny _ _ T _ _ s) (key _ _)).mpr ?_
      simp only [Std.Legacy.Range.forIn_eq_forIn_range']
      refine wpAny_bind (wpAny_mono (wpAny_forIn_list _ (fun rest st s' => s' = s ∧ ∃ k, k ≤ l.length ∧ rest = List.range' k (l.length - k) ∧ st = (((l.take k).map (·.1)).toArray, (l.take k).map fun p => (bval p, none))) (fun st s' => s' = s ∧ st = ((l.map (·.1)).toArray, l.map fun p => (bval p, none))) (fun i rest st s' e => ?_) (fun st s' e => ?_) _ _ ⟨rfl, 0, Nat.zero_le _, by simp [Std.Legacy.Range.size], rfl⟩) (fun u s' e => ?_) fun _ _ h => h)
      · obtain ⟨rfl, k, hk, hr, rfl⟩ := e
        have hlt : k < l.length := by
          refine Nat.lt_of_le_of_ne hk fun e => ?_
          rw [e, Nat.sub_self] at hr; cases hr
        obtain ⟨m, hm⟩ := Nat.exists_eq_add_of_lt hlt
        rw [show l.length - k = m + 1 by omega, List.range'_succ] at hr
        injection hr with hr1 hr2
        subst hr1 hr2
        dsimp only
        refine wpAny_bind (wpAny_seqItems ho hd ?_)
        dsimp only
        have hx : (List.map bval l).toArray.getD i Value.none = .bytes l[i].1 l[i].2 := by
          simp only [Array.getD_eq_getD_getElem?, List.getElem?_toArray, List.getElem?_map, List.getElem?_eq_getElem hlt, Option.map_some, Option.getD_some]
          rfl
        rw [bval_any, hx]
        rw [if_neg (by decide)]
        refine wpAny_bind (wpAny_holding (wpAny_of_eq take_eq ?_))
        dsimp only
        refine wpAny_bind (wpAny_seqItems ho hd ?_)
        dsimp only
        rw [if_neg (by simp)]
        refine wpAny_pure ⟨rfl, i + 1, hlt, by rw [show l.length - (i + 1) = m by omega], ?_⟩
        rw [← List.take_append_getElem hlt, List.map_append, List.map_append]
        simp [bval]
      · obtain ⟨rfl, k, hk, hr, rfl⟩ := e
        have : k = l.length := by
          have := congrArg List.length hr
          simp at this
          omega
        subst this
        simp
      · obtain ⟨rfl, rfl⟩ := e
        dsimp only
        refine wpAny_bind (wpAny_of_eq (a := (#[] : Array UInt8)) rfl ?_)
        rw [if_neg (by
          unfold Bytes.tooLong
          have := hz2
          simp at this ⊢
          omega)]
        rw [joined_flat]
        refine wpAny_bind ?_
        refine wpAny_mkBytes ?_ hz
        refine wpAny_bind (wpAny_holding (wpAny_point ?_))
        exact wpAny_bind (joinLetGo_wp (wpAny_pure ⟨_, rfl, hS _ _⟩) l _)
end Mine

namespace Mine
open PySem PySem.Calls PySem.Builtin PySem.Builtin.Re PySem.Flt

def dotRec (n : Str) : PatRec := ⟨n, [14, 4, 0, 1, 1, 6, 1, 16, 46, 1], 0, 1⟩
def nats (b : Array UInt8) : Array Nat := b.map (·.toNat)

theorem whole_wp {prog : Program} {w : World} {A : Around} {E : Value → Shared → Prop} {s : Shared} {Q : ReTarget → Shared → Prop} {P : Addr} {nm : Str} {b : Array UInt8} {t : Tok} (hP : IsPattern s.heap P (dotRec nm))
    (h : Q { pattern := .ref P, string := .bytes b t, code := dotCode, text := nats b, kind := 1, groups := 0, pos := 0, lim := (nats b).size } s) : wpAny (model prog w) A (reWholeTarget (.ref P) (.bytes b t)) Q E s := by
  obtain ⟨fs, T, ws, n, h1, h2, h3, h4, h5, h6⟩ := hP
  unfold reWholeTarget
  refine wpAny_bind (wpAny_fieldsOf h1 rfl ?_)
  refine wpAny_bind (wpAny_of_eq (a := (nats b, 1)) ?_ ?_)
  · unfold reTextOf
    show (do match ← Bytes.bufferQuiet? "_sre" (.bytes b t) with
      | some b => pure (b.map (·.toNat), 1)
      | none => raiseError "TypeError" s!"expected string or bytes-like object, got '{← typeNameOf (.bytes b t)}'" : Sem (Array Nat × Nat)) = _
    rw [PySem.W.KBy.quiet_eq]
    rfl
  dsimp only
  rw [h4]
  refine wpAny_ite (PySem.W.KBy.ite_no (by exact Bool.false_ne_true) ?_)
  refine wpAny_ite (PySem.W.KBy.ite_no (by exact Bool.false_ne_true) ?_)
  refine wpAny_bind (wpAny_of_eq (a := ()) ?_ ?_)
  · unfold reNoCollectionInside
    rw [PySem.W.KBy.isInstance_eq]
    rfl
  unfold reRawItems
  rw [h2]
  refine wpAny_bind (wpAny_bind (wpAny_seqItems h5 rfl (wpAny_pure (wpAny_pure ?_))))
  have e : Array.map (fun x => x.toNat) (Array.map reRawOf ((some ws).getD #[])) = dotCode := by
    apply Array.toList_inj.mp
    exact h6
  rw [e, h3]
  exact h

/-- what is put between two places -/
def pcs (b : Array UInt8) : Nat → Nat → List (Array UInt8)
  | 0, _ => []
  | f + 1, p => match nxt (nats b) (b.size - p) p with
    | some q => (if p < q then [b.extract p q] else []) ++ [#[46, 46]] ++ pcs b f (q + 1)
    | none => if p < b.size then [b.extract p b.size] else []

theorem nxt_range (text : Array Nat) : ∀ (k s q : Nat), nxt text k s = some q → s ≤ q ∧ q < s + k
  | 0, _, _, h => by cases h
  | k + 1, s, q, h => by
    unfold nxt at h
    split at h
    · cases h; omega
    · have := nxt_range text k (s + 1) q h
      omega

theorem slice_wp {M : Model} {A : Around} {E : Value → Shared → Prop} {s : Shared} {Q : Value → Shared → Prop} {b : Array UInt8} {p q : Nat} (hz : b.size ≤ sizeLine) (h : ∀ t, Q (.bytes (b.extract p q) t) { s with toks := s.toks + 1 }) :
    wpAny M A (reSlice (nats b) 1 p q) Q E s := by
  unfold reSlice
  rw [if_neg (by decide)]
  have e : (Array.map (fun x => x.toUInt8) ((nats b).extract p q)) = b.extract p q := by
    unfold nats
    rw [← Array.map_extract, Array.map_map]
    have : ((fun x : Nat => x.toUInt8) ∘ fun x : UInt8 => x.toNat) = _root_.id := by
      funext x
      simp
    rw [this, Array.map_id]
  rw [e]
  exact wpAny_mkBytes (h _) (by rw [Array.size_extract]; omega)

/-- only the list at L is another -/
structure But (L : Addr) (s s' : Shared) : Prop where
  drawn : s'.drawn = s.drawn
  os : s'.os = s.os
  gens : s'.gens = s.gens
  heap : ∀ a o, a ≠ L → s.heap.get? a = some o → s'.heap.get? a = some o
theorem But.trans {L : Addr} {s s' s'' : Shared} (h : But L s s') (k : But L s' s'') : But L s s'' := ⟨k.drawn.trans h.drawn, k.os.trans h.os, k.gens.trans h.gens, fun a o ha e => k.heap a o ha (h.heap a o ha e)⟩

theorem push_wp {M : Model} {A : Around} {E : Value → Shared → Prop} {s : Shared} {Q : Unit → Shared → Prop} {L : Addr} {l : List (Array UInt8 × Tok)} {x : Array UInt8} {u : Tok} (hL : s.heap.IsList L (l.map bval).toArray) (hl : l.length < sizeLine)
    (h : ∀ s', But L s s' → s'.heap.IsList L ((l ++ [(x, u)]).map bval).toArray → Q () s') : wpAny M A (updateSeq L (·.push (.bytes x u))) Q E s := by
  obtain ⟨⟨c, d, dt, sl⟩, ho, hc, n, hd⟩ := hL
  cases hd
  cases hc
  have e : ((l.map bval).toArray).push (.bytes x u) = ((l ++ [(x, u)]).map bval).toArray := by simp [bval]
  refine wpAny_updateSeq ho rfl (h _ ⟨rfl, rfl, rfl, fun a o' ha e => ?_⟩ ⟨_, Heap.get?_update_self _ ho rfl, rfl, _, congrArg (fun z => Data.seq z _) e⟩) (by simp; omega) (by simp; omega)
  rw [← e]; exact Heap.get?_update_ne _ _ _ _ ha

theorem nats_size (b : Array UInt8) : (nats b).size = b.size := by simp [nats]

def Found (Q : Option Sre.M → Shared → Prop) (s : Shared) : Option Nat → Prop
  | some q => ∀ m' : Sre.M, m'.start = q → m'.handed = q + 1 → Q (some m') s
  | none => Q none s

theorem found_wp {M : Model} {A : Around} {E : Value → Shared → Prop} {s : Shared} {Q : Option Sre.M → Shared → Prop} {b : Array UInt8} {p : Nat} {pat str : Value} (hz : b.size ≤ sizeLine)
    (hq : Found Q s (nxt (nats b) (b.size - p) p)) :
    wpAny M A (reNextFound { pattern := pat, string := str, code := dotCode, text := nats b, kind := 1, groups := 0, pos := 0, lim := (nats b).size } p false) Q E s := by
  unfold reNextFound
  dsimp only
  have hs : sizeLine = 16777216 := sizeLine_eq
  by_cases h : p < b.size
  · obtain ⟨K, hK, he⟩ := search (nats b) (nats b).size ((nats b).size - p) p (({} : Sre.Seen).add 14) true (by rw [nats_size]; omega)
    rw [forSearch_eq _ _ (by rw [nats_size]; exact h)]
    rw [nats_size] at hK
    have key : ∀ r, EndsAt (iter K (att (nats b) (nats b).size p (({} : Sre.Seen).add 14) true)) r → Found Q s r → wpAny M A (reRunToEnd (att (nats b) (nats b).size p (({} : Sre.Seen).add 14) true)) Q E s :=
      fun r he hq => reRun_wp (K := K) (by omega) he (by cases r <;> exact hq)
    exact key _ he (by rw [nats_size]; exact hq)
  · have e : nxt (nats b) (b.size - p) p = none := by rw [show b.size - p = 0 by omega]; rfl
    rw [e] at hq
    exact reRun_wp (r := none) (K := 1) (by omega) (forSearch_end _ _ (by rw [nats_size]; omega)) hq

theorem flat_append (xs ys : List (Array UInt8)) : flat (xs ++ ys) = flat xs ++ flat ys := by
  have key : ∀ (l : List (Array UInt8)) (a : Array UInt8), l.foldl (· ++ ·) a = a ++ flat l := by
    intro l
    induction l with
    | nil => intro a; simp [flat]
    | cons x l ih =>
      intro a
      rw [List.foldl_cons, ih, show flat (x :: l) = (#[] ++ x) ++ flat l from ih _]
      simp
  unfold flat
  rw [List.foldl_append]
  exact key _ _
theorem flat_cons (x : Array UInt8) (ys : List (Array UInt8)) : flat (x :: ys) = x ++ flat ys := by
  have := flat_append [x] ys
  simpa [flat] using this
theorem flat_sum : ∀ (l : List (Array UInt8)) (n : Nat), l.foldl (fun x1 x2 => x1 + x2.size) n = n + (flat l).size
  | [], n => by simp [flat]
  | x :: l, n => by
    rw [List.foldl_cons, flat_sum l, flat_cons, Array.size_append]; omega

theorem literal_wp {b : Array UInt8} {u : Tok} : reLiteralCannotBeTurned (.bytes b u) = pure () := by
  unfold reLiteralCannotBeTurned
  show (do if (none : Option Str).isNone = true then (do if (!(← isInstance (.bytes b u) (.type "bytes"))) = true then noCollectionInside "_sre:a-collection-may-fall-inside-the-match-while-a-literal-replacement-can-be-written")) = _
  rw [PySem.W.KBy.isInstance_eq]
  rfl

theorem loop_wp {prog : Program} {w : World} {A : Around} {R : Result → Shared → Prop} {P L : Addr} {nm : Str} {b : Array UInt8} {t u : Tok} (hz : 3 * b.size < sizeLine) (hne : P ≠ L) : ∀ (f p n : Nat) (s : Shared) (l : List (Array UInt8 × Tok)), b.size - p < f → p ≤ b.size →
    (∀ s', But L s s' → IsPattern s'.heap P (dotRec nm)) → s.heap.IsList L (l.map bval).toArray → l.length + 2 * f < sizeLine →
    (flat (l.map (·.1) ++ pcs b f p)).size ≤ sizeLine →
    (∀ s' t', But L s s' → R (.ok (.ret (.bytes (flat (l.map (·.1) ++ pcs b f p)) t'))) s') →
    codeAny (model prog w) A (.builtin "re.Pattern.sub.loop" ⟨[.ref P, .bytes b t, .bytes #[46, 46] u, rawInt 0, rawInt 0, rawInt n, rawInt p, rawInt p, .bool false, .ref L, .bool false], []⟩) R s
  | 0, p, n, s, l, hf, _, _, _, _, _, _ => by omega
  | f + 1, p, n, s, l, hf, hp, hPs, hL, hl, hz2, hR => by
    have b0 : But L s s := ⟨rfl, rfl, rfl, fun _ _ _ h => h⟩
    refine codeAny_builtin RP.entryL ?_
    unfold «re.Pattern.sub.loop»
    refine wpAny_bind (whole_wp (hPs s b0) ?_)
    dsimp only
    rw [if_pos (by rfl)]
    refine wpAny_bind (wpAny_of_eq literal_wp ?_)
    rw [if_neg (by exact Bool.false_ne_true)]
    refine wpAny_bind (found_wp (p := p) (by omega) ?_)
    unfold pcs at hz2 hR
    cases hn : nxt (nats b) (b.size - p) p with
    | some q =>
      rw [hn] at hz2 hR
      obtain ⟨hq1, hq2⟩ := nxt_range _ _ _ _ hn
      intro m hm1 hm2
      dsimp only at hz2 hR ⊢
      rw [Int.toNat_natCast, hm1]
      have go : ∀ (s' : Shared) (l' : List (Array UInt8 × Tok)), But L s s' → s'.heap.IsList L (l'.map bval).toArray → l'.map (fun x : Array UInt8 × Tok => x.1) = l.map (fun x : Array UInt8 × Tok => x.1) ++ (if p < q then [b.extract p q] else []) → l'.length ≤ l.length + 1 →
          wpAny (model prog w) (A.under (.builtin "re.Pattern.sub.loop" ⟨[.ref P, .bytes b t, .bytes #[46, 46] u, rawInt 0, rawInt 0, rawInt n, rawInt p, rawInt p, .bool false, .ref L, .bool false], []⟩)) (updateSeq L fun x => x.push (.bytes #[46, 46] u))
            (fun _ s'' => (Code.builtin "re.Pattern.sub.loop" ⟨[.ref P, .bytes b t, .bytes #[46, 46] u, rawInt 0, rawInt 0, rawInt ((n : Int) + 1), rawInt m.handed, rawInt m.handed, .bool (m.handed == q), .ref L, .bool false], []⟩).quiet = true ∧
              codeAny (model prog w) A (.builtin "re.Pattern.sub.loop" ⟨[.ref P, .bytes b t, .bytes #[46, 46] u, rawInt 0, rawInt 0, rawInt ((n : Int) + 1), rawInt m.handed, rawInt m.handed, .bool (m.handed == q), .ref L, .bool false], []⟩) R s'') (fun e s'' => R (.error e) s'') s' := by
        intro s' l' hb hL' hl' hn'
        refine push_wp hL' (by omega) fun s₂ hb₂ hL₂ => ⟨Code.quiet_builtin _ (by decide +kernel), ?_⟩
        have e1 : l.map (fun x : Array UInt8 × Tok => x.1) ++ ((if p < q then [b.extract p q] else []) ++ [#[46, 46]] ++ pcs b f (q + 1)) = (l' ++ [(#[46, 46], u)]).map (fun x : Array UInt8 × Tok => x.1) ++ pcs b f (q + 1) := by
          rw [List.map_append, hl']
          simp
        rw [e1] at hz2 hR
        rw [hm2, show ((q + 1 == q) : Bool) = false by simp]
        refine loop_wp hz hne f (q + 1) (n + 1) s₂ (l' ++ [(#[46, 46], u)]) (by omega) (by omega) (fun s₃ h₃ => hPs s₃ ((hb.trans hb₂).trans h₃)) hL₂ (by simp; omega) hz2 (fun s₃ t' h₃ => hR s₃ t' ((hb.trans hb₂).trans h₃))
      by_cases hpq : p < q
      · rw [if_pos hpq]
        refine wpAny_bind (slice_wp (by omega) fun t' => ?_)
        refine wpAny_bind (push_wp (x := b.extract p q) (u := t') hL (by omega) fun s₂ hb₂ hL₂ => ?_)
        rw [if_pos (by rfl)]
        refine wpAny_bind (wpAny_pure ?_)
        rw [if_pos (by rfl)]
        refine wpAny_bind (wpAny_mono (go s₂ _ ⟨hb₂.drawn, hb₂.os, hb₂.gens, hb₂.heap⟩ hL₂ (by rw [if_pos hpq]; simp) (by simp)) (fun _ _ h => wpAny_pure h) fun _ _ h => h)
      · rw [if_neg hpq, if_pos (by rfl)]
        refine wpAny_bind (wpAny_pure ?_)
        rw [if_pos (by rfl)]
        exact wpAny_bind (wpAny_mono (go s l b0 hL (by rw [if_neg hpq]; simp) (by simp)) (fun _ _ h => wpAny_pure h) fun _ _ h => h)
    | none =>
      rw [hn] at hz2 hR
      show wpAny _ _ _ _ _ s
      dsimp only at hz2 hR ⊢
      rw [Int.toNat_natCast, nats_size]
      have go : ∀ (s' : Shared) (l' : List (Array UInt8 × Tok)), But L s s' → s'.heap.IsList L (l'.map bval).toArray → l'.map (fun x : Array UInt8 × Tok => x.1) = l.map (fun x : Array UInt8 × Tok => x.1) ++ (if p < b.size then [b.extract p b.size] else []) → ∀ (A' : Around) (t₀ : Tok),
          wpAny (model prog w) A' (call (.builtin "bytes.join") [.bytes #[] t₀, .ref L]) (fun v s'' => R (.ok (.ret v)) s'') (fun e s'' => R (.error e) s'') s' := by
        intro s' l' hb hL' hl' A' t₀
        rw [← hl'] at hz2 hR
        refine call_meets RP.slot_join (PySem.W.typeIs_bytes _ _ _) RP.entry_join (RP.args_join _ _) (meets_join t₀ L l' hz2 ?_) ⟨hL', fun t' k => hR _ t' ⟨hb.drawn, hb.os, hb.gens, hb.heap⟩⟩
        simp only [List.foldl_toArray']
        rw [flat_sum]; omega
      by_cases hpq : p < b.size
      · rw [if_pos hpq]
        refine wpAny_bind (slice_wp (by omega) fun t' => ?_)
        refine wpAny_bind (push_wp (x := b.extract p b.size) (u := t') hL (by omega) fun s₂ hb₂ hL₂ => ?_)
        refine wpAny_bind (slice_wp (by omega) fun t₂ => ?_)
        obtain ⟨o, ho, hc, n', hd⟩ := hL₂
        refine wpAny_bind (wpAny_seqItems ho hd ?_)
        rw [if_neg (by simp)]
        rw [show b.extract 0 0 = #[] by simp]
        refine wpAny_bind (wpAny_mono (go { s₂ with toks := s₂.toks + 1 } _ ⟨hb₂.drawn, hb₂.os, hb₂.gens, hb₂.heap⟩ ⟨o, ho, hc, n', hd⟩ (by rw [if_pos hpq]; simp) _ _) (fun v s'' h => ?_) fun _ _ h => h)
        rw [if_neg (by exact Bool.false_ne_true)]
        exact wpAny_pure h
      · rw [if_neg hpq]
        refine wpAny_bind (slice_wp (by omega) fun t₂ => ?_)
        obtain ⟨o, ho, hc, n', hd⟩ := hL
        refine wpAny_bind (wpAny_seqItems ho hd ?_)
        rw [show b.extract 0 0 = #[] by simp]
        by_cases hl0 : l = []
        · subst hl0
          rw [if_pos (by rfl)]
          refine wpAny_bind (wpAny_pure ?_)
          rw [if_neg (by exact Bool.false_ne_true)]
          have := hR { s with toks := s.toks + 1 } t₂ ⟨rfl, rfl, rfl, fun _ _ _ h => h⟩
          rw [if_neg hpq] at this
          exact wpAny_pure this
        · rw [if_neg (by simpa using hl0)]
          refine wpAny_bind (wpAny_mono (go { s with toks := s.toks + 1 } l ⟨rfl, rfl, rfl, fun _ _ _ h => h⟩ ⟨o, ho, hc, n', hd⟩ (by rw [if_neg hpq]; simp) _ _) (fun v s'' h => ?_) fun _ _ h => h)
          rw [if_neg (by exact Bool.false_ne_true)]
          exact wpAny_pure h
end Mine

namespace Mine
open PySem PySem.Calls PySem.Builtin PySem.Builtin.Re PySem.Flt

/-- a dot at a line's start, twice -/
def stuffN : Bool → List Nat → List Nat
  | _, [] => []
  | b, c :: r => if b && c == 46 then 46 :: 46 :: stuffN false r else c :: stuffN (c == 10) r

theorem stuffN_cons (b : Bool) (c : Nat) (r : List Nat) : stuffN b (c :: r) = if (b && c == 46) = true then 46 :: 46 :: stuffN false r else c :: stuffN (c == 10) r := by
  conv => lhs; unfold stuffN
theorem nxt_succ (text : Array Nat) (k s : Nat) : nxt text (k + 1) s = if (bol text s && text.getD s 0 == 46) = true then some s else nxt text k (s + 1) := by
  conv => lhs; unfold nxt
theorem stuff_nxt (text : Array Nat) : ∀ (k p : Nat), p + k = text.size → stuffN (bol text p) (text.toList.drop p) = match nxt text k p with
    | some q => (text.toList.drop p).take (q - p) ++ 46 :: 46 :: stuffN (bol text (q + 1)) (text.toList.drop (q + 1))
    | none => text.toList.drop p := by
  intro k
  induction k with
  | zero =>
    intro p hp
    rw [List.drop_eq_nil_of_le (by simp; omega)]
    rfl
  | succ k ih =>
    intro p hp
    have hlt : p < text.toList.length := by simp; omega
    rw [List.drop_eq_getElem_cons hlt]
    have hg : text.getD p 0 = text.toList[p] := by
      simp only [Array.getD_eq_getD_getElem?]
      rw [Array.getElem?_eq_getElem (by simpa using hlt)]
      simp
    have hb : bol text (p + 1) = (text.toList[p] == 10) := by
      unfold bol
      rw [Nat.add_sub_cancel, hg]
      simp
    rw [stuffN_cons, nxt_succ, hg]
    by_cases h : (bol text p && text.toList[p] == 46) = true
    · rw [if_pos h, if_pos h]
      have h46 : text.toList[p] = 46 := by
        have := (Bool.and_eq_true _ _ ▸ h).2
        simpa using this
      dsimp only
      rw [Nat.sub_self, List.take_zero, hb, h46]
      rfl
    · rw [if_neg h, if_neg h, ← hb, ih (p + 1) (by omega)]
      cases hn : nxt text k (p + 1) with
      | none => rfl
      | some q =>
        have := nxt_range _ _ _ _ hn
        dsimp only
        rw [show q - p = (q - (p + 1)) + 1 by omega, List.take_succ_cons]
        rfl

theorem bol_after {text : Array Nat} {k p q : Nat} (h : nxt text k p = some q) : text.getD q 0 = 46 := by
  induction k generalizing p with
  | zero => cases h
  | succ k ih =>
    unfold nxt at h
    split at h
    · rename_i hc
      cases h
      have := (Bool.and_eq_true _ _ ▸ hc).2
      simpa using this
    · exact ih h

theorem nats_append (a b : Array UInt8) : nats (a ++ b) = nats a ++ nats b := by simp [nats]
theorem pcs_stuff (b : Array UInt8) : ∀ (f p : Nat), b.size - p < f → p ≤ b.size → (nats (flat (pcs b f p))).toList = stuffN (bol (nats b) p) ((nats b).toList.drop p)
  | 0, p, h, _ => by omega
  | f + 1, p, h, hp => by
    rw [stuff_nxt (nats b) (b.size - p) p (by rw [nats_size]; omega)]
    unfold pcs
    cases hn : nxt (nats b) (b.size - p) p with
    | none =>
      dsimp only
      by_cases hpq : p < b.size
      · rw [if_pos hpq, flat_cons]
        simp [flat, nats]
        rw [List.take_of_length_le (by simp)]
      · rw [if_neg hpq]
        rw [List.drop_eq_nil_of_le (by simp [nats]; omega)]
        simp [flat, nats]
    | some q =>
      have hr := nxt_range _ _ _ _ hn
      dsimp only
      rw [flat_append, flat_append, nats_append, nats_append, Array.toList_append, Array.toList_append, pcs_stuff b f (q + 1) (by omega) (by omega)]
      rw [show (nats (flat [#[46, 46]])).toList = [46, 46] by simp [flat, nats]]
      by_cases hpq : p < q
      · rw [if_pos hpq]
        simp [flat, nats]
      · rw [if_neg hpq, show q - p = 0 by omega]
        simp [flat, nats]

theorem stuffN_le : ∀ (b : Bool) (l : List Nat), (stuffN b l).length ≤ 2 * l.length
  | _, [] => by simp [stuffN]
  | b, c :: r => by
    unfold stuffN
    split
    · have := stuffN_le false r
      simp; omega
    · have := stuffN_le (c == 10) r
      simp; omega

def stuffB (b : Array UInt8) : Array UInt8 := flat (pcs b (b.size + 1) 0)
theorem stuffB_nats (b : Array UInt8) : (nats (stuffB b)).toList = stuffN true (nats b).toList := by
  unfold stuffB
  rw [pcs_stuff b _ _ (by omega) (by omega)]
  rfl
theorem stuffB_size (b : Array UInt8) : (stuffB b).size ≤ 2 * b.size := by
  have h1 : (nats (stuffB b)).toList.length = (stuffB b).size := by simp [nats]
  have h2 := stuffN_le true (nats b).toList
  rw [← stuffB_nats, h1] at h2
  simpa [nats] using h2

theorem named_eq (r x : Value) : reNamed "re.Pattern.sub" "sub" ["repl", "string", "count"] 2 [r, x] [] = pure [some r, some x, none] := by
  kernel_rfl
theorem sub_again {prog : Program} {w : World} {A : Around} {R : Fin → Shared → Prop} {E : Value → Shared → Prop} {s : Shared} {P : Addr} {nm : Str} {b : Array UInt8} {t u : Tok} (hP : IsPattern s.heap P (dotRec nm))
    (h : ∀ (s' : Shared), Gr s s' → s'.heap = s.heap.push { cls := .type "list", data := .seq #[] } → R (.again (.builtin "re.Pattern.sub.loop" ⟨[.ref P, .bytes b t, .bytes #[46, 46] u, rawInt 0, rawInt 0, rawInt 0, rawInt 0, rawInt 0, .bool false, .ref s.heap.objs.size, .bool false], []⟩)) s') :
    wpAny (model prog w) A («re.Pattern.sub» ⟨[.ref P, .bytes #[46, 46] u, .bytes b t], []⟩) R E s := by
  unfold «re.Pattern.sub» reSubstitute
  dsimp only
  rw [named_eq]
  refine wpAny_bind (wpAny_pure ?_)
  dsimp only
  refine wpAny_bind (wpAny_pure ?_)
  refine wpAny_bind (wpAny_of_eq (PySem.W.KBy.special_eq RP.look_call) ?_)
  rw [if_neg (by exact Bool.false_ne_true)]
  refine wpAny_bind (wpAny_of_eq (a := none) rfl ?_)
  dsimp only
  refine wpAny_bind (wpAny_of_eq PySem.W.KBy.quiet_eq ?_)
  dsimp only
  refine wpAny_bind (wpAny_pure ?_)
  rw [if_neg (by exact Bool.false_ne_true), if_pos (by kernel_rfl)]
  refine wpAny_bind (wpAny_pure ?_)
  dsimp only
  refine wpAny_bind (wpAny_holding (whole_wp hP ?_))
  rw [if_neg (by exact Bool.false_ne_true)]
  refine wpAny_bind (wpAny_newList ?_)
  exact wpAny_pure (h _ .push' rfl)

section
variable {prog : Program} {w : World} {A : Around} {env : Env} {O : List Addr} {s : Shared}

theorem IsPattern.gr {s s' : Shared} {P : Addr} {r : PatRec} (h : IsPattern s.heap P r) (g : Gr s s') : IsPattern s'.heap P r := h.keeps g.heap

theorem call_sub {P : Addr} {nm : Str} {b : Array UInt8} {t u : Tok} {Q : Value → Shared → Prop} (hz : 3 * b.size + 8 < sizeLine) (hP : IsPattern s.heap P (dotRec nm))
    (hQ : ∀ t' s', Gr s s' → Q (.bytes (stuffB b) t') s') : wpAny (model prog w) A (call (.builtin "re.Pattern.sub") [.ref P, .bytes #[46, 46] u, .bytes b t]) Q Never s := by
  have hPo := hP
  obtain ⟨fs, T, ws, n, h1, h2, h3, h4, h5, h6⟩ := hPo
  refine wpAny_call (codeAny_call_builtin RP.slot.plain RP.entry (RP.slot.check _ _ _ _ _ _ _ _ ⟨_, h1, rfl⟩ (RP.args _ _ _) ?_))
  refine sub_again hP fun s' g hh => ⟨Code.quiet_builtin _ (by decide +kernel), ?_⟩
  have hLs : s'.heap.IsList s.heap.objs.size #[] := ⟨_, by rw [hh]; exact Heap.get?_push_size _ rfl, rfl, 0, rfl⟩
  have hlt : ∀ a o, s.heap.get? a = some o → a ≠ s.heap.objs.size := fun a o e => Nat.ne_of_lt (Heap.lt_size e)
  have hgr : ∀ s'', But s.heap.objs.size s' s'' → Gr s s'' := fun s'' k => ⟨k.drawn.trans g.drawn, k.os.trans g.os, fun a o e => k.heap a o (hlt a o e) (g.heap a o e), by rw [k.gens]; exact g.gens⟩
  have := stuffB_size b
  refine loop_wp (L := s.heap.objs.size) (l := []) (nm := nm) (by omega) (hlt P _ h1) (b.size + 1) 0 0 s' (by omega) (by omega) (fun s'' k => hP.keeps (hgr s'' k).heap) hLs (by simp; omega) ?_ ?_
  · show (stuffB b).size ≤ _
    omega
  · intro s'' t' k
    exact hQ t' s'' (hgr s'' k)
end
end Mine

namespace Mine
open PySem PySem.Calls
open Sem (wp)

section
variable {M : Model} {A : Around} {R : GenEnd} {Y : Protocol} {n : Nat} {s₀ : Shared} {c : Code} {fs : List Frame} {s : Shared} {env : Env}
  {K : Flow → Sem PySem.Fin} {H : Value → Sem PySem.Fin} {gd : Bool → Bool} {lv : List Value → List Value}

theorem seg_quiet {α β : Type} {m : Sem α} {K : α → Sem β} {K' : β → Sem PySem.Fin} {H' : Value → Sem PySem.Fin}
    (h : wpAny M (A.over c fs) m (fun a s' => Seg M A R Y n s₀ c ((K a).wrap K' H' gd lv) fs s') Never s) : Seg M A R Y n s₀ c ((m >>= K).wrap K' H' gd lv) fs s :=
  seg_bind_wrap (wpAny_mono h (fun _ _ x => x) fun _ _ x => x.elim)

/-- a statement that does not yield -/
theorem seg_stmt {st : Stmt} {rest : List Stmt}
    (h : wpAny M (A.over c fs) (exec st env) (fun f s' => f = .next ∧ Seg M A R Y n s₀ c ((execs rest env).wrap K H gd lv) fs s') Never s) :
    Seg M A R Y n s₀ c ((execs (st :: rest) env).wrap K H gd lv) fs s := by
  refine seg_execs_cons (seg_wrap (wpAny_mono h (fun f s' x => ?_) fun _ _ x => x.elim))
  obtain ⟨rfl, x⟩ := x
  exact x

theorem seg_If {test : Expr} {body orelse : List Stmt} {pos : Pos} {K : Flow → Sem PySem.Fin}
    (h : wpAny M (A.over c fs) (isTrue test env (eval test env)) (fun b s' => Seg M A R Y n s₀ c ((if b = true then execs body env else execs orelse env).wrap K H gd lv) fs s') Never s) :
    Seg M A R Y n s₀ c ((exec (.If test body orelse pos) env).wrap K H gd lv) fs s := by
  show Seg M A R Y n s₀ c (.at pos fun _ => ((isTrue test env (eval test env)) >>= fun b => if b = true then execs body env else execs orelse env).wrap K H gd lv) fs s
  exact seg_at (seg_quiet h)

def forK (c : Code) : Flow → Sem PySem.Fin := fun f => match f with
  | .next | .cont => .pure (.again c)
  | .brk => .pure (.done .next)
  | .ret v => .pure (.done (.ret v))
def noteH (env : Env) : Value → Sem PySem.Fin := fun e => (do noteFrame e env; theTreesLotGoes e : Sem Unit).wrap (fun _ => .raise e) .raise id id

def runK (K : Flow → Sem PySem.Fin) (H : Value → Sem PySem.Fin) (gd : Bool → Bool) (lv : List Value → List Value) (env : Env) : Result → Sem PySem.Fin := fun r => ((match r with | .ok f => (.pure f : Sem Flow) | .error e => .raise e).onRaise fun (x : Value) => do
        if (← field x 1) == Value.none then unsupported "frame.own-activation:exception-without-traceback"
        setFlight x env.frame).wrap K H gd lv

theorem seg_For {target iter : Expr} {body : List Stmt} {pos : Pos}
    (h : wpAny M (A.over c fs) (eval iter env) (fun v s₁ => wpAny M (A.over c fs) (pyIter v) (fun it s₂ => ∀ p, Seg M A R Y n s₀ (.forLoop target it body [] env) (M.den (.forLoop target it body [] env)) (.ret (runK K H gd lv env) none (gd false) (lv []) c p [] :: fs) s₂) Never s₁) Never s)
    (hs : ∀ x, foldedSetIterable iter env x = pure x := by intro _; rfl) :
    Seg M A R Y n s₀ c ((exec (.For target iter body [] pos) env).wrap K H gd lv) fs s := by
  rw [exec_For]
  refine seg_quiet (wpAny_standAt (seg_quiet (wpAny_mono h (fun v s₁ h₁ => ?_) fun _ _ x => x)))
  refine seg_quiet (wpAny_of_eq (hs v) (seg_quiet (wpAny_standAt (seg_quiet (wpAny_holding (wpAny_mono h₁ (fun it s₂ h₂ => ?_) fun _ _ x => x))))))
  exact seg_call h₂
end

section
variable {prog : Program} {w : World} {A : Around} {R : GenEnd} {Y : Protocol} {n : Nat} {s₀ : Shared} {fs : List Frame} {s : Shared} {env : Env}

theorem seg_block_nil {r : Result → Sem PySem.Fin} {h g l c₁ p₁ kp} (hk : Seg (model prog w) A R Y n s₀ c₁ (r (.ok .next)) fs s) :
    Seg (model prog w) A R Y n s₀ (.block [] env) ((model prog w).den (.block [] env)) (.ret r h g l c₁ p₁ kp :: fs) s :=
  seg_leaf (.ok .next) hk

theorem seg_forTurn {target : Expr} {it : Value} {body : List Stmt} 
    (h : wpAny (model prog w) (A.over (.forLoop target it body [] env) fs) (pyNext it) (fun r s₁ => match r with
      | none => Seg (model prog w) A R Y n s₀ (.block [] env) ((model prog w).den (.block [] env)) fs s₁
      | some v => wpAny (model prog w) (A.over (.forLoop target it body [] env) fs) (letOwnedTupleGo target it v) (fun _ s₂ => wpAny (model prog w) (A.over (.forLoop target it body [] env) fs) (assign target env v) (fun _ s₃ =>
          Seg (model prog w) A R Y n s₀ (.forLoop target it body [] env) ((execs body env).wrap (forK (.forLoop target it body [] env)) (noteH env) id id) fs s₃) Never s₂) Never s₁) Never s) :
    Seg (model prog w) A R Y n s₀ (.forLoop target it body [] env) ((model prog w).den (.forLoop target it body [] env)) fs s := by
  show Seg _ A R Y n s₀ _ ((forTurn target it body [] env).onRaise (fun x => do noteFrame x env; theTreesLotGoes x)) fs s
  unfold forTurn
  rw [Sem.onRaise_eq_wrap]
  refine seg_quiet (wpAny_standAt (seg_quiet (wpAny_onRaise (wpAny_mono h (fun r s₁ h₁ => ?_) fun _ _ x => x.elim))))
  cases r with
  | none => exact seg_again rfl h₁
  | some v =>
    refine seg_quiet (wpAny_mono h₁ (fun _ s₂ h₂ => seg_quiet (wpAny_mono h₂ (fun _ s₃ h₃ => ?_) fun _ _ x => x)) fun _ _ x => x)
    rw [Sem.bind_eq_wrap', Sem.wrap_wrap]
    refine (congrArg (fun t => Seg _ A R Y n s₀ _ t fs s₃) (Sem.wrap_congr _ _ _ (fun f => ?_) fun e => ?_)).mp h₃
    · cases f <;> rfl
    · show noteH env e = Sem.bind _ _
      rw [Sem.bind_eq_wrap]
      rfl
end
end Mine

namespace Mine
open PySem PySem.Calls
open Sem (wp)

local macro_rules | `(tactic| walk_at "lk") => `(tactic| first | exact lk_here (by with_reducible rfl) rfl | exact lk_tail (by kernel_rfl) (by walk_at "lk"))

/-- what is told, each with its place -/
def escs : Nat → List Nat → Bool → List (Nat × List Nat)
  | i, [], true => [(i - 1, [92])]
  | _, [], false => []
  | i, c :: r, true => (i, [92, c]) :: escs (i + 1) r false
  | i, c :: r, false => if c == 92 then escs (i + 1) r true else (i, [c]) :: escs (i + 1) r false

/-- only what stands in W is another; what is new may be anything -/
structure Since (W : List Addr) (s s' : Shared) : Prop where
  drawn : s'.drawn = s.drawn
  os : s'.os = s.os
  gens : GExt s.gens s'.gens
  heap : ∀ a o, a ∉ W → s.heap.get? a = some o → s'.heap.get? a = some o
theorem Since.refl (W : List Addr) (s : Shared) : Since W s s := ⟨rfl, rfl, .refl _, fun _ _ _ h => h⟩

def KeepsAt (W : List Addr) (s s' : Shared) : Prop := ∀ b ∈ W, ∀ o, s.heap.get? b = some o → s'.heap.get? b = some o

/-- the generator's word to who asks; N: what it may write -/
def escY (N : Addr → Prop) (outs : List (Nat × List Nat)) : Protocol := fun m s₀ v s kap =>
  (∃ T p c t u, v = .ref T ∧ s.heap.IsTuple T #[.int (p : Nat) t, .str ⟨c.toArray⟩ u] ∧ outs[outs.length - 1 - m]? = some (p, c)) ∧
  ∃ W Wk : List Addr, (∀ b ∈ W, N b) ∧ (∀ b ∈ Wk, N b ∧ ∃ o, s.heap.get? b = some o) ∧ Since W s₀ s ∧ ∀ s'' : Shared, KeepsAt Wk s s'' → kap (.send .none) s''
def escR (N : Addr → Prop) : GenEnd := fun n s₀ r s₁ => r = .ok (.ret .none) ∧ n = 0 ∧ ∃ W : List Addr, (∀ b ∈ W, N b) ∧ Since W s₀ s₁

section
variable {prog : Program} {w : World} {A : Around} {env : Env} {e it : Addr} {O WW : List Addr} {N : Addr → Prop} {x : Str} {t : Tok}
@[reducible] def fxG (prog : Program) (w : World) (A : Around) (env : Env) (WW O : List Addr) (s₀ : Shared) : Fx := ⟨prog, w, A, env, O, fun a o => s₀.heap.get? a = some o ∧ a ∉ env.locals :: WW, [], s₀⟩
@[reducible] def sigG (x : Str) (i : Nat) (esc : Bool) : List (Str × Sl) := [("escape", .dat (.bool esc)), ("pos", .dat (.int ((i - 1 : Nat) : Int))), ("addr", .dat (.str x))]

theorem Inv.wake {s₀ s s' : Shared} {σ : List (Str × Sl)} (I : Inv (fxG prog w A env WW O s₀) s σ []) (hσ : ∀ x sl, σ.lookup x = some sl → ∃ d, sl = .dat d ∧ d.scalar = true) (hc : env.cells = [])
    (hk : KeepsAt (env.locals :: O) s s') : Inv (fxG prog w A env WW O s') s' σ [] := by
  have hown : ∀ a s, a ∈ (fxG prog w A env WW O s).own [] ↔ a = env.locals := by intro a s; unfold Fx.own; simp
  have nocell : ∀ {n c}, env.cells.lookup n = some c → False := by intro n c h; rw [hc] at h; cases h
  obtain ⟨lm, cm, hn, h1, h2, hv⟩ := I.mem
  refine ⟨I.kind, rfl, rfl, .refl _, fun a o h => ⟨h.1, fun hm => h.2 ((hown a _).mp hm ▸ List.mem_cons_self ..)⟩, fun a h hm => I.apart a h ((hown a _).mpr ((hown a _).mp hm)), fun a h => ?_, ?_, fun n c h => (nocell h).elim, fun n _ c h => (nocell h).elim,
    ⟨lm, cm, hn.at' fun o e => hk _ (List.mem_cons_self ..) o e, fun n c h => (nocell h).elim, fun c h => (nomatch h), fun x sl h => ?_⟩, fun a w h => (nomatch h)⟩
  · obtain ⟨o, ho⟩ := I.live a h
    exact ⟨o, hk a (List.mem_cons_of_mem _ h) o ho⟩
  · unfold Fx.own; simp
  · obtain ⟨v, h1, h2⟩ := hv x sl h
    obtain ⟨d, rfl, hd⟩ := hσ x sl h
    exact ⟨v, h1, Rep.scalar h2 hd⟩

theorem Inv.since {s₀ s : Shared} {σ : List (Str × Sl)} (I : Inv (fxG prog w A env WW O s₀) s σ []) : Since (env.locals :: WW) s₀ s :=
  ⟨I.drawn, I.os, I.gens, fun a o h e => (I.base a o ⟨e, h⟩).1⟩

theorem sig_scalar {i : Nat} {esc : Bool} : ∀ y sl, (sigG x i esc).lookup y = some sl → ∃ d, sl = .dat d ∧ d.scalar = true := by
  intro y sl h
  by_cases h3 : y = "escape"
  · subst h3; cases lookup_eq h; exact ⟨_, rfl, rfl⟩
  have h := lookup_ne h h3
  by_cases h2 : y = "pos"
  · subst h2; cases lookup_eq h; exact ⟨_, rfl, rfl⟩
  have h := lookup_ne h h2
  by_cases h4 : y = "addr"
  · subst h4; cases lookup_eq h; exact ⟨_, rfl, rfl⟩
  have h := lookup_ne h h4
  cases h

theorem sig_scalar2 {i : Nat} {esc : Bool} {d : D} (hd : d.scalar = true) : ∀ y sl, (("ch", Sl.dat d) :: sigG x i esc : List (Str × Sl)).lookup y = some sl → ∃ d, sl = .dat d ∧ d.scalar = true := by
  intro y sl h
  by_cases h1 : y = "ch"
  · subst h1; cases lookup_eq h; exact ⟨_, rfl, hd⟩
  exact sig_scalar y sl (lookup_ne h h1)

theorem back_cat (c : Nat) : (Str.ofString "\\" ++ (⟨#[c]⟩ : Str)) = ⟨#[92, c]⟩ := by
  have : Str.ofString "\\" = ⟨#[92]⟩ := by kernel_rfl
  rw [this]; rfl
theorem back_eq (c : Nat) : ((⟨#[c]⟩ : Str) == Str.ofString "\\") = (c == 92) := by
  have : Str.ofString "\\" = ⟨#[92]⟩ := by kernel_rfl
  rw [this]
  by_cases h : c = 92
  · subst h; rfl
  · have h1 : (c == 92) = false := by simpa using h
    rw [h1]
    apply beq_eq_false_iff_ne.mpr
    intro e
    apply h
    have := congrArg (fun s : Str => s.cps.getD 0 0) e
    exact this

/-- a pair is told -/
theorem yield_pair {outs pre tl : List (Nat × List Nat)} {i : Nat} {c : List Nat} {s₀ s : Shared} {σ : List (Str × Sl)} {ex : Expr} {A' : Around} {kapS : Shared → Prop} (ho : outs = pre ++ (i, c) :: tl) (hnew : ∀ b ∈ env.locals :: WW, N b) (hOW : ∀ b ∈ O, b ∈ WW)
    (hc : env.cells = []) (I : Inv (fxG prog w A env WW O s₀) s σ []) (hσ : ∀ y sl, σ.lookup y = some sl → ∃ d, sl = .dat d ∧ d.scalar = true) (he : Ev prog w A' env O s ex (.tuple [.int i, .str ⟨c.toArray⟩]))
    (k : ∀ s'' : Shared, Inv (fxG prog w A env WW O s'') s'' σ [] → (∀ b ∈ O, ∀ o, s.heap.get? b = some o → s''.heap.get? b = some o) → kapS s'') {E : Value → Shared → Prop} :
    wpAny (model prog w) A' (eval ex env) (fun v s' => ∀ kap : Resume → Shared → Prop, (∀ x s'', (match x with | .ref _ => False | _ => kapS s'') → kap (.send x) s'') → escY N outs tl.length s₀ v s' kap) E s := by
  refine he.now.run fun v s' g r kap hkap => ?_
  have I' := I.gr g
  refine ⟨?_, env.locals :: WW, env.locals :: O, hnew, fun b hb => ⟨hnew b ?_, I'.liveAll b ?_⟩, I'.since, fun s'' hk => hkap _ _ (k s'' (I'.wake hσ hc hk) fun b hb o e => hk b (List.mem_cons_of_mem _ hb) o (g.heap b o e))⟩
  · cases r with
    | @tuple T vs n _ hT rs =>
      obtain ⟨u₁, u₂, rfl, r₁, r₂⟩ := two_dat rs
      cases r₁ with | int _ t₁ => cases r₂ with | str _ t₂ =>
      refine ⟨T, i, c, t₁, t₂, rfl, ⟨_, hT.1, rfl, n, rfl⟩, ?_⟩
      subst ho
      rw [List.length_append, List.length_cons, List.getElem?_append_right (by omega)]
      rw [show pre.length + (tl.length + 1) - 1 - tl.length - pre.length = 0 by omega]
      rfl
  · rcases List.mem_cons.mp hb with h | h
    · exact h ▸ List.mem_cons_self ..
    · exact List.mem_cons_of_mem _ (hOW b h)
  · rcases List.mem_cons.mp hb with h | h
    · exact List.mem_append.mpr (.inl (h ▸ List.mem_cons_self ..))
    · exact List.mem_append.mpr (.inr h)

theorem Inv.noO {s₀ s : Shared} {σ : List (Str × Sl)} (I : Inv (fxG prog w A env WW O s₀) s σ []) : Inv (fxG prog w A env WW [] s₀) s σ [] :=
  Inv.weak (F := fxG prog w A env WW [] s₀) I (fun _ _ h => h) (fun _ h => nomatch h)

theorem esc_loop {q0 q1 q2 q3 q4 q5 q6 q7 q8 q9 q10 q11 q12 q13 q14 q15 q16 q17 q18 q19 q20 q21 q22 q23 q24 q25 q26 : Pos} {k0 k1 k2 k3 k4 k5 k6 : Nat} {K : Flow → Sem PySem.Fin} {H : Value → Sem PySem.Fin} {c₀ : Code} {p₀ : Pos} {outs : List (Nat × List Nat)}
    (hh : A.handled = none) (hx : Asc x) (hne : e ≠ it) (hnew : ∀ b ∈ env.locals :: [e, it], N b) (hc : env.cells = []) (hco : env.scope.isCoroutine = false)
    (hpos : env.kindOf "pos" = some .local) (hch : env.kindOf "ch" = some .local) (hesc : env.kindOf "escape" = some .local) (hsc : env.scope.kind = .function)
    (hK : ∀ (esc : Bool) (s₀ s : Shared) (pre : List (Nat × List Nat)), outs = pre ++ escs x.cps.size [] esc → Inv (fxG prog w A env [e, it] [] s₀) s (sigG x x.cps.size esc) [] → Seg (model prog w) A (escR N) (escY N outs) (escs x.cps.size [] esc).length s₀ c₀ (K .next) [] s) :
    ∀ (k i : Nat) (esc : Bool) (s₀ s : Shared) (pre : List (Nat × List Nat)), i + k = x.cps.size → outs = pre ++ escs i (x.cps.toList.drop i) esc → Inv (fxG prog w A env [e, it] [e, it] s₀) s (sigG x i esc) [] →
      ((∃ old, IsEnum s.heap e it i old) ∧ s.heap.IsStrIter it "str_ascii_iterator" x t i) →
      Seg (model prog w) A (escR N) (escY N outs) (escs i (x.cps.toList.drop i) esc).length s₀
        (.forLoop (.Tuple [.Name "pos" q0, .Name "ch" q1] k0 q2) (.ref e)
          [.If (.Name "escape" q3) [.Expr (.Yield (some (.Tuple [.Name "pos" q4, .BinOp (.Constant (.str "\\") k1 q5) .Add (.Name "ch" q6) q7] k2 q8)) q9) q10, .Assign [.Name "escape" q11] (.Constant (.bool false) k3 q12) q13]
            [.If (.Compare (.Name "ch" q14) [.Eq] [.Constant (.str "\\") k4 q15] q16) [.Assign [.Name "escape" q17] (.Constant (.bool true) k5 q18) q19]
              [.Expr (.Yield (some (.Tuple [.Name "pos" q20, .Name "ch" q21] k6 q22)) q23) q24] q25] q26] [] env)
        ((model prog w).den (.forLoop (.Tuple [.Name "pos" q0, .Name "ch" q1] k0 q2) (.ref e)
          [.If (.Name "escape" q3) [.Expr (.Yield (some (.Tuple [.Name "pos" q4, .BinOp (.Constant (.str "\\") k1 q5) .Add (.Name "ch" q6) q7] k2 q8)) q9) q10, .Assign [.Name "escape" q11] (.Constant (.bool false) k3 q12) q13]
            [.If (.Compare (.Name "ch" q14) [.Eq] [.Constant (.str "\\") k4 q15] q16) [.Assign [.Name "escape" q17] (.Constant (.bool true) k5 q18) q19]
              [.Expr (.Yield (some (.Tuple [.Name "pos" q20, .Name "ch" q21] k6 q22)) q23) q24] q25] q26] [] env))
        [.ret (runK K H id id env) none false [] c₀ p₀ []] s := by
  intro k
  induction k with
  | zero =>
    intro i esc s₀ s pre hi ho I hst
    have hin : i = x.cps.size := by omega
    subst hin
    have hd : x.cps.toList.drop x.cps.size = [] := by simp
    rw [hd] at ho ⊢
    refine seg_forTurn ?_
    have W := fun (A' : Around) (h : A'.handled = none) => (WalksT.enumerateD (prog := prog) (w := w) (A := A') (Draws.strAscii (A := A'.in1) h it x t) e hne (by simpa using hne) (by simp)).toU
    refine (W (A.over _ _) (by exact hh)).done s _ _ hst fun h' tk hk => seg_block_nil ?_
    have I' := Inv.foreign' (F := fxG prog w A env [e, it] [] s₀) (wr := [e, it]) (h' := h') (tk := tk) I (fun a o h hm => h.2 (List.mem_cons_of_mem _ hm)) hk (fun a h => nomatch h) (fun n c h => by rw [hc] at h; cases h)
    exact hK esc s₀ _ pre ho I'
  | succ k ih =>
    intro i esc s₀ s pre hi ho I hst
    have hlt : i < x.cps.size := by omega
    have hlt' : i < x.cps.toList.length := by simpa using hlt
    have hdrop : x.cps.toList.drop i = x.cps[i] :: x.cps.toList.drop (i + 1) := by
      rw [List.drop_eq_getElem_cons hlt']; simp
    rw [hdrop] at ho ⊢
    refine seg_forTurn ?_
    have W := fun (A' : Around) (h : A'.handled = none) => (WalksT.enumerateD (prog := prog) (w := w) (A := A') (Draws.strAscii (A := A'.in1) h it x t) e hne (by simpa using hne) (by simp)).toU
    have hliv : ∀ (i : Nat) (h : Heap), ((∃ old, IsEnum h e it i old) ∧ h.IsStrIter it "str_ascii_iterator" x t i) → ∀ b ∈ [e, it], ∃ o, h.get? b = some o := by
      rintro i h ⟨⟨old, h1⟩, ⟨o, h2, _⟩⟩ b hb
      rcases List.mem_cons.mp hb with e | hb
      · rw [e]; exact ⟨_, h1⟩
      · rw [List.mem_singleton.mp hb]; exact ⟨_, h2⟩
    refine (W (A.over _ _) (by exact hh)).item i s _ _ hlt hst fun T vals h₁ tk₁ hP hT₁ hm₁ hk₁ => ?_
    obtain ⟨ti, v, ⟨ch, uc, hcx, rfl⟩, rfl⟩ := hP
    have hcx' : ch = x.cps[i] := by rw [Array.getElem?_eq_getElem hlt] at hcx; exact (Option.some.inj hcx).symm
    subst hcx'
    refine (W (A.over _ _) (by exact hh)).go _ _ _ i T _ _ _ hm₁ fun h₂ hst₂ hk₂ => ?_
    have hT₂ : h₂.IsTuple T #[.int (i : Int) ti, .str ⟨#[x.cps[i]]⟩ uc] := let ⟨o, ho, r⟩ := hT₁; ⟨o, hk₂ T o ((W A hh).apart i T h₁ hm₁) ho, r⟩
    have I1 := Inv.foreign (wr := [e, it]) (h' := h₂) (tk := tk₁) I (fun b hb => hb) (fun a o h hm => h.2 (List.mem_cons_of_mem _ hm)) (fun a o h e => hk₂ a o h (hk₁ a o h e)) (hliv _ _ hst₂) (fun n c h => by rw [hc] at h; cases h)
    refine wpAny_assign_Tuple hh hT₂ rfl rfl fun h₃ hx₃ => ?_
    have g3 : Gr { s with heap := h₂, toks := tk₁ } { s with heap := h₃, toks := tk₁ } := .keeps fun a o e => hx₃ a o (Nat.ne_of_lt (Heap.lt_size e)) e
    have I3 := I1.gr g3
    have hst₃ := (W A hh).frame _ _ _ hst₂ fun b hb o e => g3.heap b o e
    show wpAny _ _ (do holding [_] (assign (.Name "pos" q0) env (.int (i : Int) ti)); do holding [] (assign (.Name "ch" q1) env (.str ⟨#[x.cps[i]]⟩ uc)); pure ()) _ _ _
    have hel : ∀ b ∈ [e, it], b ∉ (fxG prog w A env [e, it] [e, it] s₀).own [] := fun b hb => I.apart b hb
    refine wpAny_bind (wpAny_holding (wpAny_assign_Name (Inv.store I3 (sl := .dat (.int (i : Int))) (.int _ _) (fun s₄ I4 k4 => ?_) (.inl hpos))))
    refine wpAny_bind (wpAny_holding (wpAny_assign_Name (Inv.store I4 (sl := .dat (.str ⟨#[x.cps[i]]⟩)) (.str _ _) (fun s₅ I5 k5 => wpAny_pure ?_) (.inl hch))))
    have hst₅ := (W A hh).frame _ _ _ hst₃ fun b hb o e => k5 b o (hel b hb) (k4 b o (hel b hb) e)
    refine seg_execs_cons (seg_If ?_)
    refine (Tr.name (Ev.name (d := .bool esc) (I5.varOld (by walk_at "lk")))) s₅ (.refl _) _ fun s₆ g₆ => ?_
    have I6 := I5.gr g₆
    have hst₆ := (W A hh).frame _ _ _ hst₅ fun b hb o e => g₆.heap b o e
    have hag : ∀ c' : Code, c' = c' := fun _ => rfl
    have again : ∀ (esc' : Bool) (s₀' s' : Shared) (pre' : List (Nat × List Nat)) (n : Nat), outs = pre' ++ escs (i + 1) (x.cps.toList.drop (i + 1)) esc' → n = (escs (i + 1) (x.cps.toList.drop (i + 1)) esc').length → Inv (fxG prog w A env [e, it] [e, it] s₀') s' (sigG x (i + 1) esc') [] →
        ((∃ old, IsEnum s'.heap e it ((i + 1 : Nat) : Int) old) ∧ s'.heap.IsStrIter it "str_ascii_iterator" x t (i + 1)) → _ := fun esc' s₀' s' pre' n h1 h2 h3 h4 => h2 ▸ ih (i + 1) esc' s₀' s' pre' (by omega) h1 h3 h4
    have hcat : (Str.ofString "\\").length + (⟨#[x.cps[i]]⟩ : Str).length ≤ sizeLine := by
      rw [show (Str.ofString "\\").length = 1 by kernel_rfl, sizeLine_eq]
      show 1 + 1 ≤ 16777216
      decide
    cases esc with
    | true =>
      rw [if_pos rfl]
      have ho' : outs = pre ++ (i, [92, x.cps[i]]) :: escs (i + 1) (x.cps.toList.drop (i + 1)) false := ho
      refine seg_execs_cons (seg_Expr_Yield rfl rfl rfl (yield_pair (pre := pre) ho' hnew (fun b hb => hb) hc (I6.re (σ' := ("ch", .dat (.str ⟨#[x.cps[i]]⟩)) :: sigG x (i + 1) true) ⟨lk_head, lk_tail (by kernel_rfl) (lk_tail (by kernel_rfl) lk_head), lk_tail (by kernel_rfl) lk_head, by walk_at "lk", trivial⟩) (sig_scalar2 rfl)
        (Ev.tuple (Evs.cons (Ev.name (I6.varOld (by walk_at "lk"))) (Evs.cons ((Ev.bin Ev.str (Ev.name (d := .str ⟨#[x.cps[i]]⟩) (I6.varOld (by walk_at "lk"))) I6.live (op_addS hcat)).cast (congrArg D.str (back_cat _))) Evs.nil)) I6.live (by show 2 ≤ sizeLine; rw [sizeLine_eq]; decide)) fun s₇ I7 k7 => ?_) hco (by unfold interactive; rw [hsc]; rfl))
      have hst₇ := (W A hh).frame _ _ _ hst₆ k7
      refine seg_stmt (wpAny_Assign_Name (Ev.bool (prog := prog) (w := w) (env := env) (O := [e, it]) s₇ (.refl _) _ fun v s₈ g₈ r₈ => ?_) rfl)
      have I8 := I7.gr g₈
      have hst₈ := (W A hh).frame _ _ _ hst₇ fun b hb o e => g₈.heap b o e
      cases r₈
      refine Inv.store I8 (sl := .dat (.bool false)) (.bool _) (fun s₉ I9 k9 => ⟨rfl, ?_⟩) (.inl hesc)
      have hst₉ := (W A hh).frame _ _ _ hst₈ fun b hb o e => k9 b o (I8.apart b hb) e
      exact seg_again rfl (again false s₇ s₉ (pre ++ [(i, [92, x.cps[i]])]) _ (by rw [ho']; simp) rfl (I9.re ⟨lk_head, lk_tail (by kernel_rfl) (lk_tail (by kernel_rfl) (lk_tail (by kernel_rfl) lk_head)), by walk_at "lk", trivial⟩) hst₉)
    | false => 
      rw [if_neg (by exact Bool.false_ne_true)]
      refine seg_execs_cons (seg_If ?_)
      refine (Tr.cmp (O := [e, it]) (Ev.name (d := .str ⟨#[x.cps[i]]⟩) (I6.varOld (by walk_at "lk"))) Ev.str I6.live op_eqS) s₆ (.refl _) _ fun s₇ g₇ => ?_
      have I7 := I6.gr g₇
      have hst₇ := (W A hh).frame _ _ _ hst₆ fun b hb o e => g₇.heap b o e
      rw [back_eq]
      by_cases hb : x.cps[i] = 92
      · rw [if_pos (by simpa using hb)]
        have e0 : escs i (x.cps[i] :: x.cps.toList.drop (i + 1)) false = escs (i + 1) (x.cps.toList.drop (i + 1)) true := by
          conv => lhs; unfold escs
          rw [if_pos (by simpa using hb)]
        rw [e0] at ho ⊢
        refine seg_stmt (wpAny_Assign_Name (Ev.bool (prog := prog) (w := w) (env := env) (O := [e, it]) s₇ (.refl _) _ fun v s₈ g₈ r₈ => ?_) rfl)
        have I8 := I7.gr g₈
        have hst₈ := (W A hh).frame _ _ _ hst₇ fun b hb o e => g₈.heap b o e
        cases r₈
        refine Inv.store I8 (sl := .dat (.bool true)) (.bool _) (fun s₉ I9 k9 => ⟨rfl, ?_⟩) (.inl hesc)
        have hst₉ := (W A hh).frame _ _ _ hst₈ fun b hb o e => k9 b o (I8.apart b hb) e
        exact seg_again rfl (again true s₀ s₉ pre _ ho rfl (I9.re ⟨lk_head, lk_tail (by kernel_rfl) (lk_tail (by kernel_rfl) lk_head), by walk_at "lk", trivial⟩) hst₉)
      · rw [if_neg (by simpa using hb)]
        have e0 : escs i (x.cps[i] :: x.cps.toList.drop (i + 1)) false = (i, [x.cps[i]]) :: escs (i + 1) (x.cps.toList.drop (i + 1)) false := by
          conv => lhs; unfold escs
          rw [if_neg (by simpa using hb)]
        rw [e0] at ho ⊢
        refine seg_execs_cons (seg_Expr_Yield rfl rfl rfl (yield_pair (pre := pre) ho hnew (fun b hb => hb) hc (I7.re (σ' := ("ch", .dat (.str ⟨#[x.cps[i]]⟩)) :: sigG x (i + 1) false) ⟨lk_head, lk_tail (by kernel_rfl) (lk_tail (by kernel_rfl) lk_head), lk_tail (by kernel_rfl) lk_head, by walk_at "lk", trivial⟩) (sig_scalar2 rfl)
          (Ev.tuple (Evs.cons (Ev.name (I7.varOld (by walk_at "lk"))) (Evs.cons (Ev.name (I7.varOld (by walk_at "lk"))) Evs.nil)) I7.live (by show 2 ≤ sizeLine; rw [sizeLine_eq]; decide)) fun s₈ I8 k8 => ?_) hco (by unfold interactive; rw [hsc]; rfl))
        have hst₈ := (W A hh).frame _ _ _ hst₇ k8
        exact seg_again rfl (again false s₈ s₈ (pre ++ [(i, [x.cps[i]])]) _ (by rw [ho]; simp) rfl (I8.re ⟨lk_tail (by kernel_rfl) lk_head, lk_tail (by kernel_rfl) (lk_tail (by kernel_rfl) lk_head), by walk_at "lk", trivial⟩) hst₈)
end
end Mine

namespace Mine
open PySem PySem.Calls
open Sem (wp)

local macro_rules | `(tactic| walk_at "lk") => `(tactic| first | exact lk_here (by with_reducible rfl) rfl | exact lk_tail (by kernel_rfl) (by walk_at "lk"))

section
variable {prog : Program} {w : World} {A : Around} {env : Env} {h₀ : Heap} {N : Addr → Prop} {x : Str} {mg : Str → Option Value}

theorem esc_start {q0 q1 q2 q3 q4 q5 q6 q7 q8 q9 q10 q11 q12 q13 q14 q15 q16 q17 q18 q19 q20 q21 q22 q23 q24 q25 q26 r0 r1 r2 r3 r4 r5 r6 r7 r8 r9 r10 r11 r12 r13 r14 r15 r16 : Pos} {k0 k1 k2 k3 k4 k5 k6 j0 j1 j2 j3 : Nat}
    (hh : A.handled = none) (hx : Asc x) (hc : env.cells = []) (hco : env.scope.isCoroutine = false)
    (hpos : env.kindOf "pos" = some .local) (hch : env.kindOf "ch" = some .local) (hesc : env.kindOf "escape" = some .local) (hsc : env.scope.kind = .function) (hL : h₀.get? env.locals = none) (hNL : N env.locals)
    (henum : env.kindOf "enumerate" = some .globalImplicit) (hgl : env.globals = mainGlobals) (hbi : env.builtins = builtinsNs) (hmg : mg "enumerate" = none)
    {s₀ : Shared} (G : Glb mg h₀) (hkeep : ∀ a o, h₀.get? a = some o → s₀.heap.get? a = some o) (hN : ∀ b, s₀.heap.get? b = none → N b) (I : Inv (fxG prog w A env [] [] s₀) s₀ [("addr", .dat (.str x))] []) :
      Seg (model prog w) A (escR N) (escY N (escs 0 x.cps.toList false)) (escs 0 x.cps.toList false).length s₀
        (.func [.Assign [.Name "pos" r0] (.Constant (.int 0) j0 r1) r2, .Assign [.Name "escape" r3] (.Constant (.bool false) j1 r4) r5, .For (.Tuple [.Name "pos" q0, .Name "ch" q1] k0 q2) (.Call (.Name "enumerate" r6) [.Name "addr" r7] [] r8)
          [.If (.Name "escape" q3) [.Expr (.Yield (some (.Tuple [.Name "pos" q4, .BinOp (.Constant (.str "\\") k1 q5) .Add (.Name "ch" q6) q7] k2 q8)) q9) q10, .Assign [.Name "escape" q11] (.Constant (.bool false) k3 q12) q13]
            [.If (.Compare (.Name "ch" q14) [.Eq] [.Constant (.str "\\") k4 q15] q16) [.Assign [.Name "escape" q17] (.Constant (.bool true) k5 q18) q19]
              [.Expr (.Yield (some (.Tuple [.Name "pos" q20, .Name "ch" q21] k6 q22)) q23) q24] q25] q26] [] r9,
          .If (.Name "escape" r10) [.Expr (.Yield (some (.Tuple [.Name "pos" r11, .Constant (.str "\\") j2 r12] j3 r13)) r14) r15] [] r16] env)
        ((model prog w).den (.func [.Assign [.Name "pos" r0] (.Constant (.int 0) j0 r1) r2, .Assign [.Name "escape" r3] (.Constant (.bool false) j1 r4) r5, .For (.Tuple [.Name "pos" q0, .Name "ch" q1] k0 q2) (.Call (.Name "enumerate" r6) [.Name "addr" r7] [] r8)
          [.If (.Name "escape" q3) [.Expr (.Yield (some (.Tuple [.Name "pos" q4, .BinOp (.Constant (.str "\\") k1 q5) .Add (.Name "ch" q6) q7] k2 q8)) q9) q10, .Assign [.Name "escape" q11] (.Constant (.bool false) k3 q12) q13]
            [.If (.Compare (.Name "ch" q14) [.Eq] [.Constant (.str "\\") k4 q15] q16) [.Assign [.Name "escape" q17] (.Constant (.bool true) k5 q18) q19]
              [.Expr (.Yield (some (.Tuple [.Name "pos" q20, .Name "ch" q21] k6 q22)) q23) q24] q25] q26] [] r9,
          .If (.Name "escape" r10) [.Expr (.Yield (some (.Tuple [.Name "pos" r11, .Constant (.str "\\") j2 r12] j3 r13)) r14) r15] [] r16] env)) [] s₀ := by
  refine seg_func ?_
  refine seg_stmt (wpAny_Assign_Name (Ev.int (prog := prog) (w := w) (env := env) (O := []) s₀ (.refl _) _ fun v s₁ g₁ r₁ => ?_) rfl)
  refine Inv.store (I.gr g₁) (sl := .dat (.int 0)) (r₁.scalar rfl) (fun s₂ I₂ _ => ⟨rfl, ?_⟩) (.inl hpos)
  refine seg_stmt (wpAny_Assign_Name (Ev.bool (prog := prog) (w := w) (env := env) (O := []) s₂ (.refl _) _ fun v s₃ g₃ r₃ => ?_) rfl)
  refine Inv.store (I₂.gr g₃) (sl := .dat (.bool false)) (r₃.scalar rfl) (fun s₄ I₄ _ => ⟨rfl, ?_⟩) (.inl hesc)
  have g04 : ∀ a o, a ≠ env.locals → s₀.heap.get? a = some o → s₄.heap.get? a = some o := fun a o hne e => (I₄.base a o ⟨e, by simpa using hne⟩).1
  have hnL : ∀ a o, h₀.get? a = some o → a ≠ env.locals := fun a o e h => by rw [h, hL] at e; cases e
  have G₄ : Glb mg s₄.heap := G.keeps fun a o e => g04 a o (hnL a o e) (hkeep a o e)
  have hf : ∀ A', EvV prog w A' env s₄ (.Name "enumerate" r6) (.type "enumerate") := fun A' => EvV.built (s := s₄) G₄ hmg (by kernel_rfl) hsc henum hgl hbi (by decide +kernel)
  refine seg_execs_cons (seg_For (Call_name1 rfl (hf _ s₄ (.refl _) _ _ (callWith_type1 ((Ev.name (I₄.varOld (by walk_at "lk"))).now _ fun v s₅ g₅ r₅ => ?_)))))
  have I₅ := I₄.gr g₅
  cases r₅ with
  | str _ t =>
  refine call_enumerate_str fun h' hen hit hsz hk => wpAny_pyIter_enum hen fun p => ?_
  have fresh : ∀ b, s₅.heap.objs.size ≤ b → s₅.heap.get? b = none := fun b hb => by
    cases e : s₅.heap.get? b with
    | none => rfl
    | some o => exact absurd (Heap.lt_size e) (Nat.not_lt.mpr hb)
  have hLlive : ∃ o, s₅.heap.get? env.locals = some o := I₅.liveAll _ (List.mem_append.mpr (.inl (List.mem_cons_self ..)))
  have fresh0 : ∀ b, s₅.heap.objs.size ≤ b → N b := fun b hb => by
    refine hN b ?_
    cases e : s₀.heap.get? b with
    | none => rfl
    | some o =>
      have h1 := fresh b hb
      by_cases hbL : b = env.locals
      · obtain ⟨o', ho'⟩ := hLlive
        rw [hbL, ho'] at h1; cases h1
      · rw [g₅.heap b o (g04 b o hbL e)] at h1
        cases h1
  have hwr : ∀ b ∈ [s₅.heap.objs.size + 1, s₅.heap.objs.size], s₅.heap.objs.size ≤ b := fun b hb => by
    rcases List.mem_cons.mp hb with e | hb
    · rw [e]; exact Nat.le_succ _
    · rw [List.mem_singleton.mp hb]; exact Nat.le_refl _
  have I₆ : Inv (fxG prog w A env [s₅.heap.objs.size + 1, s₅.heap.objs.size] [s₅.heap.objs.size + 1, s₅.heap.objs.size] s₀) { s₅ with heap := h' } (sigG x 0 false) [] := by
    have J := Inv.root (s' := { s₅ with heap := h' }) I₅ (wr := [s₅.heap.objs.size + 1, s₅.heap.objs.size]) (.keeps hk) (fun b hb => fresh b (hwr b hb)) (fun b hb => by
      rcases List.mem_cons.mp hb with e | hb
      · rw [e]; exact ⟨_, hen⟩
      · rw [List.mem_singleton.mp hb]; obtain ⟨o, ho, _⟩ := hit; exact ⟨o, ho⟩)
    exact Inv.weak (F := fxG prog w A env [s₅.heap.objs.size + 1, s₅.heap.objs.size] [s₅.heap.objs.size + 1, s₅.heap.objs.size] s₀) J (fun a o h => ⟨h.1, fun hm => h.2 (by
      rcases List.mem_cons.mp hm with e | hm
      · exact e ▸ List.mem_cons_self ..
      · cases hm)⟩) (fun a h => h)
  have ht : strIterType x = "str_ascii_iterator" := by
    unfold strIterType
    rw [if_pos]
    rw [Array.all_eq_true']
    intro c hc
    exact decide_eq_true (hx c (by simpa using hc))
  rw [ht] at hit
  refine esc_loop (t := t) (outs := escs 0 x.cps.toList false) hh hx (Nat.succ_ne_self _) (fun b hb => ?_) hc hco hpos hch hesc hsc (fun esc s₁ s₂ pre ho I => ?_) x.cps.size 0 false s₀ { s₅ with heap := h' } [] (by omega) rfl I₆ ⟨⟨_, hen⟩, hit⟩
  · rcases List.mem_cons.mp hb with e | hb
    · rw [e]; exact hNL
    · exact fresh0 b (hwr b hb)
  · refine seg_execs_cons (seg_If ?_)
    refine (Tr.name (Ev.name (d := .bool esc) (I.varOld (by walk_at "lk")))) s₂ (.refl _) _ fun s₃ g₃ => ?_
    have I3 := I.gr g₃
    have hnew : ∀ b ∈ env.locals :: [s₅.heap.objs.size + 1, s₅.heap.objs.size], N b := fun b hb => by
      rcases List.mem_cons.mp hb with e | hb
      · rw [e]; exact hNL
      · exact fresh0 b (hwr b hb)
    cases esc with
    | false => exact seg_end (.ok (.ret .none)) ⟨rfl, rfl, _, hnew, I3.since⟩
    | true =>
      refine seg_execs_cons (seg_Expr_Yield rfl rfl rfl (yield_pair (O := []) (pre := pre) (c := [92]) (tl := []) ho hnew (fun b hb => nomatch hb) hc I3 sig_scalar
        (Ev.tuple (Evs.cons (Ev.name (I3.varOld (by walk_at "lk"))) (Evs.cons (Ev.str.cast (congrArg D.str (by kernel_rfl))) Evs.nil)) I3.live (by show 2 ≤ sizeLine; rw [sizeLine_eq]; decide)) fun s₇ I7 k7 => ?_) hco (by unfold interactive; rw [hsc]; rfl))
      exact seg_end (.ok (.ret .none)) ⟨rfl, rfl, _, hnew, I7.since⟩
end
end Mine

namespace Mine
open PySem PySem.Calls
open Sem (wp)

def Sl.sc : Sl → Prop
  | .dat d => d.scalar = true
  | .raw _ => True
def Wn.sc : Wn → Prop
  | .lst ds => ∀ d ∈ ds, d.scalar = true
  | .raw _ => True
theorem Reps.scalar {P P' : Addr → Obj → Prop} : ∀ {vs : List Value} {ds : List D}, Reps P vs ds → (∀ d ∈ ds, d.scalar = true) → Reps P' vs ds
  | _, _, .nil, _ => .nil
  | _, _, .cons h r, hs => .cons (h.scalar (hs _ (List.mem_cons_self ..))) (Reps.scalar r fun d hd => hs d (List.mem_cons_of_mem _ hd))
theorem Sl.ok.scalar {P P' : Addr → Obj → Prop} {v : Value} : ∀ {sl : Sl}, sl.ok P v → sl.sc → sl.ok P' v
  | .dat _, r, h => Rep.scalar r h
  | .raw _, r, _ => r
theorem Wn.ok.scalar {P P' : Addr → Obj → Prop} {v : List Value} : ∀ {sl : Wn}, sl.ok P v → sl.sc → sl.ok P' v
  | .lst _, r, h => Reps.scalar r h
  | .raw _, r, _ => r

@[reducible] def Fx.at (F : Fx) (B : Addr → Obj → Prop) (O : List Addr) (s₀ : Shared) : Fx := ⟨F.prog, F.w, F.A, F.env, O, B, F.wc, s₀⟩

section
variable {F : Fx} {s s' s₀ s₁ : Shared} {σ : List (Str × Sl)} {μ : List (Addr × Wn)} {B : Addr → Obj → Prop} {O : List Addr}

theorem Inv.reS (I : Inv (F.at B O s₁) s σ μ) (h1 : s.drawn = s₀.drawn) (h2 : s.os = s₀.os) (h3 : GExt s₀.gens s.gens) : Inv (F.at B O s₀) s σ μ :=
  ⟨I.kind, h1, h2, h3, I.base, I.apart, I.live, I.nodup, I.roc, I.inj, I.mem, I.muts⟩

theorem Inv.foreignS (I : Inv (F.at F.B F.O s₁) s σ μ) {W : List Addr} (hσ : ∀ y sl, σ.lookup y = some sl → sl.sc) (hμ : ∀ a w, (a, w) ∈ μ → w.sc)
    (hown : ∀ a ∈ F.own μ, a ∉ W) (hO : ∀ a ∈ F.O, a ∉ W) (hB : ∀ a o, F.B a o → a ∉ W) (hcw : ∀ n c, F.env.cells.lookup n = some c → c ∉ W)
    (hk : ∀ a o, a ∉ W → s.heap.get? a = some o → s'.heap.get? a = some o) (h1 : s'.drawn = s₀.drawn) (h2 : s'.os = s₀.os) (h3 : GExt s₀.gens s'.gens) : Inv (F.at F.B F.O s₀) s' σ μ := by
  have kown : ∀ a o, a ∈ F.own μ → s.heap.get? a = some o → s'.heap.get? a = some o := fun a o ha e => hk a o (hown a ha) e
  refine ⟨I.kind, h1, h2, h3, fun a o h => ⟨hk a o (hB a o h) (I.base a o h).1, (I.base a o h).2⟩, I.apart, fun a h => let ⟨o, ho⟩ := I.live a h; ⟨o, hk a o (hO a h) ho⟩, I.nodup, I.roc, I.inj, ?_, fun a w hm => ?_⟩
  · obtain ⟨lm, cm, hn, hc, hcs, hv⟩ := I.mem
    refine ⟨lm, cm, hn.at' fun o e => kown _ o (List.mem_cons_self ..) e, fun n c h => let ⟨o, ho, hd⟩ := hc n c h; ⟨o, hk c o (hcw n c h) ho, hd⟩,
      fun c h => let ⟨v, o, ho, hd⟩ := hcs c h; ⟨v, o, kown c o (List.mem_cons_of_mem _ (List.mem_append.mpr (.inl h))) ho, hd⟩, fun x sl h => ?_⟩
    obtain ⟨v, h1, h2⟩ := hv x sl h
    exact ⟨v, h1, h2.scalar (hσ x sl h)⟩
  · obtain ⟨vs, n, h1, h2⟩ := I.muts a w hm
    exact ⟨vs, n, kown a _ (List.mem_cons_of_mem _ (List.mem_append.mpr (.inr (List.mem_map.mpr ⟨_, hm, rfl⟩)))) h1, h2.scalar (hμ a w hm)⟩
end

/-- what a generator may write: what is new, but itself -/
def NewBut (h₀ : Heap) (ga : Addr) (b : Addr) : Prop := h₀.get? b = none ∧ b ≠ ga

/-- the generator ga, number g, has told j of outs -/
def EscAt (prog : Program) (w : World) (A : Around) (h₀ : Heap) (outs : List (Nat × List Nat)) (ga : Addr) (g j : Nat) (s : Shared) : Prop :=
  s.heap.IsGen ga g ∧ ∃ (gs : GenState) (Wk : List Addr), s.gens[g]? = some gs ∧ (∀ b ∈ Wk, NewBut h₀ ga b ∧ ∃ o, s.heap.get? b = some o) ∧
    ∀ s'' : Shared, (j = 0 → ∀ a o, h₀.get? a = some o → s''.heap.get? a = some o) → (j = 0 → ∃ o, s''.heap.get? ga = some o) → KeepsAt Wk s s'' →
      gs.Goes (model prog w) A.in1 (escR (NewBut h₀ ga)) (escY (NewBut h₀ ga) outs) (outs.length - j) (.send .none) s''

theorem EscAt.frame {prog : Program} {w : World} {A : Around} {h₀ : Heap} {outs : List (Nat × List Nat)} {ga : Addr} {g j : Nat} {s s' : Shared} (h : EscAt prog w A h₀ outs ga g j s) (hg : s'.gens[g]? = s.gens[g]?)
    (hk : ∀ a o, (a = ga ∨ h₀.get? a = none) → s.heap.get? a = some o → s'.heap.get? a = some o) : EscAt prog w A h₀ outs ga g j s' := by
  obtain ⟨⟨o, nm, qn, ho, hr⟩, gs, Wk, h1, h2, h3⟩ := h
  exact ⟨⟨o, nm, qn, hk _ _ (.inl rfl) ho, hr⟩, gs, Wk, hg.trans h1, fun b hb => ⟨(h2 b hb).1, let ⟨o, ho⟩ := (h2 b hb).2; ⟨o, hk b o (.inr (h2 b hb).1.1) ho⟩⟩,
    fun s'' a b c => h3 s'' a b fun d hd o e => c d hd o (hk d o (.inr (h2 d hd).1.1) e)⟩

theorem go_gen {M : Model} {A : Around} {E : Value → Shared → Prop} {s : Shared} {Q : Unit → Shared → Prop} {elts : List Expr} {k : Nat} {pos : Pos} {ga T : Addr} {g : Nat} (hg : s.heap.IsGen ga g) (h : Q () s) :
    wpAny M A (letOwnedTupleGo (.Tuple elts k pos) (.ref ga) (.ref T)) Q E s := by
  obtain ⟨o, nm, qn, ho, hc, hd, _⟩ := hg
  show wpAny M A (load ga >>= fun o => _) Q E s
  refine wpAny_bind (wpAny_load ho ?_)
  obtain ⟨c, dd, dt, sl⟩ := o
  cases hc
  cases hd
  show wpAny M A (if _ then _ else _) Q E s
  rw [if_neg (by
    have : (["enumerate", "zip", "dict_itemiterator", "dict_reverseitemiterator", "odict_iterator", "itertools.zip_longest", "itertools.pairwise"].contains "generator") = false := by decide +kernel
    rw [this]; exact Bool.false_ne_true)]
  exact wpAny_pure h

/-- a generator is made -/
structure MadeGen (prog : Program) (w : World) (A : Around) (outs : List (Nat × List Nat)) (s₁ s' : Shared) (ga : Addr) : Prop where
  drawn : s'.drawn = s₁.drawn
  os : s'.os = s₁.os
  heap : ∀ a o, s₁.heap.get? a = some o → s'.heap.get? a = some o
  gens : ∃ x, s'.gens = s₁.gens.push x
  new : s₁.heap.get? ga = none
  gat : EscAt prog w A s₁.heap outs ga s₁.gens.size 0 s'

section
variable {F : Fx} {s : Shared} {σ : List (Str × Sl)} {μ : List (Addr × Wn)} {Q : Flow → Shared → Prop} {rest : List Stmt} {x y : Str} {px py pt pos : Pos} {k₁ : Nat}

theorem x_forGen {iter : Expr} {body : List Stmt} {outs : List (Nat × List Nat)} (hh : F.A.handled = none) (hroom : F.A.depth < recursionLimit) (I : Inv F s σ μ)
    (hNL : ∀ h : Heap, (∀ a o, F.B a o → h.get? a = some o) → h.NoLimit)
    (hcall : ∀ Q : Value → Shared → Prop, (∀ s₁ s' ga, Gr s s₁ → MadeGen F.prog F.w F.A outs s₁ s' ga → Q (.ref ga) s') → wpAny (model F.prog F.w) F.A (eval iter F.env) Q Never s)
    (J : Nat → List (Str × Sl)) (M : Nat → List (Addr × Wn)) (h0 : Subs (J 0) σ) (hM0 : M 0 = μ) (hM : ∀ i, (M i).map (·.1) = μ.map (·.1)) (hx : Bindable F x) (hy : Bindable F y)
    (hJ : ∀ i y sl, (J i).lookup y = some sl → sl.sc) (hMs : ∀ i a w, (a, w) ∈ M i → w.sc)
    (turn : ∀ i p c (B : Addr → Obj → Prop) (s₀ : Shared) s', outs[i]? = some (p, c) → (∀ a o, F.B a o → B a o) → Inv (F.at B F.O s₀) s' ((y, .dat (.str ⟨c.toArray⟩)) :: (x, .dat (.int (p : Nat))) :: J i) (M i) →
      Ex (F.at B F.O s₀) body (fun f s'' => match f with
        | .next | .cont => Inv (F.at B F.O s₀) s'' (J (i + 1)) (M (i + 1))
        | _ => False) s')
    (done : ∀ s', Inv F s' (J outs.length) (M outs.length) → Ex F rest Q s') (hs : ∀ v, foldedSetIterable iter F.env v = pure v := by intro _; rfl) :
    Ex F (.For (.Tuple [.Name x px, .Name y py] k₁ pt) iter body [] pos :: rest) Q s := by
  refine wpAny_execs_cons (wpAny_For (hcall _ fun s₁ s₂ ga g₁ mk => ?_) hs)
  have I₁ := I.gr g₁
  refine wpAny_pyIter_gen mk.gat.1 ?_
  have hownl : ∀ a ∈ F.own μ, ∃ o, s₁.heap.get? a = some o := fun a h => I₁.ownLive h
  have hownN : ∀ a ∈ F.own μ, ∀ {b}, b = ga ∨ s₁.heap.get? b = none → a ≠ b := by
    rintro a h b hb rfl
    obtain ⟨o, ho⟩ := hownl a h
    rcases hb with rfl | hb
    · rw [mk.new] at ho; cases ho
    · rw [hb] at ho; cases ho
  have hg0 : F.s₀.gens[s₁.gens.size]? = none := by
    cases e : F.s₀.gens[s₁.gens.size]? with
    | none => rfl
    | some x =>
      have := I₁.gens.old _ _ e
      rw [Array.getElem?_eq_none (Nat.le_refl _)] at this
      cases this
  refine codeAny_forLoop_any (fun k s' => ∃ i, i ≤ outs.length ∧ k = outs.length + 1 - i ∧ Inv (F.at F.B F.O { F.s₀ with gens := s'.gens }) s' (J i) (M i) ∧ EscAt F.prog F.w F.A s₁.heap outs ga s₁.gens.size i s' ∧
      ((∀ (k : Nat) (x : GenState), F.s₀.gens[k]? = some x → s'.gens[k]? = some x) ∧ ∀ (k : Nat) (x : GenState), k ≠ s₁.gens.size → F.s₀.gens[k]? = none → s'.gens[k]? = some x → x = .finished) ∧ (i = 0 → ∀ a o, s₁.heap.get? a = some o → s'.heap.get? a = some o))
    ?_ (outs.length + 1) ⟨0, Nat.zero_le _, rfl, ?_, mk.gat, ⟨?_, ?_⟩, fun _ => mk.heap⟩
  · rintro k s' ⟨i, hi, rfl, Ii, hat, ⟨hold, hnew⟩, hz⟩
    obtain ⟨hG, gs, Wk, hgs, hWk, hgo⟩ := hat
    have hNLs : s'.heap.NoLimit := hNL _ fun a o h => (Ii.base a o h).1
    have hofN : ∀ {W : List Addr}, (∀ b ∈ W, NewBut s₁.heap ga b) → (∀ a ∈ F.own (M i), a ∉ W) ∧ (∀ a ∈ F.O, a ∉ W) ∧ (∀ a o, F.B a o → a ∉ W) ∧ (∀ n c, F.env.cells.lookup n = some c → c ∉ W) := fun {W} hW => by
      refine ⟨fun a ha hw => ?_, fun a ha hw => ?_, fun a o ha hw => ?_, fun n c h hw => ?_⟩
      · rw [own_eq (F := F) (hM i)] at ha
        exact hownN a ha (.inr (hW a hw).1) rfl
      · obtain ⟨o, ho⟩ := I₁.live a ha; rw [(hW a hw).1] at ho; cases ho
      · have := (I₁.base a o ha).1; rw [(hW a hw).1] at this; cases this
      · obtain ⟨o, ho⟩ := I₁.cellLive h; rw [(hW c hw).1] at ho; cases ho
    have hsg : ∀ (s : Shared) (x : GenState) k, k ≠ s₁.gens.size → (s.setGen s₁.gens.size x).gens[k]? = s.gens[k]? := fun s x k hk => (GenOnly.setGen s s₁.gens.size x).2 k hk
    refine wpAny_pyNext_gen (P := fun n s₀ s₁' => n = 0 ∧ ∃ W : List Addr, (∀ b ∈ W, NewBut s₁.heap ga b) ∧ Since W s₀ s₁') hh hNLs hroom hG hgs (hgo (s'.setGen s₁.gens.size .running) hz (fun _ => let ⟨o, _, _, ho, _⟩ := hG; ⟨o, ho⟩) fun _ _ _ e => e) (fun v s₃ gs' hv => ?_) (fun s₃ hp h' hk => ?_)
    · obtain ⟨⟨T, p, c, t, u, rfl, hT, hidx⟩, W, Wk', hW, hWk', hS, hkap⟩ := hv
      have hpos : outs.length - i ≠ 0 := fun h0 => by
        rw [h0] at hkap
        exact (hkap s₃ fun _ _ _ e => e)
      have hlt : i < outs.length := by omega
      obtain ⟨m, hm⟩ : ∃ m, outs.length - i = m + 1 := ⟨outs.length - i - 1, by omega⟩
      rw [hm] at hkap hidx
      rw [show outs.length - 1 - (m + 1 - 1) = i by omega] at hidx
      obtain ⟨w1, w2, w3, w4⟩ := hofN hW
      have hga : ga ∉ W := fun h => (hW ga h).2 rfl
      -- the state behind
      have hsize : (s'.setGen s₁.gens.size .running).gens[s₁.gens.size]? = some .running := setGen_self hgs
      have h3g : s₃.gens[s₁.gens.size]? = some .running := hS.gens.old _ _ hsize
      have hat₃ : EscAt F.prog F.w F.A s₁.heap outs ga s₁.gens.size (i + 1) (s₃.setGen s₁.gens.size gs') := by
        obtain ⟨o, nm, qn, ho, hr⟩ := hG
        refine ⟨⟨o, nm, qn, hS.heap _ _ hga ho, hr⟩, gs', Wk', setGen_self h3g, hWk', fun s'' _ _ hk => ?_⟩
        rw [show outs.length - (i + 1) = m by omega]
        exact hkap s'' hk
      have hold₃ : ∀ (k : Nat) (x : GenState), F.s₀.gens[k]? = some x → (s₃.setGen s₁.gens.size gs').gens[k]? = some x := fun k x e => by
        have hne : k ≠ s₁.gens.size := fun h => by rw [h, hg0] at e; cases e
        rw [hsg _ _ k hne]
        exact hS.gens.old _ _ (by rw [hsg _ _ k hne]; exact hold k x e)
      have hnew₃ : ∀ (k : Nat) (x : GenState), k ≠ s₁.gens.size → F.s₀.gens[k]? = none → (s₃.setGen s₁.gens.size gs').gens[k]? = some x → x = .finished := fun k x hne e e' => by
        rw [hsg _ _ k hne] at e'
        cases h : s'.gens[k]? with
        | none => exact hS.gens.new k x (by rw [hsg _ _ k hne]; exact h) e'
        | some z =>
          have := hS.gens.old k z (by rw [hsg _ _ k hne]; exact h)
          rw [this] at e'
          cases e'
          exact hnew k _ hne e h
      have I3 : Inv (F.at F.B F.O { F.s₀ with gens := (s₃.setGen s₁.gens.size gs').gens }) (s₃.setGen s₁.gens.size gs') (J i) (M i) :=
        Inv.foreignS (W := W) Ii (hJ i) (hMs i) w1 w2 w3 w4 (fun a o h e => hS.heap a o h e) (hS.drawn.trans Ii.drawn) (hS.os.trans Ii.os) (.refl _)
      have hT₄ : (s₃.setGen s₁.gens.size gs').heap.IsTuple T #[.int (p : Nat) t, .str ⟨c.toArray⟩ u] := hT
      show wpAny _ _ _ _ _ (s₃.setGen s₁.gens.size gs')
      generalize s₃.setGen s₁.gens.size gs' = s₄ at hat₃ hold₃ hnew₃ I3 hT₄
      refine go_gen hat₃.1 ?_
      refine wpAny_assign_Tuple hh hT₄ rfl rfl fun h₅ hx₅ => ?_
      have g5 : Gr s₄ { s₄ with heap := h₅ } := .keeps fun a o e => hx₅ a o (Nat.ne_of_lt (Heap.lt_size e)) e
      have I5 := I3.gr g5
      show wpAny _ _ (do holding [_] (assign (.Name x px) F.env (.int (p : Nat) t)); do holding [] (assign (.Name y py) F.env (.str ⟨c.toArray⟩ u)); pure ()) _ _ _
      have ho : ∀ B s₀, (F.at B F.O s₀).own (M i) = F.own μ := fun _ _ => own_eq (F := F) (hM i)
      refine wpAny_bind (wpAny_holding (wpAny_assign_Name (Inv.store I5 (sl := .dat (.int (p : Nat))) (.int _ _) (fun s₆ I6 k6 => ?_) hx)))
      refine wpAny_bind (wpAny_holding (wpAny_assign_Name (Inv.store I6 (sl := .dat (.str ⟨c.toArray⟩)) (.str _ _) (fun s₇ I7 k7 => wpAny_pure ?_) hy)))
      have k57 : ∀ a o, a ∉ F.own μ → s₄.heap.get? a = some o → s₇.heap.get? a = some o := fun a o hm e => k7 a o (by rw [ho]; exact hm) (k6 a o (by rw [ho]; exact hm) (g5.heap a o e))
      have G7 : GExt s₄.gens s₇.gens := I7.gens
      obtain ⟨z4, hz4⟩ : ∃ z, s₄.gens[s₁.gens.size]? = some z := let ⟨_, gs, _, h, _⟩ := hat₃; ⟨gs, h⟩
      have hat₇ : EscAt F.prog F.w F.A s₁.heap outs ga s₁.gens.size (i + 1) s₇ := hat₃.frame ((G7.old _ _ hz4).trans hz4.symm) fun a o ha e => k57 a o (fun hm => hownN a hm ha rfl) e
      have I7' : Inv (F.at (fun a o => s₇.heap.get? a = some o ∧ a ∉ F.own μ) F.O { F.s₀ with gens := s₇.gens }) s₇ ((y, .dat (.str ⟨c.toArray⟩)) :: (x, .dat (.int (p : Nat))) :: J i) (M i) :=
        ⟨I7.kind, I7.drawn, I7.os, .refl _, fun a o h => ⟨h.1, by rw [ho]; exact h.2⟩, I7.apart, I7.live, I7.nodup, I7.roc, I7.inj, I7.mem, I7.muts⟩
      have hBB : ∀ a o, F.B a o → s₇.heap.get? a = some o ∧ a ∉ F.own μ := fun a o h => ⟨(I7.base a o h).1, by have := (I7.base a o h).2; rw [ho] at this; exact this⟩
      refine wpAny_mono (turn i p c (fun a o => s₇.heap.get? a = some o ∧ a ∉ F.own μ) { F.s₀ with gens := s₇.gens } s₇ hidx hBB I7') (fun f s₈ h₈ => ?_) fun _ _ e => e.elim
      have fin : Inv (F.at (fun a o => s₇.heap.get? a = some o ∧ a ∉ F.own μ) F.O { F.s₀ with gens := s₇.gens }) s₈ (J (i + 1)) (M (i + 1)) →
          ∃ m, m < outs.length + 1 - i ∧ ∃ j, j ≤ outs.length ∧ m = outs.length + 1 - j ∧ Inv (F.at F.B F.O { F.s₀ with gens := s₈.gens }) s₈ (J j) (M j) ∧ EscAt F.prog F.w F.A s₁.heap outs ga s₁.gens.size j s₈ ∧
            ((∀ (k : Nat) (x : GenState), F.s₀.gens[k]? = some x → s₈.gens[k]? = some x) ∧ ∀ (k : Nat) (x : GenState), k ≠ s₁.gens.size → F.s₀.gens[k]? = none → s₈.gens[k]? = some x → x = .finished) ∧ (j = 0 → ∀ a o, s₁.heap.get? a = some o → s₈.heap.get? a = some o) := fun I8 => by
        have hg8 : ∀ (k : Nat) (z : GenState), s₇.gens[k]? = some z → s₈.gens[k]? = some z := I8.gens.old
        obtain ⟨z, hz7⟩ : ∃ z, s₇.gens[s₁.gens.size]? = some z := let ⟨_, gs, _, h, _⟩ := hat₇; ⟨gs, h⟩
        refine ⟨outs.length + 1 - (i + 1), by omega, i + 1, hlt, rfl, ?_, ?_, ⟨fun k x e => hg8 k x (G7.old k x (hold₃ k x e)), fun k x hne e e' => ?_⟩, fun h => absurd h (Nat.succ_ne_zero i)⟩
        · exact Inv.reS (F := F) (Inv.weak (F := F.at F.B F.O { F.s₀ with gens := s₇.gens }) I8 hBB fun a h => h) I8.drawn I8.os (.refl _)
        · exact hat₇.frame ((hg8 _ _ hz7).trans hz7.symm) fun a o ha e => (I8.base a o ⟨e, fun hm => hownN a hm ha rfl⟩).1
        · cases h : s₇.gens[k]? with
          | none => exact I8.gens.new k x h e'
          | some z =>
            have := hg8 k z h
            rw [this] at e'
            cases e'
            cases h4 : s₄.gens[k]? with
            | none => exact G7.new k _ h4 h
            | some z' =>
              have h7 := G7.old k z' h4
              rw [h] at h7
              cases h7
              exact hnew₃ k _ hne e h4
      cases f with
      | next => exact fin h₈
      | cont => exact fin h₈
      | brk => exact h₈.elim
      | ret v => exact h₈.elim
    · obtain ⟨hn0, W, hW, hS⟩ := hp
      have hin : i = outs.length := by omega
      subst hin
      obtain ⟨w1, w2, w3, w4⟩ := hofN hW
      refine wpAny_execs_nil (done _ ?_)
      refine Inv.foreignS (W := W) Ii (hJ _) (hMs _) w1 w2 w3 w4 (fun a o h e => hk a o (hS.heap a o h e)) (hS.drawn.trans Ii.drawn) (hS.os.trans Ii.os) ⟨fun k x e => ?_, fun k x e e' => ?_⟩
      · have hne : k ≠ s₁.gens.size := fun h => by rw [h, hg0] at e; cases e
        show (s₃.setGen s₁.gens.size .finished).gens[k]? = _
        rw [hsg _ _ k hne]
        exact hS.gens.old _ _ (by rw [hsg _ _ k hne]; exact hold k x e)
      · have e' : (s₃.setGen s₁.gens.size .finished).gens[k]? = some x := e'
        by_cases hne : k = s₁.gens.size
        · have h3g : s₃.gens[s₁.gens.size]? = some .running := hS.gens.old _ _ (setGen_self hgs)
          rw [hne, setGen_self h3g] at e'
          exact (Option.some.inj e').symm
        · rw [hsg _ _ k hne] at e'
          cases h : s'.gens[k]? with
          | none => exact hS.gens.new k x (by rw [hsg _ _ k hne]; exact h) e'
          | some z =>
            have := hS.gens.old k z (by rw [hsg _ _ k hne]; exact h)
            rw [this] at e'
            cases e'
            exact hnew k _ hne e h
  · rw [hM0]
    exact Inv.foreignS (F := F) (s₁ := F.s₀) (W := []) (I₁.re h0) (hJ 0) (fun a w h => hMs 0 a w (by rw [hM0]; exact h)) (fun _ _ h => nomatch h) (fun _ _ h => nomatch h) (fun _ _ _ h => nomatch h) (fun _ _ _ h => nomatch h) (fun a o _ e => mk.heap a o e) (mk.drawn.trans I₁.drawn) (mk.os.trans I₁.os) (.refl _)
  · intro k x e
    obtain ⟨z, hz⟩ := mk.gens
    rw [hz]
    have := I₁.gens.old k x e
    have hlt : k < s₁.gens.size := (Array.getElem?_eq_some_iff.mp this).1
    rw [Array.getElem?_push_lt hlt]
    rw [← this, Array.getElem?_eq_getElem hlt]
  · intro k x hne e e'
    obtain ⟨z, hz⟩ := mk.gens
    rw [hz] at e'
    rcases Nat.lt_or_ge k s₁.gens.size with hlt | hge
    · rw [Array.getElem?_push_lt hlt, ← Array.getElem?_eq_getElem hlt] at e'
      exact I₁.gens.new k x e e'
    · rw [Array.getElem?_eq_none (by rw [Array.size_push]; omega)] at e'
      cases e'
end
end Mine

namespace Mine
open PySem PySem.Calls
open Sem (wp)

section
variable {prog : Program} {w : World} {A : Around} {s : Shared}

theorem call_gen {a : Addr} {nm : Str} {params : Arguments} {body : List Stmt} {scope : Scope} {p : Str} {v : Value} {outs : List (Nat × List Nat)} (hlim : s.heap.NoLimit) (hroom : A.depth < recursionLimit) (hf : FnAt s.heap a nm params body scope)
    (hbind : ∀ pm cd doc, bindArgs (docDef nm params body scope pm cd doc) ⟨[v], []⟩ = pure [(p, v)]) (hkd : scope.names.lookup p = some .local) (hcells : ∀ n, cellsFrom n scope.names [] = [])
    (start : ∀ (N : Addr → Prop) (env : Env) (s'' : Shared), env.scope = scope → env.globals = mainGlobals → env.builtins = builtinsNs → env.cells = [] → s.heap.get? env.locals = none → N env.locals →
      (∀ a o, s.heap.get? a = some o → s''.heap.get? a = some o) → (∀ b, s''.heap.get? b = none → N b) → (∃ m, s''.heap.Ns env.locals m ∧ m p = some v) →
      Seg (model prog w) A.in1 (escR N) (escY N outs) outs.length s'' (.func body env) ((model prog w).den (.func body env)) [] s'')
    (hco : scope.isCoroutine = false := by rfl) (hgen : scope.isGenerator = true := by rfl) (hk : scope.kind = .function := by rfl)
    {Q : Value → Shared → Prop} (hQ : ∀ s' ga, MadeGen prog w A outs s s' ga → Q (.ref ga) s') : wpAny (model prog w) A (call (.ref a) [v]) Q Never s := by
  obtain ⟨o, pm, cd, doc, ho, hd, hcd⟩ := hf
  refine wpAny_call (codeAny_call_generator (body := body) hroom ho hd hco hgen rfl hcd ?_)
  rw [hbind pm cd doc]
  refine wpAny_pure (wpAny_newFunctionEnv_cells hk (fun x hx => ?_) fun env he s₁ X => ?_)
  · rw [List.mem_singleton.mp hx]; exact .inl hkd
  obtain ⟨⟨⟨h₁, tk₁, rfl⟩, hns, hkeep, hfr⟩, hcell, hap, hab⟩ := X
  have fresh : ∀ b, s.heap.objs.size ≤ b → s.heap.get? b = none := fun b hb => by
    cases e : s.heap.get? b with
    | none => rfl
    | some o => exact absurd (Heap.lt_size e) (Nat.not_lt.mpr hb)
  have hcs : env.cells = [] := by rw [he]; exact hcells _
  have hkn : ∀ x, env.kindOf x = scope.names.lookup x := fun x => by rw [he]; rfl
  have hL : env.locals = s.heap.objs.size := by rw [he]; rfl
  have hLn : s.heap.get? env.locals = none := by rw [hL]; exact fresh _ (Nat.le_refl _)
  have hmp : bindL env.kindOf [(p, v)] (fun _ => none) p = some v := by
    unfold bindL
    rw [if_pos (by rw [hkn]; exact hkd)]
    simp [bindL]
  obtain ⟨oL, hoL⟩ : ∃ o, h₁.get? env.locals = some o := by obtain ⟨o, _, _, ho, _⟩ := hns; exact ⟨o, ho⟩
  have hLlt : env.locals < h₁.objs.size := Heap.lt_size hoL
  have hnew : s.heap.get? h₁.objs.size = none := by
    cases e : s.heap.get? h₁.objs.size with
    | none => rfl
    | some o => exact absurd (Heap.lt_size (hkeep _ _ e)) (Nat.lt_irrefl _)
  refine ⟨hlim.keeps hkeep, hQ _ _ ⟨rfl, rfl, fun a o e => Heap.get?_push_of_some _ (hkeep a o e), ⟨_, rfl⟩, hnew, ⟨?_, ?_⟩⟩⟩
  · exact ⟨_, _, _, Heap.get?_push_size _ rfl, rfl, rfl, rfl⟩
  · refine ⟨.fresh (.func body env), [env.locals], by simp, fun b hb => ?_, fun s'' hz hga hk'' => ⟨rfl, ?_⟩⟩
    · rw [List.mem_singleton.mp hb]
      exact ⟨⟨hLn, Nat.ne_of_lt hLlt⟩, oL, Heap.get?_push_of_some _ hoL⟩
    · have hout : outs.length - 0 = outs.length := rfl
      rw [hout]
      refine start (NewBut s.heap h₁.objs.size) env s'' (by rw [he]; rfl) (by rw [he]; rfl) (by rw [he]; rfl) hcs hLn ⟨hLn, Nat.ne_of_lt hLlt⟩ (hz rfl) (fun b hb => ⟨?_, fun e => ?_⟩) ⟨_, ?_, hmp⟩
      · cases e : s.heap.get? b with
        | none => rfl
        | some o => rw [hz rfl b o e] at hb; cases hb
      · obtain ⟨o, ho⟩ := hga rfl
        rw [e, ho] at hb; cases hb
      · exact hns.at' fun o e => hk'' _ (List.mem_singleton.mpr rfl) o (Heap.get?_push_of_some _ e)

theorem Inv.start {env : Env} {p : Str} {v : Value} {d : D} {m : Str → Option Value} (hk : env.scope.kind = .function) (hkd : env.kindOf p = some .local) (hc : env.cells = []) (hns : s.heap.Ns env.locals m) (hm : m p = some v) (hr : ∀ P, Rep P v d) :
    Inv (fxG prog w A env [] [] s) s [(p, .dat d)] [] := by
  have hown : ∀ a, a ∈ (fxG prog w A env [] [] s).own [] ↔ a = env.locals := by intro a; unfold Fx.own; simp
  have nocell : ∀ {n c}, env.cells.lookup n = some c → False := by intro n c h; rw [hc] at h; cases h
  refine ⟨hk, rfl, rfl, .refl _, fun a o h => ⟨h.1, fun hm => h.2 ((hown a).mp hm ▸ List.mem_cons_self ..)⟩, fun a h => (nomatch h), fun a h => (nomatch h), ?_, fun n c h => (nocell h).elim, fun n _ c h => (nocell h).elim,
    ⟨m, fun _ => none, hns, fun n c h => (nocell h).elim, fun c h => (nomatch h), fun x sl h => ?_⟩, fun a w h => (nomatch h)⟩
  · unfold Fx.own; simp
  · by_cases hx : x = p
    · subst hx
      cases lookup_eq h
      exact ⟨v, by simp [got, hkd, hm], hr _⟩
    · cases lookup_ne h hx
end
end Mine

namespace Mine
open PySem PySem.Calls

/-- a code that loops; T: the rest of a turn, behind the target's assignment -/
def LR (prog : Program) (w : World) (A : Around) (env : Env) (target : Expr) (it : Value) (T : (Shared → Prop) → Shared → Prop) (c : Code) : Prop :=
  ∀ (R : Result → Shared → Prop) (I : Nat → Shared → Prop), (∀ n s, I n s → wpAny (model prog w) A (pyNext it) (fun r s₁ => match r with
      | none => R (.ok .next) s₁
      | some v => wpAny (model prog w) A (letOwnedTupleGo target it v) (fun _ s₂ => wpAny (model prog w) A (assign target env v) (fun _ s₃ => T (fun s₄ => ∃ m, m < n ∧ I m s₄) s₃) Never s₂) Never s₁) Never s) →
    ∀ n s, I n s → codeAny (model prog w) A c R s

section
variable {F : Fx} {s s' : Shared} {σ σ' : List (Str × Sl)} {μ : List (Addr × Wn)} {T : (Shared → Prop) → Shared → Prop} {c : Code}

theorem loop_name {R : Result → Shared → Prop} {x : Str} {px : Pos} {It : Addr} {fp wr : List Addr} {n : Nat} {P : Nat → Value → Prop} {St : Nat → Heap → Prop} {s₁ s₂ : Shared}
    (hc : LR F.prog F.w F.A F.env (.Name x px) (.ref It) T c) (hT : ∀ (P P' : Shared → Prop) s, (∀ s, P s → P' s) → T P s → T P' s)
    (I : Inv F s₁ σ μ) (g : Gr s₁ s₂) (hnew : ∀ b ∈ wr, s₁.heap.get? b = none) (hfp : ∀ b ∈ fp, b ∉ F.own μ) (hob : ∀ i h, St i h → ∀ b ∈ wr, ∃ o, h.get? b = some o)
    (W : Walks F.prog F.w F.A It fp wr n P St) (hst : St 0 s₂.heap) (item : Nat → D)
    (hP : ∀ i v (s' : Shared), i < n → P i v → Kept F μ wr s₁ s' → Rep (Fz ((F.with F.B (F.O ++ wr)).all μ) s'.heap) v (item i))
    (J : Nat → List (Str × Sl)) (M : Nat → List (Addr × Wn)) (h0 : ∀ y sl, (J 0).lookup y = some sl → σ.lookup y = some sl) (hM0 : M 0 = μ) (hM : ∀ i, (M i).map (·.1) = μ.map (·.1))
    (hx : Bindable F x)
    (turn : ∀ i (B : Addr → Obj → Prop) (O : List Addr) s', i < n → (∀ a o, F.B a o → B a o) → (∀ a ∈ F.O, a ∈ O) → Inv (F.with B O) s' ((x, .dat (item i)) :: J i) (M i) →
      T (fun s'' => Inv (F.with B O) s'' (J (i + 1)) (M (i + 1))) s')
    (done : ∀ s', Inv F s' (J n) (M n) → R (.ok .next) s') :
    codeAny (model F.prog F.w) F.A c R s₂ := by
  have hcw : ∀ m c, F.env.cells.lookup m = some c → c ∉ wr := fun m c h hw => by
    obtain ⟨o, ho⟩ := I.cellLive h; have := hnew c hw; rw [ho] at this; cases this
  have hBw : ∀ a o, F.B a o → a ∉ wr := fun a o h hw => by have := hnew a hw; rw [(I.base a o h).1] at this; cases this
  have hOw : ∀ a ∈ F.O, a ∉ wr := fun a h hw => by obtain ⟨o, ho⟩ := I.live a h; have := hnew a hw; rw [ho] at this; cases this
  have I₂ : Inv (F.with F.B (F.O ++ wr)) s₂ (J 0) (M 0) := by rw [hM0]; exact (I.root g hnew (hob _ _ hst)).sub h0
  have K₂ : Kept F μ wr s₁ s₂ := fun a o _ _ e => g.heap a o e
  refine hc R (fun k s' => ∃ i, i ≤ n ∧ k = n + 1 - i ∧ Inv (F.with F.B (F.O ++ wr)) s' (J i) (M i) ∧ St i s'.heap ∧ Kept F μ wr s₁ s') ?_ (n + 1) s₂ ⟨0, Nat.zero_le _, rfl, I₂, hst, K₂⟩
  rintro k s' ⟨i, hi, rfl, Ii, hsti, Ki⟩
  by_cases hlt : i < n
  · refine W.item i s' _ _ hlt hsti fun v h₁ tk₁ hPv hst₁ hk₁ => ?_
    have I1 : Inv (F.with F.B (F.O ++ wr)) { s' with heap := h₁, toks := tk₁ } (J i) (M i) :=
      Ii.foreign (wr := wr) (fun b hb => List.mem_append.mpr (.inr hb)) hBw (fun a o h e => hk₁ a o h e) (hob _ _ hst₁) hcw
    have K1 : Kept F μ wr s₁ { s' with heap := h₁, toks := tk₁ } := fun a o h h' e => hk₁ a o h' (Ki a o h h' e)
    have hr : Sl.ok (Fz ((F.with F.B (F.O ++ wr)).all (M i)) h₁) v (.dat (item i)) := by
      show Rep _ _ _
      rw [all_eq (F := F.with F.B (F.O ++ wr)) (hM i)]
      exact hP i v _ hlt hPv K1
    have ho : (F.with F.B (F.O ++ wr)).own (M i) = F.own μ := own_eq (F := F) (hM i)
    refine wpAny_of_eq (rfl : letOwnedTupleGo (.Name x px) (.ref It) v = pure ()) ?_
    refine wpAny_assign_Name (Inv.store I1 hr (fun s₃ I3 k3 => ?_) hx)
    have hst₃ : St (i + 1) s₃.heap := W.frame _ _ _ hst₁ fun b hb o e => k3 b o (by rw [ho]; exact hfp b hb) e
    have K3 : Kept F μ wr s₁ s₃ := fun a o h h' e => k3 a o (by rw [ho]; exact h) (K1 a o h h' e)
    have I3' : Inv (F.with (fun a o => s₃.heap.get? a = some o ∧ a ∉ F.own μ) (F.O ++ wr)) s₃ ((x, .dat (item i)) :: J i) (M i) :=
      ⟨I3.kind, I3.drawn, I3.os, I3.gens, fun a o h => ⟨h.1, by have := h.2; rw [← ho] at this; exact this⟩, I3.apart, I3.live, I3.nodup, I3.roc, I3.inj, I3.mem, I3.muts⟩
    have hBB : ∀ a o, F.B a o → s₃.heap.get? a = some o ∧ a ∉ F.own μ := fun a o h => ⟨(I3.base a o h).1, by rw [← ho]; exact (I3.base a o h).2⟩
    refine hT _ _ s₃ (fun s₄ I4 => ?_) (turn i _ _ s₃ hlt hBB (fun a h => List.mem_append.mpr (.inl h)) I3')
    refine ⟨n + 1 - (i + 1), by omega, i + 1, hlt, rfl, Inv.weak (F := F.with F.B (F.O ++ wr)) I4 hBB (fun a h => h), ?_, ?_⟩
    · exact W.frame _ _ _ hst₃ fun b hb o e => (I4.base b o ⟨e, hfp b hb⟩).1
    · exact fun a o h h' e => (I4.base a o ⟨K3 a o h h' e, h⟩).1
  · have hin : i = n := by omega
    subst hin
    refine W.done s' _ _ hsti fun h₁ tk₁ hk₁ => ?_
    refine done _ ?_
    exact Ii.foreign' hBw (fun a o h e => hk₁ a o h e) hOw hcw

theorem loop_pair {R : Result → Shared → Prop} {x y : Str} {px py pt : Pos} {k₁ : Nat} {It : Addr} {fp wr : List Addr} {n : Nat} {Pt : Nat → Array Value → Prop} {St : Nat → Heap → Prop} {Mid : Nat → Addr → Heap → Prop} {s₁ s₂ : Shared}
    (hc : LR F.prog F.w F.A F.env (.Tuple [.Name x px, .Name y py] k₁ pt) (.ref It) T c) (hT : ∀ (P P' : Shared → Prop) s, (∀ s, P s → P' s) → T P s → T P' s)
    (hh : F.A.handled = none) (I : Inv F s₁ σ μ) (g : Gr s₁ s₂) (hnew : ∀ b ∈ wr, s₁.heap.get? b = none) (hfp : ∀ b ∈ fp, b ∉ F.own μ) (hob : ∀ i h, St i h → ∀ b ∈ wr, ∃ o, h.get? b = some o)
    (W : WalksU F.prog F.w F.A It fp wr n Pt St Mid) (hst : St 0 s₂.heap) (item jtem : Nat → D)
    (hP : ∀ i vals (s' : Shared), i < n → Pt i vals → Kept F μ wr s₁ s' → ∃ u v, vals = #[u, v] ∧ Rep (Fz ((F.with F.B (F.O ++ wr)).all μ) s'.heap) u (item i) ∧ Rep (Fz ((F.with F.B (F.O ++ wr)).all μ) s'.heap) v (jtem i))
    (J : Nat → List (Str × Sl)) (M : Nat → List (Addr × Wn)) (h0 : ∀ y sl, (J 0).lookup y = some sl → σ.lookup y = some sl) (hM0 : M 0 = μ) (hM : ∀ i, (M i).map (·.1) = μ.map (·.1))
    (hx : Bindable F x) (hy : Bindable F y)
    (turn : ∀ i (B : Addr → Obj → Prop) (O : List Addr) s', i < n → (∀ a o, F.B a o → B a o) → (∀ a ∈ F.O, a ∈ O) → Inv (F.with B O) s' ((y, .dat (jtem i)) :: (x, .dat (item i)) :: J i) (M i) →
      T (fun s'' => Inv (F.with B O) s'' (J (i + 1)) (M (i + 1))) s')
    (done : ∀ s', Inv F s' (J n) (M n) → R (.ok .next) s') :
    codeAny (model F.prog F.w) F.A c R s₂ := by
  have hcw : ∀ m c, F.env.cells.lookup m = some c → c ∉ wr := fun m c h hw => by
    obtain ⟨o, ho⟩ := I.cellLive h; have := hnew c hw; rw [ho] at this; cases this
  have hBw : ∀ a o, F.B a o → a ∉ wr := fun a o h hw => by have := hnew a hw; rw [(I.base a o h).1] at this; cases this
  have hOw : ∀ a ∈ F.O, a ∉ wr := fun a h hw => by obtain ⟨o, ho⟩ := I.live a h; have := hnew a hw; rw [ho] at this; cases this
  have I₂ : Inv (F.with F.B (F.O ++ wr)) s₂ (J 0) (M 0) := by rw [hM0]; exact (I.root g hnew (hob _ _ hst)).sub h0
  have K₂ : Kept F μ wr s₁ s₂ := fun a o _ _ e => g.heap a o e
  refine hc R (fun k s' => ∃ i, i ≤ n ∧ k = n + 1 - i ∧ Inv (F.with F.B (F.O ++ wr)) s' (J i) (M i) ∧ St i s'.heap ∧ Kept F μ wr s₁ s') ?_ (n + 1) s₂ ⟨0, Nat.zero_le _, rfl, I₂, hst, K₂⟩
  rintro k s' ⟨i, hi, rfl, Ii, hsti, Ki⟩
  by_cases hlt : i < n
  · refine W.item i s' _ _ hlt hsti fun T₁ vals h₁ tk₁ hPv hT₁ hm₁ hk₁ => ?_
    refine W.go _ _ _ i T₁ _ _ _ hm₁ fun h₂ hst₂ hk₂ => ?_
    have hT₂ : h₂.IsTuple T₁ vals := let ⟨o, ho, r⟩ := hT₁; ⟨o, hk₂ T₁ o (W.apart i T₁ h₁ hm₁) ho, r⟩
    have I1 : Inv (F.with F.B (F.O ++ wr)) { s' with heap := h₂, toks := tk₁ } (J i) (M i) :=
      Ii.foreign (wr := wr) (fun b hb => List.mem_append.mpr (.inr hb)) hBw (fun a o h e => hk₂ a o h (hk₁ a o h e)) (hob _ _ hst₂) hcw
    have K1 : Kept F μ wr s₁ { s' with heap := h₂, toks := tk₁ } := fun a o h h' e => hk₂ a o h' (hk₁ a o h' (Ki a o h h' e))
    have ho : (F.with F.B (F.O ++ wr)).own (M i) = F.own μ := own_eq (F := F) (hM i)
    obtain ⟨u₀, v₀, rfl, -, -⟩ := hP i vals _ hlt hPv K1
    refine wpAny_assign_Tuple hh hT₂ rfl rfl fun h₃ hx₃ => ?_
    have g3 : Gr { s' with heap := h₂, toks := tk₁ } { s' with heap := h₃, toks := tk₁ } := .keeps fun a o e => hx₃ a o (Nat.ne_of_lt (Heap.lt_size e)) e
    have I3 := I1.gr g3
    have K3 : Kept F μ wr s₁ { s' with heap := h₃, toks := tk₁ } := fun a o h h' e => g3.heap a o (K1 a o h h' e)
    obtain ⟨u, v, hv, hu, hw⟩ := hP i _ _ hlt hPv K3
    cases hv
    show wpAny _ _ (do holding [v₀] (assign (.Name x px) F.env u₀); do holding [] (assign (.Name y py) F.env v₀); pure ()) _ _ _
    have hst₃ : St (i + 1) h₃ := W.frame _ _ _ hst₂ fun b hb o e => g3.heap b o e
    have hr1 : Sl.ok (Fz ((F.with F.B (F.O ++ wr)).all (M i)) h₃) u₀ (.dat (item i)) := by
      show Rep _ _ _; rw [all_eq (F := F.with F.B (F.O ++ wr)) (hM i)]; exact hu
    refine wpAny_bind (wpAny_holding (wpAny_assign_Name (Inv.store I3 hr1 (fun s₄ I4 k4 => ?_) hx)))
    have hr2 : Sl.ok (Fz ((F.with F.B (F.O ++ wr)).all (M i)) s₄.heap) v₀ (.dat (jtem i)) := by
      show Rep _ _ _; rw [all_eq (F := F.with F.B (F.O ++ wr)) (hM i)]
      refine Rep.mono (fun a o q => ⟨k4 a o (fun hm => q.2 (List.mem_append.mpr (.inl (by rw [ho] at hm; exact hm)))) q.1, q.2⟩) hw
    refine wpAny_bind (wpAny_holding (wpAny_assign_Name (Inv.store I4 hr2 (fun s₅ I5 k5 => wpAny_pure ?_) hy)))
    have hst₅ : St (i + 1) s₅.heap := W.frame _ _ _ hst₃ fun b hb o e => k5 b o (by rw [ho]; exact hfp b hb) (k4 b o (by rw [ho]; exact hfp b hb) e)
    have K5 : Kept F μ wr s₁ s₅ := fun a o h h' e => k5 a o (by rw [ho]; exact h) (k4 a o (by rw [ho]; exact h) (K3 a o h h' e))
    have I5' : Inv (F.with (fun a o => s₅.heap.get? a = some o ∧ a ∉ F.own μ) (F.O ++ wr)) s₅ ((y, .dat (jtem i)) :: (x, .dat (item i)) :: J i) (M i) :=
      ⟨I5.kind, I5.drawn, I5.os, I5.gens, fun a o h => ⟨h.1, by have := h.2; rw [← ho] at this; exact this⟩, I5.apart, I5.live, I5.nodup, I5.roc, I5.inj, I5.mem, I5.muts⟩
    have hBB : ∀ a o, F.B a o → s₅.heap.get? a = some o ∧ a ∉ F.own μ := fun a o h => ⟨(I5.base a o h).1, by rw [← ho]; exact (I5.base a o h).2⟩
    refine hT _ _ s₅ (fun s₆ I6 => ?_) (turn i _ _ s₅ hlt hBB (fun a h => List.mem_append.mpr (.inl h)) I5')
    refine ⟨n + 1 - (i + 1), by omega, i + 1, hlt, rfl, Inv.weak (F := F.with F.B (F.O ++ wr)) I6 hBB (fun a h => h), ?_, ?_⟩
    · exact W.frame _ _ _ hst₅ fun b hb o e => (I6.base b o ⟨e, hfp b hb⟩).1
    · exact fun a o h h' e => (I6.base a o ⟨K5 a o h h' e, h⟩).1
  · have hin : i = n := by omega
    subst hin
    refine W.done s' _ _ hsti fun h₁ tk₁ hk₁ => ?_
    refine done _ ?_
    exact Ii.foreign' hBw (fun a o h e => hk₁ a o h e) hOw hcw
theorem loop_name0 {R : Result → Shared → Prop} {x : Str} {px : Pos} {It : Addr} {fp wr : List Addr} {n : Nat} {P : Nat → Value → Prop} {St : Nat → Heap → Prop} {s₂ : Shared}
    (hc : LR F.prog F.w F.A F.env (.Name x px) (.ref It) T c) (hT : ∀ (P P' : Shared → Prop) s, (∀ s, P s → P' s) → T P s → T P' s)
    (I₂ : Inv (F.with F.B (F.O ++ wr)) s₂ σ μ) (hcw : ∀ m c, F.env.cells.lookup m = some c → c ∉ wr) (hBw : ∀ a o, F.B a o → a ∉ wr) (hOw : ∀ a ∈ F.O, a ∉ wr) (hfp : ∀ b ∈ fp, b ∉ F.own μ) (hob : ∀ i h, St i h → ∀ b ∈ wr, ∃ o, h.get? b = some o)
    (W : Walks F.prog F.w F.A It fp wr n P St) (hst : St 0 s₂.heap) (item : Nat → D)
    (hP : ∀ i v (s' : Shared), i < n → P i v → Kept F μ wr s₂ s' → Rep (Fz ((F.with F.B (F.O ++ wr)).all μ) s'.heap) v (item i))
    (J : Nat → List (Str × Sl)) (M : Nat → List (Addr × Wn)) (h0 : ∀ y sl, (J 0).lookup y = some sl → σ.lookup y = some sl) (hM0 : M 0 = μ) (hM : ∀ i, (M i).map (·.1) = μ.map (·.1))
    (hx : Bindable F x)
    (turn : ∀ i (B : Addr → Obj → Prop) (O : List Addr) s', i < n → (∀ a o, F.B a o → B a o) → (∀ a ∈ F.O, a ∈ O) → Inv (F.with B O) s' ((x, .dat (item i)) :: J i) (M i) →
      T (fun s'' => Inv (F.with B O) s'' (J (i + 1)) (M (i + 1))) s')
    (done : ∀ s', Inv F s' (J n) (M n) → R (.ok .next) s') :
    codeAny (model F.prog F.w) F.A c R s₂ := by
  have I₂ : Inv (F.with F.B (F.O ++ wr)) s₂ (J 0) (M 0) := by rw [hM0]; exact I₂.sub h0
  have K₂ : Kept F μ wr s₂ s₂ := fun a o _ _ e => e
  refine hc R (fun k s' => ∃ i, i ≤ n ∧ k = n + 1 - i ∧ Inv (F.with F.B (F.O ++ wr)) s' (J i) (M i) ∧ St i s'.heap ∧ Kept F μ wr s₂ s') ?_ (n + 1) s₂ ⟨0, Nat.zero_le _, rfl, I₂, hst, K₂⟩
  rintro k s' ⟨i, hi, rfl, Ii, hsti, Ki⟩
  by_cases hlt : i < n
  · refine W.item i s' _ _ hlt hsti fun v h₁ tk₁ hPv hst₁ hk₁ => ?_
    have I1 : Inv (F.with F.B (F.O ++ wr)) { s' with heap := h₁, toks := tk₁ } (J i) (M i) :=
      Ii.foreign (wr := wr) (fun b hb => List.mem_append.mpr (.inr hb)) hBw (fun a o h e => hk₁ a o h e) (hob _ _ hst₁) hcw
    have K1 : Kept F μ wr s₂ { s' with heap := h₁, toks := tk₁ } := fun a o h h' e => hk₁ a o h' (Ki a o h h' e)
    have hr : Sl.ok (Fz ((F.with F.B (F.O ++ wr)).all (M i)) h₁) v (.dat (item i)) := by
      show Rep _ _ _
      rw [all_eq (F := F.with F.B (F.O ++ wr)) (hM i)]
      exact hP i v _ hlt hPv K1
    have ho : (F.with F.B (F.O ++ wr)).own (M i) = F.own μ := own_eq (F := F) (hM i)
    refine wpAny_of_eq (rfl : letOwnedTupleGo (.Name x px) (.ref It) v = pure ()) ?_
    refine wpAny_assign_Name (Inv.store I1 hr (fun s₃ I3 k3 => ?_) hx)
    have hst₃ : St (i + 1) s₃.heap := W.frame _ _ _ hst₁ fun b hb o e => k3 b o (by rw [ho]; exact hfp b hb) e
    have K3 : Kept F μ wr s₂ s₃ := fun a o h h' e => k3 a o (by rw [ho]; exact h) (K1 a o h h' e)
    have I3' : Inv (F.with (fun a o => s₃.heap.get? a = some o ∧ a ∉ F.own μ) (F.O ++ wr)) s₃ ((x, .dat (item i)) :: J i) (M i) :=
      ⟨I3.kind, I3.drawn, I3.os, I3.gens, fun a o h => ⟨h.1, by have := h.2; rw [← ho] at this; exact this⟩, I3.apart, I3.live, I3.nodup, I3.roc, I3.inj, I3.mem, I3.muts⟩
    have hBB : ∀ a o, F.B a o → s₃.heap.get? a = some o ∧ a ∉ F.own μ := fun a o h => ⟨(I3.base a o h).1, by rw [← ho]; exact (I3.base a o h).2⟩
    refine hT _ _ s₃ (fun s₄ I4 => ?_) (turn i _ _ s₃ hlt hBB (fun a h => List.mem_append.mpr (.inl h)) I3')
    refine ⟨n + 1 - (i + 1), by omega, i + 1, hlt, rfl, Inv.weak (F := F.with F.B (F.O ++ wr)) I4 hBB (fun a h => h), ?_, ?_⟩
    · exact W.frame _ _ _ hst₃ fun b hb o e => (I4.base b o ⟨e, hfp b hb⟩).1
    · exact fun a o h h' e => (I4.base a o ⟨K3 a o h h' e, h⟩).1
  · have hin : i = n := by omega
    subst hin
    refine W.done s' _ _ hsti fun h₁ tk₁ hk₁ => ?_
    refine done _ ?_
    exact Ii.foreign' hBw (fun a o h e => hk₁ a o h e) hOw hcw

theorem loop_pair0 {R : Result → Shared → Prop} {x y : Str} {px py pt : Pos} {k₁ : Nat} {It : Addr} {fp wr : List Addr} {n : Nat} {Pt : Nat → Array Value → Prop} {St : Nat → Heap → Prop} {Mid : Nat → Addr → Heap → Prop} {s₂ : Shared}
    (hc : LR F.prog F.w F.A F.env (.Tuple [.Name x px, .Name y py] k₁ pt) (.ref It) T c) (hT : ∀ (P P' : Shared → Prop) s, (∀ s, P s → P' s) → T P s → T P' s)
    (hh : F.A.handled = none) (I₂ : Inv (F.with F.B (F.O ++ wr)) s₂ σ μ) (hcw : ∀ m c, F.env.cells.lookup m = some c → c ∉ wr) (hBw : ∀ a o, F.B a o → a ∉ wr) (hOw : ∀ a ∈ F.O, a ∉ wr) (hfp : ∀ b ∈ fp, b ∉ F.own μ) (hob : ∀ i h, St i h → ∀ b ∈ wr, ∃ o, h.get? b = some o)
    (W : WalksU F.prog F.w F.A It fp wr n Pt St Mid) (hst : St 0 s₂.heap) (item jtem : Nat → D)
    (hP : ∀ i vals (s' : Shared), i < n → Pt i vals → Kept F μ wr s₂ s' → ∃ u v, vals = #[u, v] ∧ Rep (Fz ((F.with F.B (F.O ++ wr)).all μ) s'.heap) u (item i) ∧ Rep (Fz ((F.with F.B (F.O ++ wr)).all μ) s'.heap) v (jtem i))
    (J : Nat → List (Str × Sl)) (M : Nat → List (Addr × Wn)) (h0 : ∀ y sl, (J 0).lookup y = some sl → σ.lookup y = some sl) (hM0 : M 0 = μ) (hM : ∀ i, (M i).map (·.1) = μ.map (·.1))
    (hx : Bindable F x) (hy : Bindable F y)
    (turn : ∀ i (B : Addr → Obj → Prop) (O : List Addr) s', i < n → (∀ a o, F.B a o → B a o) → (∀ a ∈ F.O, a ∈ O) → Inv (F.with B O) s' ((y, .dat (jtem i)) :: (x, .dat (item i)) :: J i) (M i) →
      T (fun s'' => Inv (F.with B O) s'' (J (i + 1)) (M (i + 1))) s')
    (done : ∀ s', Inv F s' (J n) (M n) → R (.ok .next) s') :
    codeAny (model F.prog F.w) F.A c R s₂ := by
  have I₂ : Inv (F.with F.B (F.O ++ wr)) s₂ (J 0) (M 0) := by rw [hM0]; exact I₂.sub h0
  have K₂ : Kept F μ wr s₂ s₂ := fun a o _ _ e => e
  refine hc R (fun k s' => ∃ i, i ≤ n ∧ k = n + 1 - i ∧ Inv (F.with F.B (F.O ++ wr)) s' (J i) (M i) ∧ St i s'.heap ∧ Kept F μ wr s₂ s') ?_ (n + 1) s₂ ⟨0, Nat.zero_le _, rfl, I₂, hst, K₂⟩
  rintro k s' ⟨i, hi, rfl, Ii, hsti, Ki⟩
  by_cases hlt : i < n
  · refine W.item i s' _ _ hlt hsti fun T₁ vals h₁ tk₁ hPv hT₁ hm₁ hk₁ => ?_
    refine W.go _ _ _ i T₁ _ _ _ hm₁ fun h₂ hst₂ hk₂ => ?_
    have hT₂ : h₂.IsTuple T₁ vals := let ⟨o, ho, r⟩ := hT₁; ⟨o, hk₂ T₁ o (W.apart i T₁ h₁ hm₁) ho, r⟩
    have I1 : Inv (F.with F.B (F.O ++ wr)) { s' with heap := h₂, toks := tk₁ } (J i) (M i) :=
      Ii.foreign (wr := wr) (fun b hb => List.mem_append.mpr (.inr hb)) hBw (fun a o h e => hk₂ a o h (hk₁ a o h e)) (hob _ _ hst₂) hcw
    have K1 : Kept F μ wr s₂ { s' with heap := h₂, toks := tk₁ } := fun a o h h' e => hk₂ a o h' (hk₁ a o h' (Ki a o h h' e))
    have ho : (F.with F.B (F.O ++ wr)).own (M i) = F.own μ := own_eq (F := F) (hM i)
    obtain ⟨u₀, v₀, rfl, -, -⟩ := hP i vals _ hlt hPv K1
    refine wpAny_assign_Tuple hh hT₂ rfl rfl fun h₃ hx₃ => ?_
    have g3 : Gr { s' with heap := h₂, toks := tk₁ } { s' with heap := h₃, toks := tk₁ } := .keeps fun a o e => hx₃ a o (Nat.ne_of_lt (Heap.lt_size e)) e
    have I3 := I1.gr g3
    have K3 : Kept F μ wr s₂ { s' with heap := h₃, toks := tk₁ } := fun a o h h' e => g3.heap a o (K1 a o h h' e)
    obtain ⟨u, v, hv, hu, hw⟩ := hP i _ _ hlt hPv K3
    cases hv
    show wpAny _ _ (do holding [v₀] (assign (.Name x px) F.env u₀); do holding [] (assign (.Name y py) F.env v₀); pure ()) _ _ _
    have hst₃ : St (i + 1) h₃ := W.frame _ _ _ hst₂ fun b hb o e => g3.heap b o e
    have hr1 : Sl.ok (Fz ((F.with F.B (F.O ++ wr)).all (M i)) h₃) u₀ (.dat (item i)) := by
      show Rep _ _ _; rw [all_eq (F := F.with F.B (F.O ++ wr)) (hM i)]; exact hu
    refine wpAny_bind (wpAny_holding (wpAny_assign_Name (Inv.store I3 hr1 (fun s₄ I4 k4 => ?_) hx)))
    have hr2 : Sl.ok (Fz ((F.with F.B (F.O ++ wr)).all (M i)) s₄.heap) v₀ (.dat (jtem i)) := by
      show Rep _ _ _; rw [all_eq (F := F.with F.B (F.O ++ wr)) (hM i)]
      refine Rep.mono (fun a o q => ⟨k4 a o (fun hm => q.2 (List.mem_append.mpr (.inl (by rw [ho] at hm; exact hm)))) q.1, q.2⟩) hw
    refine wpAny_bind (wpAny_holding (wpAny_assign_Name (Inv.store I4 hr2 (fun s₅ I5 k5 => wpAny_pure ?_) hy)))
    have hst₅ : St (i + 1) s₅.heap := W.frame _ _ _ hst₃ fun b hb o e => k5 b o (by rw [ho]; exact hfp b hb) (k4 b o (by rw [ho]; exact hfp b hb) e)
    have K5 : Kept F μ wr s₂ s₅ := fun a o h h' e => k5 a o (by rw [ho]; exact h) (k4 a o (by rw [ho]; exact h) (K3 a o h h' e))
    have I5' : Inv (F.with (fun a o => s₅.heap.get? a = some o ∧ a ∉ F.own μ) (F.O ++ wr)) s₅ ((y, .dat (jtem i)) :: (x, .dat (item i)) :: J i) (M i) :=
      ⟨I5.kind, I5.drawn, I5.os, I5.gens, fun a o h => ⟨h.1, by have := h.2; rw [← ho] at this; exact this⟩, I5.apart, I5.live, I5.nodup, I5.roc, I5.inj, I5.mem, I5.muts⟩
    have hBB : ∀ a o, F.B a o → s₅.heap.get? a = some o ∧ a ∉ F.own μ := fun a o h => ⟨(I5.base a o h).1, by rw [← ho]; exact (I5.base a o h).2⟩
    refine hT _ _ s₅ (fun s₆ I6 => ?_) (turn i _ _ s₅ hlt hBB (fun a h => List.mem_append.mpr (.inl h)) I5')
    refine ⟨n + 1 - (i + 1), by omega, i + 1, hlt, rfl, Inv.weak (F := F.with F.B (F.O ++ wr)) I6 hBB (fun a h => h), ?_, ?_⟩
    · exact W.frame _ _ _ hst₅ fun b hb o e => (I6.base b o ⟨e, hfp b hb⟩).1
    · exact fun a o h h' e => (I6.base a o ⟨K5 a o h h' e, h⟩).1
  · have hin : i = n := by omega
    subst hin
    refine W.done s' _ _ hsti fun h₁ tk₁ hk₁ => ?_
    refine done _ ?_
    exact Ii.foreign' hBw (fun a o h e => hk₁ a o h e) hOw hcw
end

section
variable {prog : Program} {w : World} {A : Around} {env : Env} {elt target iter : Expr} {gens : List Comprehension} {ifs : List Expr} {scope : Scope} {pos : Pos} {it acc : Value} {depth : Nat}

@[reducible] def tests (ifs : List Expr) (env : Env) : Sem Bool := forIn ifs true fun c r => if r = true then do let ok ← isTrue c env (eval c env); pure (ForInStep.yield ok) else pure (ForInStep.yield r)
/-- the rest of a turn that tells one item -/
@[reducible] def emitT (prog : Program) (w : World) (A : Around) (env : Env) (elt : Expr) (ifs : List Expr) (acc : Value) : (Shared → Prop) → Shared → Prop := fun P s =>
  wpAny (model prog w) A (tests ifs env) (fun ok s₃ => if ok = true then wpAny (model prog w) A (eval elt env) (fun x s₄ => wpAny (model prog w) A (call (.builtin "list.append") [acc, x]) (fun _ s₅ => P s₅) Never s₄) Never s₃ else P s₃) Never s
/-- the rest of a turn that goes through the next clause -/
@[reducible] def nestT (prog : Program) (w : World) (A : Around) (env : Env) (e : Expr) (depth : Nat) (g' : Comprehension) (ifs : List Expr) (acc : Value) : (Shared → Prop) → Shared → Prop := fun P s =>
  wpAny (model prog w) A (tests ifs env) (fun ok s₃ => if ok = true then wpAny (model prog w) A (eval g'.iter env) (fun x s₄ => wpAny (model prog w) A (pyIter x) (fun it' s₅ => codeAny (model prog w) A (.compStart e (depth + 1) it' acc env) (fun r s₆ => match r with | .ok _ => P s₆ | .error _ => False) s₅) Never s₄) Never s₃ else P s₃) Never s

theorem emitT_mono : ∀ (P P' : Shared → Prop) s, (∀ s, P s → P' s) → emitT prog w A env elt ifs acc P s → emitT prog w A env elt ifs acc P' s := fun P P' s h x =>
  wpAny_mono x (fun ok s₃ h₃ => by
    cases ok with
    | true => exact wpAny_mono h₃ (fun _ _ h₄ => wpAny_mono h₄ (fun _ _ h₅ => h _ h₅) fun _ _ e => e) fun _ _ e => e
    | false => exact h _ h₃) fun _ _ e => e
theorem nestT_mono {e : Expr} {g' : Comprehension} : ∀ (P P' : Shared → Prop) s, (∀ s, P s → P' s) → nestT prog w A env e depth g' ifs acc P s → nestT prog w A env e depth g' ifs acc P' s := fun P P' s h x =>
  wpAny_mono x (fun ok s₃ h₃ => by
    cases ok with
    | true => exact wpAny_mono h₃ (fun _ _ h₄ => wpAny_mono h₄ (fun _ _ h₅ => codeAny_mono h₅ fun r s₆ h₆ => by
        cases r with
        | ok f => exact h _ h₆
        | error e => exact h₆) fun _ _ e => e) fun _ _ e => e
    | false => exact h _ h₃) fun _ _ e => e

theorem compTurn_last (hg : gens[depth]? = some ⟨target, iter, ifs, 0⟩) (hn : gens[depth + 1]? = none) :
    compTurn (.ListComp elt gens scope pos) depth it acc env = (do
      standAt iter.pos
      match ← pyNext it with
      | none => pure (.done .next)
      | some v =>
        letOwnedTupleGo target it v
        assign target env v
        let mut ok := true
        for c in ifs do
          if ok then ok ← isTrue c env (eval c env)
        if ok then
          (do let _ ← call (.builtin "list.append") [acc, ← eval elt env])
        again (.compLoop (.ListComp elt gens scope pos) depth it acc env)) := by
  unfold compTurn
  simp only [hg, hn]
  rfl
theorem compTurn_more {g' : Comprehension} (hg : gens[depth]? = some ⟨target, iter, ifs, 0⟩) (hn : gens[depth + 1]? = some g') (ha : g'.is_async = 0) :
    compTurn (.ListComp elt gens scope pos) depth it acc env = (do
      standAt iter.pos
      match ← pyNext it with
      | none => pure (.done .next)
      | some v =>
        letOwnedTupleGo target it v
        assign target env v
        let mut ok := true
        for c in ifs do
          if ok then ok ← isTrue c env (eval c env)
        if ok then
          let x ← eval g'.iter env
          standAt g'.iter.pos
          let x ← foldedSetIterable g'.iter env x
          let _ ← runOwn (.compStart (.ListComp elt gens scope pos) (depth + 1) (← holding [x] (pyIter x)) acc env) env
          again (.compLoop (.ListComp elt gens scope pos) depth it acc env)
        else again (.compLoop (.ListComp elt gens scope pos) depth it acc env)) := by
  unfold compTurn
  simp only [hg, hn, ha]
  rfl

theorem lr_last (hg : gens[depth]? = some ⟨target, iter, ifs, 0⟩) (hn : gens[depth + 1]? = none) : LR prog w A env target it (emitT prog w A env elt ifs acc) (.compLoop (.ListComp elt gens scope pos) depth it acc env) := fun R I turn n s h => by
  refine codeAny_loop rfl I (fun n s hI => ?_) n h
  show wpAny _ A ((compTurn (.ListComp elt gens scope pos) depth it acc env).onRaise (fun x => do noteFrame x env; theTreesLotGoes x)) _ _ s
  refine wpAny_noted ?_
  rw [compTurn_last hg hn]
  refine wpAny_bind (wpAny_standAt (wpAny_bind (wpAny_mono (turn n s hI) (fun r s₁ h₁ => ?_) fun _ _ e => e.elim)))
  cases r with
  | none => exact wpAny_pure h₁
  | some v =>
    refine wpAny_bind (wpAny_mono h₁ (fun _ s₂ h₂ => wpAny_bind (wpAny_mono h₂ (fun _ s₃ h₃ => wpAny_bind (wpAny_mono h₃ (fun ok s₄ h₄ => ?_) fun _ _ e => e.elim)) fun _ _ e => e.elim)) fun _ _ e => e.elim)
    cases ok with
    | false => exact wpAny_pure ⟨rfl, h₄⟩
    | true =>
      exact wpAny_bind (wpAny_bind (wpAny_mono h₄ (fun x s₅ h₅ => wpAny_bind (wpAny_mono h₅ (fun _ s₆ h₆ => wpAny_pure (wpAny_pure ⟨rfl, h₆⟩)) fun _ _ e => e.elim)) fun _ _ e => e.elim))

theorem lr_more {g' : Comprehension} (hg : gens[depth]? = some ⟨target, iter, ifs, 0⟩) (hn : gens[depth + 1]? = some g') (ha : g'.is_async = 0) (hs : ∀ x, foldedSetIterable g'.iter env x = pure x) :
    LR prog w A env target it (nestT prog w A env (.ListComp elt gens scope pos) depth g' ifs acc) (.compLoop (.ListComp elt gens scope pos) depth it acc env) := fun R I turn n s h => by
  refine codeAny_loop rfl I (fun n s hI => ?_) n h
  show wpAny _ A ((compTurn (.ListComp elt gens scope pos) depth it acc env).onRaise (fun x => do noteFrame x env; theTreesLotGoes x)) _ _ s
  refine wpAny_noted ?_
  rw [compTurn_more hg hn ha]
  refine wpAny_bind (wpAny_standAt (wpAny_bind (wpAny_mono (turn n s hI) (fun r s₁ h₁ => ?_) fun _ _ e => e.elim)))
  cases r with
  | none => exact wpAny_pure h₁
  | some v =>
    refine wpAny_bind (wpAny_mono h₁ (fun _ s₂ h₂ => wpAny_bind (wpAny_mono h₂ (fun _ s₃ h₃ => wpAny_bind (wpAny_mono h₃ (fun ok s₄ h₄ => ?_) fun _ _ e => e.elim)) fun _ _ e => e.elim)) fun _ _ e => e.elim)
    cases ok with
    | false => exact wpAny_pure ⟨rfl, h₄⟩
    | true =>
      refine wpAny_bind (wpAny_mono h₄ (fun x s₅ h₅ => wpAny_bind (wpAny_standAt (wpAny_bind (wpAny_of_eq (hs x) (wpAny_bind (wpAny_holding (wpAny_mono h₅ (fun it' s₆ h₆ => ?_) fun _ _ e => e.elim))))))) fun _ _ e => e.elim)
      refine wpAny_bind (wpAny_runOwn (codeAny_mono h₆ fun r s₇ h₇ => ?_))
      cases r with
      | ok f => exact wpAny_pure ⟨rfl, h₇⟩
      | error e => exact h₇.elim

/-- a clause starts -/
theorem comp_start {R : Result → Shared → Prop} {s : Shared} (hg : gens[depth]? = some ⟨target, iter, ifs, 0⟩) (h0 : codeAny (model prog w) A (.compLoop (.ListComp elt gens scope pos) depth it acc env) R s)
    (h : wpAny (model prog w) A (pyIter it) (fun it' s' => codeAny (model prog w) A (.compLoop (.ListComp elt gens scope pos) depth it' acc env) R s') Never s) :
    codeAny (model prog w) A (.compStart (.ListComp elt gens scope pos) depth it acc env) R s := by
  refine codeAny_of_tree ?_
  show wpAny _ _ ((compStart (.ListComp elt gens scope pos) depth it acc env).onRaise (fun x => do noteFrame x env; standAt theWindowsPlace)) _ _ s
  refine wpAny_notedAt ?_
  unfold compStart
  rw [show clausesOf (.ListComp elt gens scope pos) = gens from rfl, hg]
  show wpAny _ _ (ask >>= _) _ _ s
  refine wpAny_bind (wpAny_askSetting (wpAny_ite ?_))
  split
  · exact wpAny_bind (wpAny_pure (wpAny_pure (And.intro rfl h0)))
  · refine wpAny_bind (wpAny_rule ?_)
    exact wpAny_bind (wpAny_standAt (wpAny_bind (wpAny_mono h (fun it' s' h' => wpAny_pure ⟨rfl, h'⟩) fun _ _ e => e.elim)))
end
end Mine

namespace Mine
open PySem PySem.Calls

def clOf (env : Env) : List (Str × NameKind) → List (Str × Addr) → List (Str × Addr)
  | [], cs => cs
  | (n, k) :: r, cs => clOf env r (if k == .free then (match env.cells.lookup n with | some c => (n, c) :: cs | none => cs) else cs)

theorem closure_eq {scope : Scope} {env : Env} (h : ∀ x ∈ scope.names, x.2 = .free → ∃ c, env.cells.lookup x.1 = some c) : closureFor scope env = pure (clOf env scope.names []) := by
  have key : ∀ (names : List (Str × NameKind)) (cs : List (Str × Addr)), (∀ x ∈ names, x.2 = .free → ∃ c, env.cells.lookup x.1 = some c) →
      (forIn names cs (fun x __s => match x with
        | (name, kind) => if (kind == NameKind.free) = true then (do let __do_lift ← cellOf env name; pure (ForInStep.yield ((name, __do_lift) :: __s))) else pure (ForInStep.yield __s)) : Sem (List (Str × Addr))) = pure (clOf env names cs) := by
    intro names
    induction names with
    | nil => intro cs _; rfl
    | cons x r ih =>
      obtain ⟨n, k⟩ := x
      intro cs hx
      rw [List.forIn_cons]
      unfold clOf
      by_cases hk : (k == NameKind.free) = true
      · obtain ⟨c, hc⟩ := hx (n, k) (List.mem_cons_self ..) (by simpa using hk)
        have hc' : env.cells.lookup n = some c := hc
        simp only [hk, if_true, hc', cellOf, pure_bind]
        exact ih _ fun y hy => hx y (List.mem_cons_of_mem _ hy)
      · simp only [hk, if_false, pure_bind, Bool.false_eq_true]
        exact ih _ fun y hy => hx y (List.mem_cons_of_mem _ hy)
  exact (congrArg (fun x : Sem (List (Str × Addr)) => x >>= pure) (key scope.names [] h)).trans rfl

theorem clOf_sub {env : Env} {n : Str} {c : Addr} : ∀ (names : List (Str × NameKind)) (cs : List (Str × Addr)), (clOf env names cs).lookup n = some c → cs.lookup n = some c ∨ env.cells.lookup n = some c
  | [], cs, h => .inl h
  | (m, k) :: r, cs, h => by
    unfold clOf at h
    rcases clOf_sub r _ h with h | h
    · split at h
      · split at h
        · rename_i c' hc'
          rw [List.lookup_cons] at h
          split at h
          · rename_i hm
            cases h
            exact .inr (by rw [beq_iff_eq.mp hm]; exact hc')
          · exact .inl h
        · exact .inl h
      · exact .inl h
    · exact .inr h
theorem clOf_has {env : Env} {n : Str} {c : Addr} (hc : env.cells.lookup n = some c) : ∀ (names : List (Str × NameKind)) (cs : List (Str × Addr)), (cs.lookup n = some c ∨ (n, NameKind.free) ∈ names) → (clOf env names cs).lookup n = some c
  | [], cs, h => by
    rcases h with h | h
    · exact h
    · cases h
  | (m, k) :: r, cs, h => by
    unfold clOf
    refine clOf_has hc r _ ?_
    by_cases hmn : m = n
    · subst hmn
      by_cases hk : (k == NameKind.free) = true
      · rw [if_pos hk, hc]
        exact .inl (by rw [List.lookup_cons]; simp)
      · rw [if_neg hk]
        rcases h with h | h
        · exact .inl h
        · rcases List.mem_cons.mp h with e | h
          · cases e; exact absurd rfl hk
          · exact .inr h
    · have hne : (n == m) = false := by simpa using Ne.symm hmn
      rcases h with h | h
      · refine .inl ?_
        split
        · split
          · rw [List.lookup_cons, hne]; exact h
          · exact h
        · exact h
      · rcases List.mem_cons.mp h with e | h
        · cases e; exact absurd rfl hmn
        · exact .inr h

theorem lookup_relabel_free {env : Env} (hk : env.scope.kind = .function) : ∀ {names : List (Str × NameKind)} {x : Str}, names.lookup x = some .free → env.kindOf x = some .cell →
    (names.map fun (n, k) => if (k == NameKind.free && env.scope.kind == .function && env.kindOf n == some .cell) then (n, NameKind.cell) else (n, k)).lookup x = some .cell
  | [], _, h, _ => by simp at h
  | (n, k) :: r, x, h, hx' => by
    have ih := @lookup_relabel_free env hk r x
    show List.lookup x ((if (k == NameKind.free && env.scope.kind == .function && env.kindOf n == some .cell) = true then (n, NameKind.cell) else (n, k)) :: _) = _
    cases hx : x == n with
    | true =>
      simp only [List.lookup_cons, hx] at h
      cases h
      rw [← beq_iff_eq.mp hx, hx', hk]
      simp [List.lookup_cons]
    | false =>
      simp only [List.lookup_cons, hx] at h
      by_cases hc : (k == NameKind.free && env.scope.kind == .function && env.kindOf n == some .cell) = true
      · rw [if_pos hc]; simp only [List.lookup_cons, hx]; exact ih h hx'
      · rw [if_neg hc]; simp only [List.lookup_cons, hx]; exact ih h hx'

/-- the names that a comprehension sees of the frame around it -/
def CSub (F : Fx) (scope : Scope) (σ : List (Str × Sl)) : List (Str × Sl) → Prop
  | [] => True
  | (x, sl) :: r => (σ.lookup x = some sl ∧ F.env.kindOf x = some .cell ∧ scope.names.lookup x = some .free ∧ ∃ c, F.env.cells.lookup x = some c) ∧ CSub F scope σ r
theorem CSub.lookup {F : Fx} {scope : Scope} {σ : List (Str × Sl)} : ∀ {σc : List (Str × Sl)}, CSub F scope σ σc → ∀ x sl, σc.lookup x = some sl → σ.lookup x = some sl ∧ F.env.kindOf x = some .cell ∧ scope.names.lookup x = some .free ∧ ∃ c, F.env.cells.lookup x = some c
  | (y, t) :: r, h, x, sl, e => by
    rw [List.lookup_cons] at e
    cases hb : x == y with
    | true => rw [hb] at e; cases e; rw [beq_iff_eq.mp hb]; exact h.1
    | false => rw [hb] at e; exact h.2.lookup x sl e

@[reducible] def compFx (F : Fx) (μ : List (Addr × Wn)) (scope : Scope) (s₁ : Shared) (C : Addr) : Fx := ⟨F.prog, F.w, F.A, compEnvC scope (clOf F.env scope.names []) C F.env, F.all μ, fun a o => s₁.heap.get? a = some o, [], s₁⟩

section
variable {F : Fx} {s s' s₁ s₂ : Shared} {σ σ' σc : List (Str × Sl)} {μ : List (Addr × Wn)} {E : Value → Shared → Prop}

theorem mem_lookup_names {names : List (Str × NameKind)} {x : Str} {k : NameKind} (h : names.lookup x = some k) : (x, k) ∈ names := by
  induction names with
  | nil => cases h
  | cons y r ih =>
    obtain ⟨n, k'⟩ := y
    rw [List.lookup_cons] at h
    split at h
    · rename_i e; cases h; rw [beq_iff_eq.mp e]; exact List.mem_cons_self ..
    · exact List.mem_cons_of_mem _ (ih h)

theorem comp_block {e : Expr} {scope : Scope} {it : Value} {wr : List Addr} {ds : List D} (I : Inv F s₁ σ μ) (g : Gr s₁ s₂) (hnew : ∀ b ∈ wr, s₁.heap.get? b = none) (hlive : ∀ b ∈ wr, ∃ o, s₂.heap.get? b = some o)
    (hcell : ∀ y ∈ scope.names, y.2 ≠ .cell) (hkind : scope.kind = .function) (hcs : CSub F scope σ σc)
    (run : ∀ (C D : Addr) (s₄ : Shared), Gr s₂ s₄ → s₂.heap.objs.size ≤ C ∧ s₂.heap.objs.size ≤ D → Inv ((compFx F μ scope s₁ C).with (compFx F μ scope s₁ C).B ((compFx F μ scope s₁ C).O ++ wr)) s₄ σc [(D, .lst [])] →
      codeAny (model F.prog F.w) F.A (.compStart e 0 it (.ref D) (compEnvC scope (clOf F.env scope.names []) C F.env)) (fun r s₅ => r = .ok .next ∧ Inv (compFx F μ scope s₁ C) s₅ [] [(D, .lst ds)]) s₄)
    {RR : Value → Addr → Result → Shared → Prop} (hRR : ∀ C D s₅, Inv (compFx F μ scope s₁ C) s₅ [] [(D, .lst ds)] → RR (.ref D) C (.ok .next) s₅) :
    wpAny (model F.prog F.w) F.A (newList []) (fun acc s₃ => wpAny (model F.prog F.w) F.A (newFunctionEnv scope F.env.globals (clOf F.env scope.names []) [] F.env.qual none .none (some F.env)) (fun cenv s₄ =>
      codeAny (model F.prog F.w) F.A (.compStart e 0 it acc { cenv with scope := relabel scope F.env }) (RR acc cenv.locals) s₄) E s₃) E s₂ := by
  refine wpAny_newObj_type (wpAny_newFunctionEnv hcell (by intro y hy; simp at hy) (fun h₁ hns₁ hsb₁ => ?_) hkind)
  dsimp only at hns₁ hsb₁ ⊢
  generalize hH2 : s₂.heap.push { cls := .type "list", dict := none, data := .seq ([] : List Value).toArray } = H2 at hns₁ hsb₁ ⊢
  have hC : H2.objs.size = s₂.heap.objs.size + 1 := by rw [← hH2, Heap.size_push]
  have hDC : s₂.heap.objs.size ≠ H2.objs.size := by rw [hC]; exact Nat.ne_of_lt (Nat.lt_succ_self _)
  have below : ∀ b, b < s₂.heap.objs.size → b ≠ H2.objs.size ∧ b ≠ s₂.heap.objs.size := fun b hb => ⟨by rw [hC]; exact Nat.ne_of_lt (Nat.lt_succ_of_lt hb), Nat.ne_of_lt hb⟩
  have old : ∀ b o, s₂.heap.get? b = some o → h₁.get? b = some o := fun b o e => hsb₁.extBut b o (below b (Heap.lt_size e)).1 (Heap.get?_push_of_some _ (hH2 ▸ Heap.get?_push_of_some _ e))
  have hD : h₁.get? s₂.heap.objs.size = some { cls := .type "list", data := .seq ([] : List Value).toArray } := hsb₁.extBut _ _ hDC (Heap.get?_push_of_some _ (hH2 ▸ Heap.get?_push_size _ rfl))
  have g₄ : Gr s₂ { s₂ with heap := h₁, toks := s₂.toks + ([] : List (Str × Value)).length } := .keeps old
  have lt1 : ∀ a o, s₁.heap.get? a = some o → a < s₂.heap.objs.size := fun a o e => Heap.lt_size (g.heap a o e)
  have hown : ∀ a, a ∈ (compFx F μ scope s₁ H2.objs.size).own [(s₂.heap.objs.size, .lst [])] ↔ a = H2.objs.size ∨ a = s₂.heap.objs.size := by
    intro a; unfold Fx.own; simp [compEnvC]
  have notown : ∀ a o, s₂.heap.get? a = some o → a ∉ (compFx F μ scope s₁ H2.objs.size).own [(s₂.heap.objs.size, .lst [])] := fun a o e hm => by
    have := below a (Heap.lt_size e)
    rcases (hown a).mp hm with h | h
    · exact this.1 h
    · exact this.2 h
  have liveO : ∀ a ∈ F.all μ ++ wr, ∃ o, s₂.heap.get? a = some o := fun a ha => by
    rcases List.mem_append.mp ha with ha | ha
    · obtain ⟨o, ho⟩ := I.liveAll a ha; exact ⟨o, g.heap a o ho⟩
    · exact hlive a ha
  have fz : ∀ a o, Fz (F.all μ) s₁.heap a o → Fz (((compFx F μ scope s₁ H2.objs.size).with (compFx F μ scope s₁ H2.objs.size).B ((compFx F μ scope s₁ H2.objs.size).O ++ wr)).all [(s₂.heap.objs.size, .lst [])]) h₁ a o := fun a o x => by
    refine ⟨old a o (g.heap a o x.1), fun hm => ?_⟩
    rcases List.mem_append.mp hm with hm | hm
    · exact notown a o (g.heap a o x.1) hm
    · rcases List.mem_append.mp hm with hm | hm
      · exact x.2 hm
      · have := hnew a hm; rw [x.1] at this; cases this
  refine codeAny_mono (run H2.objs.size s₂.heap.objs.size _ g₄ ⟨by rw [hC]; exact Nat.le_succ _, Nat.le_refl _⟩ ?_) fun r s₅ h => ?_
  · obtain ⟨lm, cm, hn, hc, hcs', hv⟩ := I.mem
    have hcl : ∀ n c, (clOf F.env scope.names []).lookup n = some c → F.env.cells.lookup n = some c := fun n c h => by
      rcases clOf_sub _ _ h with h | h
      · cases h
      · exact h
    refine ⟨hkind, ?_, ?_, ?_, fun a o h => ⟨old a o (g.heap a o h), notown a o (g.heap a o h)⟩, fun a h hm => ?_, fun a h => let ⟨o, ho⟩ := liveO a h; ⟨o, old a o ho⟩, ?_, fun n c h => .inr fun hm => ?_, fun n n' c _ _ h => (nomatch h), ⟨_, cm, hns₁, fun n c h => ?_, fun c h => (nomatch h), fun x sl h => ?_⟩, fun a w hm => ?_⟩
    · exact g.drawn
    · exact g.os
    · exact g.gens
    · obtain ⟨o, ho⟩ := liveO a h
      exact notown a o ho hm
    · unfold Fx.own; simp [compEnvC]; exact Ne.symm hDC
    · obtain ⟨o, ho⟩ := I.cellLive (hcl n c h)
      exact notown c o (g.heap c o ho) hm
    · obtain ⟨o, ho, hd⟩ := hc n c (hcl n c h)
      exact ⟨o, old c o (g.heap c o ho), hd⟩
    · obtain ⟨h1, h2, h3, c, h4⟩ := hcs.lookup x sl h
      obtain ⟨v, hg, hr⟩ := hv x sl h1
      refine ⟨v, ?_, hr.mono fz⟩
      unfold got at hg
      simp only [h2, h4] at hg
      have hk' : Env.kindOf (compEnvC scope (clOf F.env scope.names []) H2.objs.size F.env) x = some .cell := lookup_relabel_free I.kind h3 h2
      have hl' : (compEnvC scope (clOf F.env scope.names []) H2.objs.size F.env).cells.lookup x = some c := clOf_has h4 _ _ (.inr (mem_lookup_names h3))
      unfold got
      simp only [hk', hl']
      exact hg
    · rw [List.mem_singleton] at hm
      cases hm
      exact ⟨[], 0, hD, .nil⟩
  · obtain ⟨rfl, h⟩ := h
    exact hRR _ _ s₅ h

theorem Inv.comp_out {scope : Scope} {C D : Addr} {ds : List _root_.Mine.D} {s₅ : Shared} {h' : Heap} (I : Inv (compFx F μ scope s₁ C) s₅ [] [(D, .lst ds)]) (hs : Heap.SameBut C s₅.heap h') :
    Gr s₁ { s₅ with heap := h' } ∧ Rep (Fz (F.all μ) h') (.ref D) (.list ds) := by
  have hCo : C ∈ (compFx F μ scope s₁ C).own [(D, .lst ds)] := List.mem_cons_self ..
  have hDo : D ∈ (compFx F μ scope s₁ C).own [(D, .lst ds)] := List.mem_cons_of_mem _ (List.mem_append.mpr (.inr (List.mem_cons_self ..)))
  have hDC : D ≠ C := fun e => by
    have := (List.nodup_cons.mp I.nodup).1
    exact this (List.mem_append.mpr (.inr (by rw [e]; exact List.mem_cons_self ..)))
  refine ⟨⟨I.drawn, I.os, fun a o e => hs.extBut a o (fun h => (I.base a o e).2 (h ▸ hCo)) (I.base a o e).1, I.gens⟩, ?_⟩
  obtain ⟨vs, n, ho, hr⟩ := I.muts D _ (List.mem_cons_self ..)
  refine .list ⟨hs.extBut _ _ hDC ho, fun hm => I.apart D hm hDo⟩ (Reps.mono (fun a o x => ⟨hs.extBut a o (fun h => x.2 (List.mem_append.mpr (.inl (h ▸ hCo)))) x.1, fun hm => x.2 (List.mem_append.mpr (.inr hm))⟩) hr)
end
end Mine

namespace Mine
open PySem PySem.Calls

theorem lookup_relabel_ne {env : Env} {k : NameKind} (hk : k ≠ .free) : ∀ {names : List (Str × NameKind)} {x : Str}, names.lookup x = some k →
    (names.map fun (n, k) => if (k == NameKind.free && env.scope.kind == .function && env.kindOf n == some .cell) then (n, NameKind.cell) else (n, k)).lookup x = some k
  | [], _, h => by simp at h
  | (n, k') :: r, x, h => by
    have ih := @lookup_relabel_ne env k hk r x
    show List.lookup x ((if (k' == NameKind.free && env.scope.kind == .function && env.kindOf n == some .cell) = true then (n, NameKind.cell) else (n, k')) :: _) = _
    cases hx : x == n with
    | true =>
      simp only [List.lookup_cons, hx] at h
      cases h
      have : (k == NameKind.free) = false := by simpa using hk
      simp [List.lookup_cons, hx, this]
    | false =>
      simp only [List.lookup_cons, hx] at h
      by_cases hc : (k' == NameKind.free && env.scope.kind == .function && env.kindOf n == some .cell) = true
      · rw [if_pos hc]; simp only [List.lookup_cons, hx]; exact ih h
      · rw [if_neg hc]; simp only [List.lookup_cons, hx]; exact ih h

/-- the frame of a comprehension -/
structure CompOf (cenv env : Env) (scope : Scope) : Prop where
  sc : cenv.scope = relabel scope env
  gl : cenv.globals = env.globals
  bi : cenv.builtins = env.builtins
theorem CompOf.kind {cenv env : Env} {scope : Scope} (c : CompOf cenv env scope) {x : Str} {k : NameKind} (h : scope.names.lookup x = some k) (hk : k ≠ .free) : cenv.kindOf x = some k := by
  unfold Env.kindOf; rw [c.sc]; exact lookup_relabel_ne hk h
theorem CompOf.fn {cenv env : Env} {scope : Scope} (c : CompOf cenv env scope) (h : scope.kind = .function) : cenv.scope.kind = .function := by rw [c.sc]; exact h

def TestsTo (prog : Program) (w : World) (A : Around) (env : Env) (s : Shared) (ifs : List Expr) (b : Bool) : Prop :=
  ∀ s₁, Gr s s₁ → ∀ Q : Bool → Shared → Prop, (∀ s₂, Gr s₁ s₂ → Q b s₂) → wpAny (model prog w) A (tests ifs env) Q Never s₁
theorem TestsTo.nil {prog : Program} {w : World} {A : Around} {env : Env} {s : Shared} : TestsTo prog w A env s [] true := fun s₁ g Q hQ => wpAny_pure (hQ _ (.refl _))
theorem TestsTo.one {prog : Program} {w : World} {A : Around} {env : Env} {s : Shared} {c : Expr} {b : Bool} (h : Tr prog w A env s c b) : TestsTo prog w A env s [c] b := fun s₁ g Q hQ => by
  show wpAny _ A (forIn [c] true _) _ _ _
  rw [List.forIn_cons]
  exact wpAny_bind (wpAny_bind (h s₁ g _ fun s₂ g₂ => wpAny_pure (wpAny_pure (hQ _ g₂))))

section
variable {F : Fx} {s s' s₁ s₂ : Shared} {σ σ' σc : List (Str × Sl)} {μ : List (Addr × Wn)}

theorem emit_step {elt : Expr} {ifs : List Expr} {D₀ : Addr} {acc : List D} {b : Bool} {d : D} {P : Shared → Prop} (I : Inv F s σ [(D₀, .lst acc)]) (hz : acc.length ≤ sizeLine) (ht : TestsTo F.prog F.w F.A F.env s ifs b) (he : b = true → FEv F [(D₀, .lst acc)] s elt d)
    (hP : ∀ s', Inv F s' σ [(D₀, .lst (if b = true then acc ++ [d] else acc))] → P s') : emitT F.prog F.w F.A F.env elt ifs (.ref D₀) P s := by
  refine ht s (.refl _) _ fun s₂ g₂ => ?_
  cases b with
  | false => exact hP _ (I.gr g₂)
  | true =>
    refine he rfl s₂ g₂ _ fun v s₃ g₃ r => ?_
    have I₃ := I.gr (g₂.trans g₃)
    obtain ⟨vs, n, ho, hr⟩ := I₃.muts D₀ _ (List.mem_cons_self ..)
    refine wpAny_list_append_plain (items := vs.toArray) ⟨n, ho⟩ (fun h' hl hsb => hP _ ?_) (by simpa [hr.length] using hz)
    obtain ⟨n', hl⟩ := hl
    have e1 : vs.toArray.push v = (vs ++ [v]).toArray := by simp
    rw [e1] at hl
    exact I₃.setList (μ₁ := []) (μ₂ := []) rfl hsb hl (w' := .lst (acc ++ [d])) (hr.append (.one r))

/-- a turn of a comprehension -/
def CTurn (F : Fx) (s : Shared) (scope : Scope) (elt : Expr) (ifs : List Expr) (acc acc' : List D) (σt : List (Str × Sl)) : Prop :=
  ∀ (cenv : Env) (B : Addr → Obj → Prop) (O : List Addr) (s₀ s' : Shared) (D₀ : Addr), CompOf cenv F.env scope → Gr s s' → Inv ⟨F.prog, F.w, F.A, cenv, O, B, [], s₀⟩ s' σt [(D₀, .lst acc)] →
    ∃ b d, TestsTo F.prog F.w F.A cenv s' ifs b ∧ (b = true → FEv ⟨F.prog, F.w, F.A, cenv, O, B, [], s₀⟩ [(D₀, .lst acc)] s' elt d) ∧ acc' = if b = true then acc ++ [d] else acc

theorem comp_dat {elt iter : Expr} {x : Str} {px pos : Pos} {ifs : List Expr} {scope : Scope} {d : D} {ds : List D} {use : Option (Value → Sem Unit)} {Q : Value → Shared → Prop} (hh : F.A.handled = none) (I : Inv F s σ μ) (he : FEv F μ s iter d) (hi : IterD d ds)
    (hcell : ∀ y ∈ scope.names, y.2 ≠ .cell) (hkind : scope.kind = .function) (hnames : ∀ x ∈ scope.names, x.2 = .local → scope.names.lookup x.1 = some .local)
    (hfree : ∀ x ∈ scope.names, x.2 = .free → ∃ c, F.env.cells.lookup x.1 = some c) (hcs : CSub F scope σ σc) (hx : scope.names.lookup x = some .local)
    (acc : Nat → List D) (h0 : acc 0 = []) (hz : ∀ i, i ≤ ds.length → (acc i).length ≤ sizeLine) (turn : ∀ i, i < ds.length → CTurn F s scope elt ifs (acc i) (acc (i + 1)) ((x, .dat (ds.getD i .none)) :: σc))
    (hs : ∀ v, foldedSetIterable iter F.env v = pure v) 
    (hQ : ∀ s₁ C D₀ s₅, Gr s s₁ → Inv F s₁ σ μ → Inv (compFx F μ scope s₁ C) s₅ [] [(D₀, .lst (acc ds.length))] → compPost (model F.prog F.w) F.A Never use Q (.ref D₀) C (.ok .next) s₅) {p : Pos} :
    wpAny (model F.prog F.w) F.A (comprehension (.ListComp elt [⟨.Name x px, iter, ifs, 0⟩] scope pos) scope F.env p (newList []) false (eval iter F.env) use) Q Never s := by
  refine wpAny_comprehension_free (use := use) rfl hs (closure_eq hfree) hkind hnames (he.now _ fun v s₁ g₁ r => pyIter_dat hh r hi fun It fp wr P St s₂ g₂ hnew hfp hob hlt W hst hP => ?_)
  have I₁ := I.gr g₁
  refine comp_block (ds := acc ds.length) I₁ g₂ hnew (hob _ _ hst) hcell hkind hcs (fun C D₀ s₄ g₄ hge I₄ => ?_) (RR := fun acc C => compPost (model F.prog F.w) F.A Never use Q acc C) fun C D₀ s₅ I₅ => hQ s₁ C D₀ s₅ g₁ I₁ I₅
  have hst₄ : St 0 s₄.heap := (W F.A hh).frame _ _ _ hst fun b _ o e => g₄.heap b o e
  have hnot : ∀ a o, s₁.heap.get? a = some o → a ∉ wr := fun a o e hw => by have := hnew a hw; rw [e] at this; cases this
  have loop : codeAny (model F.prog F.w) F.A (.compLoop (.ListComp elt [⟨.Name x px, iter, ifs, 0⟩] scope pos) 0 (.ref It) (.ref D₀) (compEnvC scope (clOf F.env scope.names []) C F.env))
      (fun r s₅ => r = .ok .next ∧ Inv (compFx F μ scope s₁ C) s₅ [] [(D₀, .lst (acc ds.length))]) s₄ := by
    refine loop_name0 (F := compFx F μ scope s₁ C) (lr_last rfl rfl) emitT_mono I₄ (fun m c h hw => ?_) (fun a o h => hnot a o h) (fun a h hw => ?_) (fun b hb hm => ?_) hob (W F.A hh) hst₄ (fun i => ds.getD i .none) (fun i v s' hi' hp hk => ?_) (fun _ => σc) (fun i => [(D₀, .lst (acc i))]) (fun _ _ h => h) (by rw [h0]) (fun _ => rfl) (.inl ?_) (fun i B O s' hi' hB hO I' => ?_) (fun s' I' => ⟨rfl, I'.re trivial⟩)
    · rcases clOf_sub _ _ h with h | h
      · cases h
      · obtain ⟨o, ho⟩ := I₁.cellLive h
        exact hnot c o ho hw
    · obtain ⟨o, ho⟩ := I₁.liveAll a h
      exact hnot a o ho hw
    · have hb' := hlt b hb
      rcases List.mem_cons.mp hm with e | hm
      · have e : b = C := e
        rw [e] at hb'; exact absurd hge.1 (Nat.not_le.mpr hb')
      · have e : b = D₀ := by simpa using hm
        rw [e] at hb'; exact absurd hge.2 (Nat.not_le.mpr hb')
    · refine hP i v _ hi' hp fun a o h => ?_
      have hage : a < s₂.heap.objs.size := Heap.lt_size (g₂.heap a o h.1)
      have haC : a ∉ (compFx F μ scope s₁ C).own [(D₀, .lst [])] := fun hm => by
        rcases List.mem_cons.mp hm with e | hm
        · have e : a = C := e
          rw [e] at hage; exact absurd hge.1 (Nat.not_le.mpr hage)
        · have e : a = D₀ := by simpa using hm
          rw [e] at hage; exact absurd hge.2 (Nat.not_le.mpr hage)
      refine ⟨hk a o haC (hnot a o h.1) (g₄.heap a o (g₂.heap a o h.1)), fun hm => ?_⟩
      rcases List.mem_append.mp hm with hm | hm
      · exact haC hm
      · rcases List.mem_append.mp hm with hm | hm
        · exact h.2 hm
        · exact hnot a o h.1 hm
    · exact lookup_relabel_local hx
    · have gr' : Gr s s' := g₁.trans (I'.grow fun a o h => hB a o h)
      obtain ⟨b, dr, h1, h2, h3⟩ := turn i hi' (compEnvC scope (clOf F.env scope.names []) C F.env) B O s₁ s' D₀ ⟨rfl, rfl, rfl⟩ gr' I'
      refine emit_step (F := (compFx F μ scope s₁ C).with B O) I' (hz i (Nat.le_of_lt hi')) h1 h2 fun s'' I'' => ?_
      show Inv _ s'' σc [(D₀, .lst (acc (i + 1)))]
      rw [h3]
      refine I''.sub fun y sl h => lk_tail ?_ h
      have hne : y ≠ x := fun e => by
        have := (hcs.lookup y sl h).2.2.1
        rw [e, hx] at this; cases this
      simpa using hne
  exact comp_start rfl loop ((W F.A hh).self 0 _ _ _ hst₄ loop)
end
end Mine

namespace Mine
open PySem PySem.Calls

/-- a tree gives what walks pairs -/
def PairIter (F : Fx) (μ : List (Addr × Wn)) (s : Shared) (n : Nat) (item jtem : Nat → D) (t : Sem Value) : Prop :=
  ∀ Q : Value → Shared → Prop, (∀ s₁ s₂ It fp wr Pt St Mid, Gr s s₁ → Gr s₁ s₂ → (∀ b ∈ wr, s₁.heap.get? b = none) → (∀ b ∈ fp, s₁.heap.get? b = none ∨ ∃ o, Fz (F.all μ) s₁.heap b o) → (∀ (i : Nat) (h : Heap), St i h → ∀ b ∈ wr, ∃ o, h.get? b = some o) → (∀ b ∈ fp, b < s₂.heap.objs.size) →
      (∀ A' : Around, A'.handled = none → WalksU F.prog F.w A' It fp wr n Pt St Mid) → St 0 s₂.heap →
      (∀ (i : Nat) (vals : Array Value) (P' : Addr → Obj → Prop), i < n → Pt i vals → (∀ a o, Fz (F.all μ) s₁.heap a o → P' a o) → ∃ u v, vals = #[u, v] ∧ Rep P' u (item i) ∧ Rep P' v (jtem i)) → Q (.ref It) s₂) →
    wpAny (model F.prog F.w) F.A t (fun v s' => wpAny (model F.prog F.w) F.A (pyIter v) Q Never s') Never s

theorem fresh_of {h : Heap} {b : Addr} (hb : h.objs.size ≤ b) : h.get? b = none := by
  cases e : h.get? b with
  | none => rfl
  | some o => exact absurd (Heap.lt_size e) (Nat.not_lt.mpr hb)

section
variable {F : Fx} {s s' s₁ s₂ : Shared} {σ σ' σc : List (Str × Sl)} {μ : List (Addr × Wn)}

theorem pairs_enum {np cp : Pos} {e : Expr} {ds : List D} (hh : F.A.handled = none) (hf : EvV F.prog F.w F.A F.env s (.Name "enumerate" np) (.type "enumerate")) (he : FEv F μ s e (.list ds))
    (hse : starEach [e] F.env = [(false, eval e F.env)] := by rfl) : PairIter F μ s ds.length (fun i => .int i) (fun i => ds.getD i .none) (eval (.Call (.Name "enumerate" np) [e] [] cp) F.env) := fun Q hQ => by
  refine Call_name1 hse (hf s (.refl s) _ _ (callWith_type1 (he.now _ fun v s₁ g r => ?_)))
  cases r with
  | @list l vs n _ hl rl =>
    have hL : s₁.heap.IsList l vs.toArray := ⟨_, hl.1, rfl, n, rfl⟩
    have hll := Heap.lt_size hl.1
    refine call_enumerate_1 hl.1 fun h' hen hit hsz hk => ?_
    have hle : l ≠ s₁.heap.objs.size + 1 := Nat.ne_of_lt (Nat.lt_succ_of_lt hll)
    have hli : l ≠ s₁.heap.objs.size := Nat.ne_of_lt hll
    have hn : vs.toArray.size = ds.length := by simpa using rl.length
    refine wpAny_pyIter_enum hen ?_
    rw [← hn] at hQ
    refine hQ s₁ { s₁ with heap := h' } _ _ [s₁.heap.objs.size + 1, s₁.heap.objs.size] _ _ _ g (.keeps hk) (fun b hb => ?_) (fun b hb => ?_) ?_ (fun b hb => ?_)
      (fun A' hA => (WalksT.enumerate (prog := F.prog) (w := F.w) (A := A') hA (s₁.heap.objs.size + 1) s₁.heap.objs.size l (Nat.succ_ne_self _) hle hli vs.toArray).toU) ⟨⟨_, hen⟩, hit, hL.at fun o e => hk l o e⟩ (fun i vals P' hi hp hz => ?_)
    · rcases List.mem_cons.mp hb with e | hb
      · rw [e]; exact fresh_of (Nat.le_succ _)
      · rw [List.mem_singleton.mp hb]; exact fresh_of (Nat.le_refl _)
    · rcases List.mem_cons.mp hb with e | hb
      · rw [e]; exact .inl (fresh_of (Nat.le_succ _))
      · rcases List.mem_cons.mp hb with e | hb
        · rw [e]; exact .inl (fresh_of (Nat.le_refl _))
        · rw [List.mem_singleton.mp hb]; exact .inr ⟨_, hl⟩
    · rintro i h ⟨⟨old, h1⟩, ⟨o, h2, _⟩, _⟩ b hb
      rcases List.mem_cons.mp hb with e | hb
      · rw [e]; exact ⟨_, h1⟩
      · rw [List.mem_singleton.mp hb]; exact ⟨_, h2⟩
    · show b < h'.objs.size
      rw [hsz]
      rcases List.mem_cons.mp hb with e | hb
      · rw [e]; exact Nat.lt_succ_self _
      · rcases List.mem_cons.mp hb with e | hb
        · rw [e]; exact Nat.lt_succ_of_lt (Nat.lt_succ_self _)
        · rw [List.mem_singleton.mp hb]; exact Nat.lt_succ_of_lt (Nat.lt_succ_of_lt hll)
    · obtain ⟨t, u, hu, rfl⟩ := hp
      have hu' : vs[i]? = some u := by simpa using hu
      obtain ⟨d, hd, r⟩ := rl.get hu'
      refine ⟨_, _, rfl, .int _ _, ?_⟩
      show Rep P' u (ds.getD i .none)
      rw [List.getD_eq_getElem?_getD, hd]
      exact r.mono hz

theorem pairs_zip {np cp : Pos} {e₁ e₂ : Expr} {ds es : List D} (hh : F.A.handled = none) (lv : Live (F.all μ) s.heap) (hf : EvV F.prog F.w F.A F.env s (.Name "zip" np) (.type "zip")) (he : FEv F μ s e₁ (.list ds)) (he₂ : FEv F μ s e₂ (.list es))
    (hse : starEach [e₁, e₂] F.env = [(false, eval e₁ F.env), (false, eval e₂ F.env)] := by rfl) : PairIter F μ s (min ds.length es.length) (fun i => ds.getD i .none) (fun i => es.getD i .none) (eval (.Call (.Name "zip" np) [e₁, e₂] [] cp) F.env) := fun Q hQ => by
  show wpAny _ F.A (do callWith cp (← eval (.Name "zip" np) F.env) [] (backTo cp (starEach [e₁, e₂] F.env)) (backToKw cp (keywordEach [] F.env))) _ Never s
  rw [hse]
  refine wpAny_bind (hf s (.refl s) _ _ (callWith_type rfl (evalArgs_plain (spliced_cons (he s (.refl s) _ fun v s₁ g r => spliced_cons (he₂ s₁ g _ fun v₂ s₂ g₂ r₂ => spliced_nil ?_))))))
  have r := g₂.rep r
  cases r with
  | @list l₁ vs n₁ _ hl₁ rl₁ =>
  cases r₂ with
  | @list l₂ us n₂ _ hl₂ rl₂ =>
    have hL₁ : s₂.heap.IsList l₁ vs.toArray := ⟨_, hl₁.1, rfl, n₁, rfl⟩
    have hL₂ : s₂.heap.IsList l₂ us.toArray := ⟨_, hl₂.1, rfl, n₂, rfl⟩
    have hlt₁ := Heap.lt_size hl₁.1
    have hlt₂ := Heap.lt_size hl₂.1
    have hn₁ : vs.toArray.size = ds.length := by simpa using rl₁.length
    have hn₂ : us.toArray.size = es.length := by simpa using rl₂.length
    refine call_zip_2 hL₁ hL₂ fun h' hz hTI hTO hi₁ hi₂ hsz hk => ?_
    have Dz : ZipApart (s₂.heap.objs.size + 4) (s₂.heap.objs.size + 2) (s₂.heap.objs.size + 3) s₂.heap.objs.size (s₂.heap.objs.size + 1) l₁ l₂ := PySem.W.ktu_apart _ _ _ hlt₁ hlt₂
    refine wpAny_pyIter_zip hz ?_
    rw [← hn₁, ← hn₂] at hQ
    refine hQ s₂ { s₂ with heap := h' } _ _ [s₂.heap.objs.size + 4, s₂.heap.objs.size + 3, s₂.heap.objs.size, s₂.heap.objs.size + 1] _ _ _ (g.trans g₂) (.keeps hk) (fun b hb => ?_) (fun b hb => ?_) ?_ (fun b hb => ?_)
      (fun A' hA => (WalksT.zip2 (prog := F.prog) (w := F.w) (A := A') hA _ _ _ _ _ _ _ Dz vs.toArray us.toArray).toU) ⟨hz, hTI, ⟨_, _, hTO⟩, hi₁, hi₂, hL₁.at fun o e => hk _ o e, hL₂.at fun o e => hk _ o e⟩ (fun i vals P' hi hp hzz => ?_)
    · simp only [List.mem_cons, List.not_mem_nil, or_false] at hb
      refine fresh_of ?_
      rcases hb with e | e | e | e <;> rw [e] <;> omega
    · simp only [List.mem_cons, List.not_mem_nil, or_false] at hb
      rcases hb with e | e | e | e | e | e | e
      · exact .inl (fresh_of (by rw [e]; omega))
      · exact .inl (fresh_of (by rw [e]; omega))
      · exact .inl (fresh_of (by rw [e]; omega))
      · exact .inl (fresh_of (by rw [e]; omega))
      · exact .inl (fresh_of (by rw [e]; omega))
      · rw [e]; exact .inr ⟨_, hl₁⟩
      · rw [e]; exact .inr ⟨_, hl₂⟩
    · rintro i h ⟨h1, h2, ⟨a, b', h3⟩, ⟨o1, h4, _⟩, ⟨o2, h5, _⟩, _⟩ b hb
      simp only [List.mem_cons, List.not_mem_nil, or_false] at hb
      rcases hb with e | e | e | e <;> rw [e]
      · exact ⟨_, h1⟩
      · exact ⟨_, h3⟩
      · exact ⟨_, h4⟩
      · exact ⟨_, h5⟩
    · show b < h'.objs.size
      rw [hsz]
      simp only [List.mem_cons, List.not_mem_nil, or_false] at hb
      have hlt₁ : l₁ < s₂.heap.objs.size := hlt₁
      have hlt₂ : l₂ < s₂.heap.objs.size := hlt₂
      rcases hb with e | e | e | e | e | e | e
      · rw [e]; omega
      · rw [e]; omega
      · rw [e]; omega
      · rw [e]; omega
      · rw [e]; omega
      · rw [e]; exact Nat.lt_of_lt_of_le hlt₁ (Nat.le_add_right _ _)
      · rw [e]; exact Nat.lt_of_lt_of_le hlt₂ (Nat.le_add_right _ _)
    · obtain ⟨x, y, hx, hy, rfl⟩ := hp
      have hx' : vs[i]? = some x := by simpa using hx
      have hy' : us[i]? = some y := by simpa using hy
      obtain ⟨d, hd, r⟩ := rl₁.get hx'
      obtain ⟨d', hd', r'⟩ := rl₂.get hy'
      refine ⟨_, _, rfl, ?_, ?_⟩
      · show Rep P' x (ds.getD i .none)
        rw [List.getD_eq_getElem?_getD, hd]; exact r.mono hzz
      · show Rep P' y (es.getD i .none)
        rw [List.getD_eq_getElem?_getD, hd']; exact r'.mono hzz
end
end Mine

namespace Mine
open PySem PySem.Calls

section
variable {F : Fx} {s s' s₁ s₂ : Shared} {σ σ' σc : List (Str × Sl)} {μ : List (Addr × Wn)}

theorem comp_pair {elt iter : Expr} {x y : Str} {px py pt pos : Pos} {k₁ n : Nat} {item jtem : Nat → D} {ifs : List Expr} {scope : Scope} {use : Option (Value → Sem Unit)} {Q : Value → Shared → Prop} (hh : F.A.handled = none) (I : Inv F s σ μ) (hp : PairIter F μ s n item jtem (eval iter F.env))
    (hcell : ∀ y ∈ scope.names, y.2 ≠ .cell) (hkind : scope.kind = .function) (hnames : ∀ x ∈ scope.names, x.2 = .local → scope.names.lookup x.1 = some .local)
    (hfree : ∀ x ∈ scope.names, x.2 = .free → ∃ c, F.env.cells.lookup x.1 = some c) (hcs : CSub F scope σ σc) (hx : scope.names.lookup x = some .local) (hy : scope.names.lookup y = some .local)
    (acc : Nat → List D) (h0 : acc 0 = []) (hz : ∀ i, i ≤ n → (acc i).length ≤ sizeLine) (turn : ∀ i, i < n → CTurn F s scope elt ifs (acc i) (acc (i + 1)) ((y, .dat (jtem i)) :: (x, .dat (item i)) :: σc))
    (hs : ∀ v, foldedSetIterable iter F.env v = pure v) 
    (hQ : ∀ s₁ C D₀ s₅, Gr s s₁ → Inv F s₁ σ μ → Inv (compFx F μ scope s₁ C) s₅ [] [(D₀, .lst (acc n))] → compPost (model F.prog F.w) F.A Never use Q (.ref D₀) C (.ok .next) s₅) {p : Pos} :
    wpAny (model F.prog F.w) F.A (comprehension (.ListComp elt [⟨.Tuple [.Name x px, .Name y py] k₁ pt, iter, ifs, 0⟩] scope pos) scope F.env p (newList []) false (eval iter F.env) use) Q Never s := by
  refine wpAny_comprehension_free (use := use) rfl hs (closure_eq hfree) hkind hnames (hp _ fun s₁ s₂ It fp wr Pt St Mid g₁ g₂ hnew hfp hob hlt W hst hP => ?_)
  have I₁ := I.gr g₁
  refine comp_block (ds := acc n) I₁ g₂ hnew (hob _ _ hst) hcell hkind hcs (fun C D₀ s₄ g₄ hge I₄ => ?_) (RR := fun acc C => compPost (model F.prog F.w) F.A Never use Q acc C) fun C D₀ s₅ I₅ => hQ s₁ C D₀ s₅ g₁ I₁ I₅
  have hst₄ : St 0 s₄.heap := (W F.A hh).frame _ _ _ hst fun b _ o e => g₄.heap b o e
  have hnot : ∀ a o, s₁.heap.get? a = some o → a ∉ wr := fun a o e hw => by have := hnew a hw; rw [e] at this; cases this
  have loop : codeAny (model F.prog F.w) F.A (.compLoop (.ListComp elt [⟨.Tuple [.Name x px, .Name y py] k₁ pt, iter, ifs, 0⟩] scope pos) 0 (.ref It) (.ref D₀) (compEnvC scope (clOf F.env scope.names []) C F.env))
      (fun r s₅ => r = .ok .next ∧ Inv (compFx F μ scope s₁ C) s₅ [] [(D₀, .lst (acc n))]) s₄ := by
    refine loop_pair0 (F := compFx F μ scope s₁ C) (lr_last rfl rfl) emitT_mono hh I₄ (fun m c h hw => ?_) (fun a o h => hnot a o h) (fun a h hw => ?_) (fun b hb hm => ?_) hob (W F.A hh) hst₄ item jtem (fun i v s' hi' hp hk => ?_) (fun _ => σc) (fun i => [(D₀, .lst (acc i))]) (fun _ _ h => h) (by rw [h0]) (fun _ => rfl) (.inl ?_) (.inl ?_) (fun i B O s' hi' hB hO I' => ?_) (fun s' I' => ⟨rfl, I'.re trivial⟩)
    · rcases clOf_sub _ _ h with h | h
      · cases h
      · obtain ⟨o, ho⟩ := I₁.cellLive h
        exact hnot c o ho hw
    · obtain ⟨o, ho⟩ := I₁.liveAll a h
      exact hnot a o ho hw
    · have hb' := hlt b hb
      rcases List.mem_cons.mp hm with e | hm
      · have e : b = C := e
        rw [e] at hb'; exact absurd hge.1 (Nat.not_le.mpr hb')
      · have e : b = D₀ := by simpa using hm
        rw [e] at hb'; exact absurd hge.2 (Nat.not_le.mpr hb')
    · refine hP i v _ hi' hp fun a o h => ?_
      have hage : a < s₂.heap.objs.size := Heap.lt_size (g₂.heap a o h.1)
      have haC : a ∉ (compFx F μ scope s₁ C).own [(D₀, .lst [])] := fun hm => by
        rcases List.mem_cons.mp hm with e | hm
        · have e : a = C := e
          rw [e] at hage; exact absurd hge.1 (Nat.not_le.mpr hage)
        · have e : a = D₀ := by simpa using hm
          rw [e] at hage; exact absurd hge.2 (Nat.not_le.mpr hage)
      refine ⟨hk a o haC (hnot a o h.1) (g₄.heap a o (g₂.heap a o h.1)), fun hm => ?_⟩
      rcases List.mem_append.mp hm with hm | hm
      · exact haC hm
      · rcases List.mem_append.mp hm with hm | hm
        · exact h.2 hm
        · exact hnot a o h.1 hm
    · exact lookup_relabel_local hx
    · exact lookup_relabel_local hy
    · have gr' : Gr s s' := g₁.trans (I'.grow fun a o h => hB a o h)
      obtain ⟨b, dr, h1, h2, h3⟩ := turn i hi' (compEnvC scope (clOf F.env scope.names []) C F.env) B O s₁ s' D₀ ⟨rfl, rfl, rfl⟩ gr' I'
      refine emit_step (F := (compFx F μ scope s₁ C).with B O) I' (hz i (Nat.le_of_lt hi')) h1 h2 fun s'' I'' => ?_
      show Inv _ s'' σc [(D₀, .lst (acc (i + 1)))]
      rw [h3]
      refine I''.sub fun z sl h => lk_tail ?_ (lk_tail ?_ h)
      · have hne : z ≠ y := fun e => by
          have := (hcs.lookup z sl h).2.2.1
          rw [e, hy] at this; cases this
        simpa using hne
      · have hne : z ≠ x := fun e => by
          have := (hcs.lookup z sl h).2.2.1
          rw [e, hx] at this; cases this
        simpa using hne
  exact comp_start rfl loop ((W F.A hh).self 0 _ _ _ hst₄ loop)
end
end Mine

namespace Mine
open PySem PySem.Calls

section
variable {F : Fx} {s s' s₁ s₂ : Shared} {σ σ' σc : List (Str × Sl)} {μ : List (Addr × Wn)}

/-- a comprehension gives res -/
def CompRun (F : Fx) (s : Shared) (σ : List (Str × Sl)) (μ : List (Addr × Wn)) (e : Expr) (scope : Scope) (first : Sem Value) (res : List D) : Prop :=
  ∀ (use : Option (Value → Sem Unit)) (Q : Value → Shared → Prop) (p : Pos), (∀ s₁ C D₀ s₅, Gr s s₁ → Inv F s₁ σ μ → Inv (compFx F μ scope s₁ C) s₅ [] [(D₀, .lst res)] → compPost (model F.prog F.w) F.A Never use Q (.ref D₀) C (.ok .next) s₅) →
    wpAny (model F.prog F.w) F.A (comprehension e scope F.env p (newList []) false first use) Q Never s

theorem Inv.nsC {scope : Scope} {C : Addr} {σ : List (Str × Sl)} {μ' : List (Addr × Wn)} (I : Inv (compFx F μ scope s₁ C) s σ μ') : ∃ m, s.heap.Ns C m := by
  obtain ⟨lm, cm, hn, _⟩ := I.mem
  exact ⟨lm, hn⟩

theorem ev_comp {elt : Expr} {gens : List Comprehension} {scope : Scope} {pos : Pos} {res : List D} (I : Inv F s σ μ) (ha : firstAsync gens = false) (h : ∀ s₁, Gr s s₁ → Inv F s₁ σ μ → CompRun F s₁ σ μ (.ListComp elt gens scope pos) scope (firstIter gens F.env) res) :
    FEv F μ s (.ListComp elt gens scope pos) (.list res) := fun s₁ g Q hQ => by
  rw [eval_ListComp, ha]
  refine h s₁ g (I.gr g) none Q _ fun s₂ C D₀ s₅ g₂ I₂ I₅ => ?_
  obtain ⟨m, hn⟩ := I₅.nsC
  exact ⟨m, hn, fun h' hs => hQ _ _ (g₂.trans (I₅.comp_out hs).1) (I₅.comp_out hs).2⟩

theorem Inv.comp_in {scope : Scope} {C D₀ : Addr} {ds : List D} {s₅ : Shared} (I : Inv (compFx F μ scope s₁ C) s₅ [] [(D₀, .lst ds)]) :
    Gr s₁ s₅ ∧ Rep (Fz (F.all μ ++ [C]) s₅.heap) (.ref D₀) (.list ds) ∧ s₁.heap.get? C = none ∧ ∃ o, s₅.heap.get? C = some o := by
  have hCo : C ∈ (compFx F μ scope s₁ C).own [(D₀, .lst ds)] := List.mem_cons_self ..
  have hDo : D₀ ∈ (compFx F μ scope s₁ C).own [(D₀, .lst ds)] := List.mem_cons_of_mem _ (List.mem_append.mpr (.inr (List.mem_cons_self ..)))
  have hDC : D₀ ≠ C := fun e => by
    have := (List.nodup_cons.mp I.nodup).1
    exact this (List.mem_append.mpr (.inr (by rw [e]; exact List.mem_cons_self ..)))
  refine ⟨⟨I.drawn, I.os, fun a o e => (I.base a o e).1, I.gens⟩, ?_, ?_, I.ownLive hCo⟩
  · obtain ⟨vs, n, ho, hr⟩ := I.muts D₀ _ (List.mem_cons_self ..)
    refine .list ⟨ho, fun hm => ?_⟩ (Reps.mono (fun a o x => ⟨x.1, fun hm => x.2 ?_⟩) hr)
    · rcases List.mem_append.mp hm with hm | hm
      · exact I.apart D₀ hm hDo
      · exact hDC (List.mem_singleton.mp hm)
    · rcases List.mem_append.mp hm with hm | hm
      · exact List.mem_append.mpr (.inr hm)
      · rw [List.mem_singleton.mp hm]; exact List.mem_append.mpr (.inl hCo)
  · cases e : s₁.heap.get? C with
    | none => rfl
    | some o => exact absurd hCo (I.base C o e).2

/-- x = [... for ...] -/
theorem x_assignComp {elt : Expr} {gens : List Comprehension} {scope : Scope} {pos spos px : Pos} {x : Str} {res : List D} {rest : List Stmt} {Q : Flow → Shared → Prop} (I : Inv F s σ μ) (ha : firstAsync gens = false)
    (h : CompRun F s σ μ (.ListComp elt gens scope pos) scope (firstIter gens F.env) res)
    (k : ∀ s', Inv F s' ((x, .dat (.list res)) :: σ) μ → Ex F rest Q s') (hk : Bindable F x)
    (hsw : swapsWith (.ListComp elt gens scope pos) (some (.Name x px)) spos.line F.env = pure true) :
    Ex F (.Assign [.Name x px] (.ListComp elt gens scope pos) spos :: rest) Q s := by
  refine wpAny_execs_cons ?_
  rw [exec_Assign_Name_used _ _ _ _ hsw]
  refine wpAny_bind (wpAny_standAt (wpAny_bind ?_))
  show wpAny _ F.A (do let _ ← comprehension (.ListComp elt gens scope pos) scope F.env _ (newList []) (firstAsync gens) (firstIter gens F.env) (some (assign (.Name x px) F.env))) _ _ s
  rw [ha]
  refine wpAny_bind (wpAny_mono (h _ (fun _ s' => Ex F rest Q s') _ fun s₁ C D₀ s₅ g₁ I₁ I₅ => ?_) (fun _ s' hq => wpAny_pure (wpAny_pure hq)) fun _ _ e => e)
  · obtain ⟨g₅, r₅, hC, hCl⟩ := I₅.comp_in
    have J : Inv (F.with F.B (F.O ++ [C])) s₅ σ μ := I₁.root (wr := [C]) g₅ (fun b hb => by rw [List.mem_singleton.mp hb]; exact hC) (fun b hb => by rw [List.mem_singleton.mp hb]; exact hCl)
    obtain ⟨m, hn⟩ := I₅.nsC
    have hr : Sl.ok (Fz ((F.with F.B (F.O ++ [C])).all μ) s₅.heap) (.ref D₀) (.dat (.list res)) := Rep.mono (fun a o y => ⟨y.1, fun hm => y.2 (by
      rcases List.mem_append.mp hm with hm | hm
      · exact List.mem_append.mpr (.inl (List.mem_append.mpr (.inl hm)))
      · rcases List.mem_append.mp hm with hm | hm
        · exact List.mem_append.mpr (.inl (List.mem_append.mpr (.inr hm)))
        · exact List.mem_append.mpr (.inr hm))⟩) r₅
    have hCown : C ∉ (F.with F.B (F.O ++ [C])).own μ := J.apart C (List.mem_append.mpr (.inr (List.mem_singleton.mpr rfl)))
    show wpAny _ F.A (assign (.Name x px) F.env (.ref D₀)) _ _ _
    refine wpAny_assign_Name (Inv.store J hr (fun s₆ I₆ k₆ => ?_) hk)
    refine ⟨m, hn.at' fun o e => k₆ _ o hCown e, fun h' hs => ?_⟩
    have hne : ∀ a o, s₁.heap.get? a = some o → a ∉ [C] := fun a o e hm => by rw [List.mem_singleton.mp hm, hC] at e; cases e
    exact k _ (Inv.foreign' (F := F) (wr := [C]) (h' := h') (tk := s₆.toks) I₆ (fun a o hb => hne a o (I₁.base a o hb).1) (fun a o ha e => hs.extBut a o (fun h => ha (List.mem_singleton.mpr h)) e) (fun a ha => let ⟨o, ho⟩ := I₁.live a ha; hne a o ho) (fun n c hc => let ⟨o, ho⟩ := I₁.cellLive hc; hne c o ho))
end
end Mine

namespace Mine
open PySem PySem.Calls

section
variable {F : Fx} {s s' s₁ s₂ : Shared} {σ σ' σc : List (Str × Sl)} {μ : List (Addr × Wn)}

theorem comp_headD {elt iter : Expr} {x : Str} {px pos : Pos} {ifs : List Expr} {gens : List Comprehension} {T : Env → Addr → (Shared → Prop) → Shared → Prop} {scope : Scope} {d : D} {ds : List D} {use : Option (Value → Sem Unit)} {Q : Value → Shared → Prop} (hh : F.A.handled = none) (I : Inv F s σ μ) (he : FEv F μ s iter d) (hi : IterD d ds)
    (hcell : ∀ y ∈ scope.names, y.2 ≠ .cell) (hkind : scope.kind = .function) (hnames : ∀ x ∈ scope.names, x.2 = .local → scope.names.lookup x.1 = some .local)
    (hfree : ∀ x ∈ scope.names, x.2 = .free → ∃ c, F.env.cells.lookup x.1 = some c) (hcs : CSub F scope σ σc) (hx : scope.names.lookup x = some .local)
    (acc : Nat → List D) (h0 : acc 0 = []) (hlr : ∀ cenv it D₀, CompOf cenv F.env scope → LR F.prog F.w F.A cenv (.Name x px) it (T cenv D₀) (.compLoop (.ListComp elt (⟨.Name x px, iter, ifs, 0⟩ :: gens) scope pos) 0 it (.ref D₀) cenv)) (hmono : ∀ cenv D₀ (P P' : Shared → Prop) s, (∀ s, P s → P' s) → T cenv D₀ P s → T cenv D₀ P' s)
    (turn : ∀ i, i < ds.length → ∀ (cenv : Env) (B : Addr → Obj → Prop) (O : List Addr) (s₀ s' : Shared) (D₀ : Addr), CompOf cenv F.env scope → Gr s s' → Inv ⟨F.prog, F.w, F.A, cenv, O, B, [], s₀⟩ s' ((x, .dat (ds.getD i .none)) :: σc) [(D₀, .lst (acc i))] →
      T cenv D₀ (fun s'' => Inv ⟨F.prog, F.w, F.A, cenv, O, B, [], s₀⟩ s'' ((x, .dat (ds.getD i .none)) :: σc) [(D₀, .lst (acc (i + 1)))]) s')
    (hs : ∀ v, foldedSetIterable iter F.env v = pure v) 
    (hQ : ∀ s₁ C D₀ s₅, Gr s s₁ → Inv F s₁ σ μ → Inv (compFx F μ scope s₁ C) s₅ [] [(D₀, .lst (acc ds.length))] → compPost (model F.prog F.w) F.A Never use Q (.ref D₀) C (.ok .next) s₅) {p : Pos} :
    wpAny (model F.prog F.w) F.A (comprehension (.ListComp elt (⟨.Name x px, iter, ifs, 0⟩ :: gens) scope pos) scope F.env p (newList []) false (eval iter F.env) use) Q Never s := by
  refine wpAny_comprehension_free (use := use) rfl hs (closure_eq hfree) hkind hnames (he.now _ fun v s₁ g₁ r => pyIter_dat hh r hi fun It fp wr P St s₂ g₂ hnew hfp hob hlt W hst hP => ?_)
  have I₁ := I.gr g₁
  refine comp_block (ds := acc ds.length) I₁ g₂ hnew (hob _ _ hst) hcell hkind hcs (fun C D₀ s₄ g₄ hge I₄ => ?_) (RR := fun acc C => compPost (model F.prog F.w) F.A Never use Q acc C) fun C D₀ s₅ I₅ => hQ s₁ C D₀ s₅ g₁ I₁ I₅
  have hst₄ : St 0 s₄.heap := (W F.A hh).frame _ _ _ hst fun b _ o e => g₄.heap b o e
  have hnot : ∀ a o, s₁.heap.get? a = some o → a ∉ wr := fun a o e hw => by have := hnew a hw; rw [e] at this; cases this
  have loop : codeAny (model F.prog F.w) F.A (.compLoop (.ListComp elt (⟨.Name x px, iter, ifs, 0⟩ :: gens) scope pos) 0 (.ref It) (.ref D₀) (compEnvC scope (clOf F.env scope.names []) C F.env))
      (fun r s₅ => r = .ok .next ∧ Inv (compFx F μ scope s₁ C) s₅ [] [(D₀, .lst (acc ds.length))]) s₄ := by
    refine loop_name0 (F := compFx F μ scope s₁ C) (hlr _ _ _ ⟨rfl, rfl, rfl⟩) (hmono _ _) I₄ (fun m c h hw => ?_) (fun a o h => hnot a o h) (fun a h hw => ?_) (fun b hb hm => ?_) hob (W F.A hh) hst₄ (fun i => ds.getD i .none) (fun i v s' hi' hp hk => ?_) (fun _ => σc) (fun i => [(D₀, .lst (acc i))]) (fun _ _ h => h) (by rw [h0]) (fun _ => rfl) (.inl ?_) (fun i B O s' hi' hB hO I' => ?_) (fun s' I' => ⟨rfl, I'.re trivial⟩)
    · rcases clOf_sub _ _ h with h | h
      · cases h
      · obtain ⟨o, ho⟩ := I₁.cellLive h
        exact hnot c o ho hw
    · obtain ⟨o, ho⟩ := I₁.liveAll a h
      exact hnot a o ho hw
    · have hb' := hlt b hb
      rcases List.mem_cons.mp hm with e | hm
      · have e : b = C := e
        rw [e] at hb'; exact absurd hge.1 (Nat.not_le.mpr hb')
      · have e : b = D₀ := by simpa using hm
        rw [e] at hb'; exact absurd hge.2 (Nat.not_le.mpr hb')
    · refine hP i v _ hi' hp fun a o h => ?_
      have hage : a < s₂.heap.objs.size := Heap.lt_size (g₂.heap a o h.1)
      have haC : a ∉ (compFx F μ scope s₁ C).own [(D₀, .lst [])] := fun hm => by
        rcases List.mem_cons.mp hm with e | hm
        · have e : a = C := e
          rw [e] at hage; exact absurd hge.1 (Nat.not_le.mpr hage)
        · have e : a = D₀ := by simpa using hm
          rw [e] at hage; exact absurd hge.2 (Nat.not_le.mpr hage)
      refine ⟨hk a o haC (hnot a o h.1) (g₄.heap a o (g₂.heap a o h.1)), fun hm => ?_⟩
      rcases List.mem_append.mp hm with hm | hm
      · exact haC hm
      · rcases List.mem_append.mp hm with hm | hm
        · exact h.2 hm
        · exact hnot a o h.1 hm
    · exact lookup_relabel_local hx
    · have gr' : Gr s s' := g₁.trans (I'.grow fun a o h => hB a o h)
      refine hmono _ _ _ _ s' (fun s'' I'' => ?_) (turn i hi' (compEnvC scope (clOf F.env scope.names []) C F.env) B O s₁ s' D₀ ⟨rfl, rfl, rfl⟩ gr' I')
      refine I''.sub fun y sl h => lk_tail ?_ h
      have hne : y ≠ x := fun e => by
        have := (hcs.lookup y sl h).2.2.1
        rw [e, hx] at this; cases this
      simpa using hne
  exact comp_start rfl loop ((W F.A hh).self 0 _ _ _ hst₄ loop)

/-- the next clause, one name over data -/
theorem nest_run {elt iter : Expr} {y : Str} {py pos : Pos} {ifs : List Expr} {gens : List Comprehension} {scope : Scope} {depth : Nat} {d : D} {ds : List D} {D₀ : Addr} {T : (Shared → Prop) → Shared → Prop} {P : Shared → Prop}
    (hg : gens[depth]? = some ⟨.Name y py, iter, ifs, 0⟩) (hlr : ∀ it, LR F.prog F.w F.A F.env (.Name y py) it T (.compLoop (.ListComp elt gens scope pos) depth it (.ref D₀) F.env)) (hmono : ∀ (P P' : Shared → Prop) s, (∀ s, P s → P' s) → T P s → T P' s)
    (hh : F.A.handled = none) (acc : Nat → List D) (I : Inv F s σ [(D₀, .lst (acc 0))]) (he : FEv F [(D₀, .lst (acc 0))] s iter d) (hi : IterD d ds) (hy : Bindable F y) (hy0 : σ.lookup y = none)
    (turn : ∀ i, i < ds.length → ∀ (B : Addr → Obj → Prop) (O : List Addr) s', (∀ a o, F.B a o → B a o) → Inv (F.with B O) s' ((y, .dat (ds.getD i .none)) :: σ) [(D₀, .lst (acc i))] →
      T (fun s'' => Inv (F.with B O) s'' ((y, .dat (ds.getD i .none)) :: σ) [(D₀, .lst (acc (i + 1)))]) s')
    (hP : ∀ s', Inv F s' σ [(D₀, .lst (acc ds.length))] → P s') :
    wpAny (model F.prog F.w) F.A (eval iter F.env) (fun x s₄ => wpAny (model F.prog F.w) F.A (pyIter x) (fun it' s₅ => codeAny (model F.prog F.w) F.A (.compStart (.ListComp elt gens scope pos) depth it' (.ref D₀) F.env) (fun r s₆ => match r with | .ok _ => P s₆ | .error _ => False) s₅) Never s₄) Never s := by
  refine he.now _ fun v s₁ g₁ r => pyIter_dat hh r hi fun It fp wr Pt St s₂ g₂ hnew hfp hob hlt W hst hPt => ?_
  have I₁ := I.gr g₁
  have loop : codeAny (model F.prog F.w) F.A (.compLoop (.ListComp elt gens scope pos) depth (.ref It) (.ref D₀) F.env) (fun r s₆ => match r with | .ok _ => P s₆ | .error _ => False) s₂ := by
    refine loop_name (hlr (.ref It)) hmono I₁ g₂ hnew (fun b hb hm => ?_) hob (W F.A hh) hst (fun i => ds.getD i .none) (fun i v s' hi hp hk => ?_) (fun _ => σ) (fun i => [(D₀, .lst (acc i))]) (fun _ _ h => h) rfl (fun _ => rfl) hy (fun i B O s' hi' hB hO I' => ?_) (fun s' I' => hP s' I')
    · rcases hfp b hb with h | ⟨o, h⟩
      · obtain ⟨o, ho⟩ := I₁.ownLive hm
        have := hnew b h; rw [ho] at this; cases this
      · exact h.2 (List.mem_append.mpr (.inl hm))
    · refine hPt i v _ hi hp fun a o h => ?_
      have haw : a ∉ wr := fun hw => by have := hnew a hw; rw [h.1] at this; cases this
      refine ⟨hk a o (fun hm => h.2 (List.mem_append.mpr (.inl hm))) haw h.1, fun hm => ?_⟩
      rcases List.mem_append.mp hm with hm | hm
      · exact h.2 (List.mem_append.mpr (.inl hm))
      · rcases List.mem_append.mp hm with hm | hm
        · exact h.2 (List.mem_append.mpr (.inr hm))
        · exact haw hm
    · refine hmono _ _ s' (fun s'' I'' => ?_) (turn i hi' B O s' hB I')
      refine I''.sub fun z sl h => lk_tail ?_ h
      have hne : z ≠ y := fun e => by rw [e, hy0] at h; cases h
      simpa using hne
  exact comp_start hg loop ((W F.A hh).self 0 _ _ _ hst loop)
end
end Mine

namespace Mine
open PySem PySem.Calls

section
variable {F : Fx} {s s' s₁ s₂ : Shared} {σ σ' σc : List (Str × Sl)} {μ : List (Addr × Wn)}

theorem take_snoc {α : Type} {l : List α} {i : Nat} {d : α} (h : i < l.length) : l.take (i + 1) = l.take i ++ [l.getD i d] := by
  rw [List.take_add_one, List.getElem?_eq_getElem h, List.getD_eq_getElem?_getD, List.getElem?_eq_getElem h]; rfl

/-- [elt for x in iter] -/
theorem run_map {elt iter : Expr} {x : Str} {px pos : Pos} {scope : Scope} {d : D} {ds res : List D} (hh : F.A.handled = none) (I : Inv F s σ μ) (he : FEv F μ s iter d) (hi : IterD d ds) (hlen : res.length = ds.length) (hz : res.length ≤ sizeLine)
    (turn : ∀ i, i < ds.length → ∀ (cenv : Env) (B : Addr → Obj → Prop) (O : List Addr) (s₀ s' : Shared) (D₀ : Addr) (acc : List D), CompOf cenv F.env scope → Gr s s' → Inv ⟨F.prog, F.w, F.A, cenv, O, B, [], s₀⟩ s' ((x, .dat (ds.getD i .none)) :: σc) [(D₀, .lst acc)] →
      FEv ⟨F.prog, F.w, F.A, cenv, O, B, [], s₀⟩ [(D₀, .lst acc)] s' elt (res.getD i .none))
    (hcs : CSub F scope σ σc) (hfree : ∀ x ∈ scope.names, x.2 = .free → ∃ c, F.env.cells.lookup x.1 = some c)
    (hcell : ∀ y ∈ scope.names, y.2 ≠ .cell) (hkind : scope.kind = .function) (hnames : ∀ x ∈ scope.names, x.2 = .local → scope.names.lookup x.1 = some .local) (hx : scope.names.lookup x = some .local)
    (hs : ∀ v, foldedSetIterable iter F.env v = pure v := by intro _; rfl) :
    CompRun F s σ μ (.ListComp elt [⟨.Name x px, iter, [], 0⟩] scope pos) scope (eval iter F.env) res := fun use Q p hQ => by
  have e : res.take ds.length = res := by rw [← hlen]; exact List.take_length
  refine comp_dat hh I he hi hcell hkind hnames hfree hcs hx (fun i => res.take i) rfl (fun i _ => ?_) (fun i hi' cenv B O s₀ s' D₀ hc g I' => ⟨true, res.getD i .none, .nil, fun _ => turn i hi' cenv B O s₀ s' D₀ _ hc g I', ?_⟩) hs (by rw [e]; exact hQ)
  · rw [List.length_take]; omega
  · rw [if_pos rfl]; exact take_snoc (by omega)
/-- [elt for x, y in iter] -/
theorem run_map2 {elt iter : Expr} {x y : Str} {px py pt pos : Pos} {k₁ n : Nat} {scope : Scope} {item jtem : Nat → D} {res : List D} (hh : F.A.handled = none) (I : Inv F s σ μ) (hp : PairIter F μ s n item jtem (eval iter F.env)) (hlen : res.length = n) (hz : res.length ≤ sizeLine)
    (turn : ∀ i, i < n → ∀ (cenv : Env) (B : Addr → Obj → Prop) (O : List Addr) (s₀ s' : Shared) (D₀ : Addr) (acc : List D), CompOf cenv F.env scope → Gr s s' → Inv ⟨F.prog, F.w, F.A, cenv, O, B, [], s₀⟩ s' ((y, .dat (jtem i)) :: (x, .dat (item i)) :: σc) [(D₀, .lst acc)] →
      FEv ⟨F.prog, F.w, F.A, cenv, O, B, [], s₀⟩ [(D₀, .lst acc)] s' elt (res.getD i .none))
    (hcs : CSub F scope σ σc) (hfree : ∀ x ∈ scope.names, x.2 = .free → ∃ c, F.env.cells.lookup x.1 = some c)
    (hcell : ∀ y ∈ scope.names, y.2 ≠ .cell) (hkind : scope.kind = .function) (hnames : ∀ x ∈ scope.names, x.2 = .local → scope.names.lookup x.1 = some .local) (hx : scope.names.lookup x = some .local) (hy : scope.names.lookup y = some .local)
    (hs : ∀ v, foldedSetIterable iter F.env v = pure v := by intro _; rfl) :
    CompRun F s σ μ (.ListComp elt [⟨.Tuple [.Name x px, .Name y py] k₁ pt, iter, [], 0⟩] scope pos) scope (eval iter F.env) res := fun use Q p hQ => by
  have e : res.take n = res := by rw [← hlen]; exact List.take_length
  refine comp_pair hh I hp hcell hkind hnames hfree hcs hx hy (fun i => res.take i) rfl (fun i _ => ?_) (fun i hi' cenv B O s₀ s' D₀ hc g I' => ⟨true, res.getD i .none, .nil, fun _ => turn i hi' cenv B O s₀ s' D₀ _ hc g I', ?_⟩) hs (by rw [e]; exact hQ)
  · rw [List.length_take]; omega
  · rw [if_pos rfl]; exact take_snoc (by omega)

theorem FEv.out {e : Expr} {d : D} (h : FEv F μ s e d) : FEv0 F s e d := fun s₁ g => (h s₁ g).weaken fun a ha => List.mem_append.mpr (.inr ha)
end

theorem noFree {names : List (Str × NameKind)} {P : Str × NameKind → Prop} (h : (names.all fun x => x.2 != .free) = true) : ∀ x ∈ names, x.2 = .free → P x := fun x hx hk => by
  have := List.all_eq_true.mp h x hx
  rw [hk] at this
  exact absurd this (by decide)

theorem split_parts (x y : Str) : Txt.split x y = [x] ∨ Txt.split x y = Builtin.Str.partsBetween x (Builtin.Str.occurrences x y 0 x.length (x.length + 1)) y.length := by
  unfold Txt.split
  split
  · exact .inl rfl
  · split
    · exact .inl rfl
    · exact .inr rfl
end Mine

namespace Mine
open PySem PySem.Calls

/-- the rest of a turn adds what is told -/
def Ad (prog : Program) (w : World) (A : Around) (cenv : Env) (s₁ : Shared) (T : (Shared → Prop) → Shared → Prop) (σt : List (Str × Sl)) (D₀ : Addr) (out : List D) : Prop :=
  ∀ (B : Addr → Obj → Prop) (O : List Addr) (s' : Shared) (acc : List D), (∀ a o, s₁.heap.get? a = some o → B a o) → acc.length + out.length ≤ sizeLine → Inv ⟨prog, w, A, cenv, O, B, [], s₁⟩ s' σt [(D₀, .lst acc)] →
    T (fun s'' => Inv ⟨prog, w, A, cenv, O, B, [], s₁⟩ s'' σt [(D₀, .lst (acc ++ out))]) s'

section
variable {prog : Program} {w : World} {A : Around} {cenv : Env} {s₁ : Shared} {σt : List (Str × Sl)} {D₀ : Addr}
theorem ad_emit {elt : Expr} {ifs : List Expr} {b : Bool} {d : D}
    (h : ∀ (B : Addr → Obj → Prop) (O : List Addr) (s' : Shared) (acc : List D), Gr s₁ s' → Inv ⟨prog, w, A, cenv, O, B, [], s₁⟩ s' σt [(D₀, .lst acc)] →
      TestsTo prog w A cenv s' ifs b ∧ (b = true → FEv ⟨prog, w, A, cenv, O, B, [], s₁⟩ [(D₀, .lst acc)] s' elt d)) :
    Ad prog w A cenv s₁ (emitT prog w A cenv elt ifs (.ref D₀)) σt D₀ (if b = true then [d] else []) := fun B O s' acc hB hz I => by
  obtain ⟨h1, h2⟩ := h B O s' acc (I.grow hB) I
  refine emit_step (F := ⟨prog, w, A, cenv, O, B, [], s₁⟩) I (by omega) h1 h2 fun s'' I'' => ?_
  have e : acc ++ (if b = true then [d] else []) = if b = true then acc ++ [d] else acc := by split <;> simp
  rw [e]; exact I''

def outsTo (outs : Nat → List D) (n : Nat) : List D := ((List.range n).map outs).flatten
theorem outsTo_succ (outs : Nat → List D) (n : Nat) : outsTo outs (n + 1) = outsTo outs n ++ outs n := by
  unfold outsTo; rw [List.range_succ, List.map_append, List.flatten_append]; simp
theorem outsTo_le (outs : Nat → List D) {i n : Nat} (h : i ≤ n) : (outsTo outs i).length ≤ (outsTo outs n).length := by
  induction n with
  | zero => rw [Nat.le_zero.mp h]; exact Nat.le_refl _
  | succ n ih =>
    rcases Nat.eq_or_lt_of_le h with e | h
    · rw [e]; exact Nat.le_refl _
    · rw [outsTo_succ, List.length_append]
      have := ih (Nat.le_of_lt_succ h)
      omega

theorem ad_nest {elt iter : Expr} {y : Str} {py pos : Pos} {ifs : List Expr} {gens : List Comprehension} {scope : Scope} {depth : Nat} {d : D} {ds : List D} {T : (Shared → Prop) → Shared → Prop} {outs : Nat → List D}
    (hg : gens[depth + 1]? = some ⟨.Name y py, iter, ifs, 0⟩) (hlr : ∀ it, LR prog w A cenv (.Name y py) it T (.compLoop (.ListComp elt gens scope pos) (depth + 1) it (.ref D₀) cenv)) (hmono : ∀ (P P' : Shared → Prop) s, (∀ s, P s → P' s) → T P s → T P' s)
    (hh : A.handled = none) (hi : IterD d ds) (hy : cenv.kindOf y = some .local) (hy0 : σt.lookup y = none)
    (he : ∀ (B : Addr → Obj → Prop) (O : List Addr) (s' : Shared) (acc : List D), Gr s₁ s' → Inv ⟨prog, w, A, cenv, O, B, [], s₁⟩ s' σt [(D₀, .lst acc)] → FEv ⟨prog, w, A, cenv, O, B, [], s₁⟩ [(D₀, .lst acc)] s' iter d)
    (turn : ∀ j, j < ds.length → Ad prog w A cenv s₁ T ((y, .dat (ds.getD j .none)) :: σt) D₀ (outs j)) :
    Ad prog w A cenv s₁ (nestT prog w A cenv (.ListComp elt gens scope pos) depth ⟨.Name y py, iter, ifs, 0⟩ [] (.ref D₀)) σt D₀ (outsTo outs ds.length) := fun B O s' acc hB hz I => by
  have hle : ∀ i, i ≤ ds.length → (outsTo outs i).length ≤ (outsTo outs ds.length).length := fun i h => outsTo_le outs h
  show wpAny _ _ (tests [] cenv) _ _ s'
  refine wpAny_pure ?_
  rw [if_pos rfl]
  refine nest_run (F := ⟨prog, w, A, cenv, O, B, [], s₁⟩) (T := T) (ds := ds) hg hlr hmono hh (fun i => acc ++ outsTo outs i) (by rw [show acc ++ outsTo outs 0 = acc by unfold outsTo; simp]; exact I) (by rw [show acc ++ outsTo outs 0 = acc by unfold outsTo; simp]; exact he B O s' acc (I.grow hB) I) hi (.inl hy) hy0 (fun j hj B₂ O₂ s₂ hB₂ I₂ => ?_) fun s'' I'' => I''
  have hj' := hle (j + 1) hj
  rw [outsTo_succ, List.length_append] at hj'
  have := turn j hj B₂ O₂ s₂ (acc ++ outsTo outs j) (fun a o h => hB₂ a o (hB a o h)) (by rw [List.length_append]; omega) I₂
  rw [outsTo_succ, ← List.append_assoc]
  exact this
end

section
variable {F : Fx} {s s' s₁ s₂ : Shared} {σ σ' σc : List (Str × Sl)} {μ : List (Addr × Wn)}
theorem run_head {elt iter : Expr} {x : Str} {px pos : Pos} {ifs : List Expr} {gens : List Comprehension} {T : Env → Addr → (Shared → Prop) → Shared → Prop} {scope : Scope} {d : D} {ds : List D} {outs : Nat → List D} {res : List D} (hh : F.A.handled = none) (I : Inv F s σ μ) (he : FEv F μ s iter d) (hi : IterD d ds) (hres : outsTo outs ds.length = res) (hz : res.length ≤ sizeLine)
    (hlr : ∀ cenv it D₀, CompOf cenv F.env scope → LR F.prog F.w F.A cenv (.Name x px) it (T cenv D₀) (.compLoop (.ListComp elt (⟨.Name x px, iter, ifs, 0⟩ :: gens) scope pos) 0 it (.ref D₀) cenv)) (hmono : ∀ cenv D₀ (P P' : Shared → Prop) s, (∀ s, P s → P' s) → T cenv D₀ P s → T cenv D₀ P' s)
    (turn : ∀ i, i < ds.length → ∀ (cenv : Env) (s₁ : Shared) (D₀ : Addr), CompOf cenv F.env scope → Gr s s₁ → Ad F.prog F.w F.A cenv s₁ (T cenv D₀) ((x, .dat (ds.getD i .none)) :: σc) D₀ (outs i))
    (hcs : CSub F scope σ σc) (hfree : ∀ x ∈ scope.names, x.2 = .free → ∃ c, F.env.cells.lookup x.1 = some c)
    (hcell : ∀ y ∈ scope.names, y.2 ≠ .cell) (hkind : scope.kind = .function) (hnames : ∀ x ∈ scope.names, x.2 = .local → scope.names.lookup x.1 = some .local) (hx : scope.names.lookup x = some .local)
    (hs : ∀ v, foldedSetIterable iter F.env v = pure v := by intro _; rfl) :
    CompRun F s σ μ (.ListComp elt (⟨.Name x px, iter, ifs, 0⟩ :: gens) scope pos) scope (eval iter F.env) res := fun use Q p hQ => by
  subst hres
  refine wpAny_comprehension_free (use := use) rfl hs (closure_eq hfree) hkind hnames (he.now _ fun v s₁ g₁ r => pyIter_dat hh r hi fun It fp wr P St s₂ g₂ hnew hfp hob hlt W hst hP => ?_)
  have I₁ := I.gr g₁
  refine comp_block (ds := outsTo outs ds.length) I₁ g₂ hnew (hob _ _ hst) hcell hkind hcs (fun C D₀ s₄ g₄ hge I₄ => ?_) (RR := fun acc C => compPost (model F.prog F.w) F.A Never use Q acc C) fun C D₀ s₅ I₅ => hQ s₁ C D₀ s₅ g₁ I₁ I₅
  have hst₄ : St 0 s₄.heap := (W F.A hh).frame _ _ _ hst fun b _ o e => g₄.heap b o e
  have hnot : ∀ a o, s₁.heap.get? a = some o → a ∉ wr := fun a o e hw => by have := hnew a hw; rw [e] at this; cases this
  have loop : codeAny (model F.prog F.w) F.A (.compLoop (.ListComp elt (⟨.Name x px, iter, ifs, 0⟩ :: gens) scope pos) 0 (.ref It) (.ref D₀) (compEnvC scope (clOf F.env scope.names []) C F.env))
      (fun r s₅ => r = .ok .next ∧ Inv (compFx F μ scope s₁ C) s₅ [] [(D₀, .lst (outsTo outs ds.length))]) s₄ := by
    refine loop_name0 (F := compFx F μ scope s₁ C) (hlr _ _ _ ⟨rfl, rfl, rfl⟩) (hmono _ _) I₄ (fun m c h hw => ?_) (fun a o h => hnot a o h) (fun a h hw => ?_) (fun b hb hm => ?_) hob (W F.A hh) hst₄ (fun i => ds.getD i .none) (fun i v s' hi' hp hk => ?_) (fun _ => σc) (fun i => [(D₀, .lst (outsTo outs i))]) (fun _ _ h => h) (by unfold outsTo; rfl) (fun _ => rfl) (.inl ?_) (fun i B O s' hi' hB hO I' => ?_) (fun s' I' => ⟨rfl, I'.re trivial⟩)
    · rcases clOf_sub _ _ h with h | h
      · cases h
      · obtain ⟨o, ho⟩ := I₁.cellLive h
        exact hnot c o ho hw
    · obtain ⟨o, ho⟩ := I₁.liveAll a h
      exact hnot a o ho hw
    · have hb' := hlt b hb
      rcases List.mem_cons.mp hm with e | hm
      · have e : b = C := e
        rw [e] at hb'; exact absurd hge.1 (Nat.not_le.mpr hb')
      · have e : b = D₀ := by simpa using hm
        rw [e] at hb'; exact absurd hge.2 (Nat.not_le.mpr hb')
    · refine hP i v _ hi' hp fun a o h => ?_
      have hage : a < s₂.heap.objs.size := Heap.lt_size (g₂.heap a o h.1)
      have haC : a ∉ (compFx F μ scope s₁ C).own [(D₀, .lst [])] := fun hm => by
        rcases List.mem_cons.mp hm with e | hm
        · have e : a = C := e
          rw [e] at hage; exact absurd hge.1 (Nat.not_le.mpr hage)
        · have e : a = D₀ := by simpa using hm
          rw [e] at hage; exact absurd hge.2 (Nat.not_le.mpr hage)
      refine ⟨hk a o haC (hnot a o h.1) (g₄.heap a o (g₂.heap a o h.1)), fun hm => ?_⟩
      rcases List.mem_append.mp hm with hm | hm
      · exact haC hm
      · rcases List.mem_append.mp hm with hm | hm
        · exact h.2 hm
        · exact hnot a o h.1 hm
    · exact lookup_relabel_local hx
    · have hle := outsTo_le outs (show i + 1 ≤ ds.length from hi')
      rw [outsTo_succ, List.length_append] at hle
      have := turn i hi' (compEnvC scope (clOf F.env scope.names []) C F.env) s₁ D₀ ⟨rfl, rfl, rfl⟩ g₁ B O s' (outsTo outs i) (fun a o h => hB a o h) (by omega) I'
      refine hmono _ _ _ _ s' (fun s'' I'' => ?_) this
      rw [← outsTo_succ] at I''
      refine I''.sub fun y sl h => lk_tail ?_ h
      have hne : y ≠ x := fun e => by
        have := (hcs.lookup y sl h).2.2.1
        rw [e, hx] at this; cases this
      simpa using hne
  exact comp_start rfl loop ((W F.A hh).self 0 _ _ _ hst₄ loop)
end
end Mine

namespace Mine
open PySem PySem.Calls PySem.Flt PySem.Builtin.Str
local macro_rules | `(tactic| walk_at "lk") => `(tactic| first | exact lk_here (by with_reducible rfl) rfl | exact lk_tail (by kernel_rfl) (by walk_at "lk"))

def defAt (p : Program) (i : Nat) : Str × Arguments × List Stmt × Scope := match p.main.body[i]? with
  | some (.FunctionDef n a b _ _ _ sc _ _ _) => (n, a, b, sc)
  | _ => default
def Fn (p : Program) (i : Nat) (h : Heap) (a : Addr) : Prop := FnAt h a (defAt p i).1 (defAt p i).2.1 (defAt p i).2.2.1 (defAt p i).2.2.2
theorem getD_map {α β : Type} (f : α → β) (l : List α) (n : Nat) (d : α) (h : n < l.length) : (l.map f)[n]? = some (f (l.getD n d)) := by
  rw [List.getElem?_map, List.getD_eq_getElem?_getD, List.getElem?_eq_getElem h]; rfl
theorem fmod_lt {a b : Int} (hb : 0 < b) : 0 ≤ a.fmod b ∧ a.fmod b < b := ⟨Int.fmod_nonneg_of_pos a hb, Int.fmod_lt_of_pos a hb⟩
theorem getD_len {l : List Str} {k : Nat} (h : ∀ x ∈ l, x.length ≤ k) (n : Nat) : (l.getD n Str.empty).length ≤ k := by
  rw [List.getD_eq_getElem?_getD]
  cases e : l[n]? with
  | none => exact Nat.zero_le _
  | some x => exact h x (List.mem_of_getElem? e)
section
variable {prog : Program} {w : World} {A : Around} {env : Env} {O : List Addr} {s : Shared}

theorem Ev.sub2 {x : Str} {np ap pos : Pos} {e₁ e₂ : Expr} {P : Addr} {nm : Str} {b : Array UInt8} (hf : EvV prog w A env s (.Name x np) (.ref P)) (hP : IsPattern s.heap P (dotRec nm)) (h₁ : Ev prog w A env O s e₁ (.bytes #[46, 46])) (h₂ : Ev prog w A env O s e₂ (.bytes b)) (hz : 3 * b.size + 8 < sizeLine)
    (hbase : attributeBase (.Name x np) "sub" env (eval (.Name x np) env) = eval (.Name x np) env := by rfl) (hse : starEach [e₁, e₂] env = [(false, eval e₁ env), (false, eval e₂ env)] := by rfl) (hline : (ap.endLine == pos.line) = true := by rfl) :
    Ev prog w A env O s (.Call (.Attribute (.Name x np) "sub" ap) [e₁, e₂] [] pos) (.bytes (stuffB b)) := fun s₁ g Q hQ => by
  refine Call_method2 hbase hse hline (hf s₁ g _ _ ?_)
  obtain ⟨fs, T, ws, n, h1, hr⟩ := hP
  refine ⟨"re.Pattern", "re.Pattern.sub", RP.plain, RP.slot, RP.type, ⟨_, g.heap _ _ h1, rfl⟩, fun a e => ?_, ?_⟩
  · cases e; exact ⟨_, g.heap _ _ h1, rfl⟩
  · refine callWith_builtin rfl (evalArgs_plain (spliced_cons (h₁ s₁ g _ fun u s₂ g₂ r₂ => spliced_cons (h₂ s₂ (g.trans g₂) _ fun v s₃ g₃ r₃ => spliced_nil ?_))))
    cases r₂ with | bytes _ t => cases r₃ with | bytes _ t' =>
    exact call_sub hz (IsPattern.gr ⟨fs, T, ws, n, h1, hr⟩ (g.trans (g₂.trans g₃))) fun t'' s₄ g₄ => hQ _ s₄ (g₂.trans (g₃.trans g₄)) (.bytes _ _)
theorem gen_eval {x : Str} {np pos : Pos} {e : Expr} {a : Addr} {y nm : Str} {params : Arguments} {body : List Stmt} {scope : Scope} {outs : List (Nat × List Nat)} (hf : EvV prog w A env s (.Name x np) (.ref a)) (ha : Ev prog w A env O s e (.str y)) (hfn : FnAt s.heap a nm params body scope)
    (hc : ∀ s₁, Gr s s₁ → ∀ t (Q : Value → Shared → Prop), (∀ s' ga, MadeGen prog w A outs s₁ s' ga → Q (.ref ga) s') → wpAny (model prog w) A (call (.ref a) [.str y t]) Q Never s₁)
    (he : starEach [e] env = [(false, eval e env)] := by rfl) {Q : Value → Shared → Prop} (hQ : ∀ s₁ s' ga, Gr s s₁ → MadeGen prog w A outs s₁ s' ga → Q (.ref ga) s') :
    wpAny (model prog w) A (eval (.Call (.Name x np) [e] [] pos) env) Q Never s := by
  obtain ⟨o, pm, cd, doc, ho, hd, hcd⟩ := hfn
  show wpAny _ A (do callWith pos (← eval (.Name x np) env) [] (backTo pos (starEach [e] env)) (backToKw pos (keywordEach [] env))) Q Never s
  refine wpAny_bind (hf s (.refl _) _ _ (callWith_function (o := o) (fd := docDef nm params body scope pm cd doc) ?_))
  rw [he]
  exact evalArgs_plain (spliced_cons (ha s (.refl _) _ fun v s₁ g r => spliced_nil (by
    cases r with
    | str _ t => exact ⟨⟨g.heap _ _ ho, hd⟩, hc s₁ g t Q fun s' ga m => hQ s₁ s' ga g m⟩)))
end
structure StS where
  start : Nat
  op : Option Nat
  res : List Str
def stepS (x : Str) (st : StS) (pc : Nat × List Nat) : StS :=
  if pc.2 == [34] then
    match st.op with
    | none => ⟨st.start, some pc.1, st.res⟩
    | some o => ⟨pc.1 + 1, none, if st.start == o then st.res else st.res ++ [Txt.slice x (some (st.start : Int)) (some (o : Int))]⟩
  else st
def runS (x : Str) : StS := (escs 0 x.cps.toList false).foldl (stepS x) ⟨0, none, []⟩
def resS (x : Str) : List Str := if (runS x).start < x.length then (runS x).res ++ [Txt.slice x (some ((runS x).start : Int)) none] else (runS x).res
def stripS (x : Str) : Str := if Txt.contains x "\"" then Builtin.Str.glued "" (resS x) else x
def stAt (x : Str) (i : Nat) : StS := ((escs 0 x.cps.toList false).take i).foldl (stepS x) ⟨0, none, []⟩
theorem stAt_succ {x : Str} {i : Nat} {p : Nat × List Nat} (h : (escs 0 x.cps.toList false)[i]? = some p) : stAt x (i + 1) = stepS x (stAt x i) p := by
  unfold stAt
  obtain ⟨hlt, he⟩ := List.getElem?_eq_some_iff.mp h
  rw [List.take_add_one, List.getElem?_eq_getElem hlt, he]
  simp
theorem stAt_all {x : Str} : stAt x (escs 0 x.cps.toList false).length = runS x := by unfold stAt runS; rw [List.take_length]
theorem escs_len : ∀ (i : Nat) (l : List Nat) (b : Bool), (escs i l b).length ≤ l.length + 1
  | i, [], true => by simp [escs]
  | i, [], false => by simp [escs]
  | i, c :: r, true => by
    have := escs_len (i + 1) r false
    simp only [escs, List.length_cons]; omega
  | i, c :: r, false => by
    have h1 := escs_len (i + 1) r false
    have h2 := escs_len (i + 1) r true
    unfold escs
    split
    · rw [List.length_cons]; omega
    · rw [List.length_cons, List.length_cons]; omega
theorem stepS_len (x : Str) (st : StS) (p : Nat × List Nat) : (stepS x st p).res.length ≤ st.res.length + 1 := by
  unfold stepS
  split
  · split
    · simp
    · rename_i o ho
      show (if (st.start == o) = true then st.res else st.res ++ [Txt.slice x (some (st.start : Int)) (some (o : Int))]).length ≤ _
      split
      · omega
      · simp
  · omega
theorem stepS_mem (x : Str) (st : StS) (p : Nat × List Nat) (h : ∀ y ∈ st.res, y.length ≤ x.length) : ∀ y ∈ (stepS x st p).res, y.length ≤ x.length := by
  unfold stepS
  split
  · split
    · exact h
    · rename_i o ho
      show ∀ y ∈ (if (st.start == o) = true then st.res else st.res ++ [Txt.slice x (some (st.start : Int)) (some (o : Int))]), _
      split
      · exact h
      · intro y hy
        rcases List.mem_append.mp hy with hy | hy
        · exact h y hy
        · rw [List.mem_singleton.mp hy]; exact Txt.slice_le x _ _
  · exact h
theorem foldS_len (x : Str) : ∀ (l : List (Nat × List Nat)) (st : StS), (l.foldl (stepS x) st).res.length ≤ st.res.length + l.length
  | [], st => by simp
  | p :: l, st => by
    have := foldS_len x l (stepS x st p)
    have := stepS_len x st p
    rw [List.foldl_cons, List.length_cons]; omega
theorem foldS_mem (x : Str) : ∀ (l : List (Nat × List Nat)) (st : StS), (∀ y ∈ st.res, y.length ≤ x.length) → ∀ y ∈ (l.foldl (stepS x) st).res, y.length ≤ x.length
  | [], st, h => h
  | p :: l, st, h => by
    rw [List.foldl_cons]
    exact foldS_mem x l _ (stepS_mem x st p h)
theorem stAt_len (x : Str) (i : Nat) : (stAt x i).res.length ≤ x.length + 1 := by
  have h := foldS_len x ((escs 0 x.cps.toList false).take i) ⟨0, none, []⟩
  have h2 := escs_len 0 x.cps.toList false
  have h3 : ((escs 0 x.cps.toList false).take i).length ≤ (escs 0 x.cps.toList false).length := by rw [List.length_take]; omega
  have h4 : x.cps.toList.length = x.length := by show _ = x.cps.size; simp
  unfold stAt
  simp only [List.length_nil] at h
  omega
theorem resS_len (x : Str) : (resS x).length ≤ x.length + 2 := by
  have := stAt_len x (escs 0 x.cps.toList false).length
  rw [stAt_all] at this
  unfold resS
  split
  · rw [List.length_append]; simp; omega
  · omega
theorem resS_mem (x : Str) : ∀ y ∈ resS x, y.length ≤ x.length := by
  have := foldS_mem x (escs 0 x.cps.toList false) ⟨0, none, []⟩ (fun y h => by cases h)
  unfold resS
  split
  · intro y hy
    rcases List.mem_append.mp hy with hy | hy
    · exact this y hy
    · rw [List.mem_singleton.mp hy]; exact Txt.slice_le x _ _
  · exact this
theorem sum_len {k : Nat} : ∀ (l : List Str), (∀ y ∈ l, y.length ≤ k) → (l.map (·.length)).sum ≤ l.length * k
  | [], _ => by simp
  | y :: l, h => by
    have h1 := h y (List.mem_cons_self ..)
    have h2 := sum_len l fun z hz => h z (List.mem_cons_of_mem _ hz)
    rw [List.map_cons, List.sum_cons, List.length_cons, Nat.add_mul]; omega
theorem join_fits (xs : List Str) (h : (xs.map (·.length)).sum ≤ sizeLine) : Builtin.Str.tooLong (xs.toArray.foldl (· + ·.length + 0) 0) = false := by
  have key : ∀ (l : List Str) (n : Nat), l.foldl (fun x1 x2 => x1 + x2.length + 0) n = n + (l.map (·.length)).sum := by
    intro l
    induction l with
    | nil => intro n; simp
    | cons y l ih => intro n; rw [List.foldl_cons, ih, List.map_cons, List.sum_cons]; omega
  unfold Builtin.Str.tooLong
  simp only [List.foldl_toArray', key, Nat.zero_add]
  exact decide_eq_false (by omega)
def opD : Option Nat → D
  | none => .none
  | some o => .int (o : Int)
theorem op_isNone' {prog : Program} {w : World} {A : Around} {O : List Addr} {o : Option Nat} : Op2 prog w A O (compareOp .Is) (opD o) .none (.bool (o == none)) := by
  cases o with
  | none => exact op_isNone
  | some o => exact op_isNone
@[reducible] def sigS (x : Str) (L : Addr) (st : StS) : List (Str × Sl) := [("open_pos", .dat (opD st.op)), ("start", .dat (.int (st.start : Nat))), ("result", .raw (.ref L)), ("addr", .dat (.str x))]
theorem sigS_sc (x : Str) (L : Addr) (st : StS) : ∀ y sl, (sigS x L st).lookup y = some sl → sl.sc := by
  intro y sl h
  by_cases h1 : y = "open_pos"
  · subst h1; cases lookup_eq h; cases st.op <;> rfl
  have h := lookup_ne h h1
  by_cases h2 : y = "start"
  · subst h2; cases lookup_eq h; rfl
  have h := lookup_ne h h2
  by_cases h3 : y = "result"
  · subst h3; cases lookup_eq h; trivial
  have h := lookup_ne h h3
  by_cases h4 : y = "addr"
  · subst h4; cases lookup_eq h; rfl
  have h := lookup_ne h h4
  cases h
def sendF (x : Str) : Str := ofB (stuffB (toB x))
theorem lpick_map {α β : Type} (f : α → β) (xs : List α) (lo hi : Option Int) : lpick (xs.map f) lo hi = (lpick xs lo hi).map f := by
  unfold lpick
  rw [List.length_map, List.map_filterMap]
  congr 1
  funext i
  rw [List.getElem?_map]
theorem toB_nats {x : Str} (h : Asc x) : nats (toB x) = x.cps := by
  obtain ⟨⟨l⟩⟩ := x
  unfold nats toB
  have key : ∀ l : List Nat, (∀ c ∈ l, c < 128) → l.map (fun c => (c.toUInt8).toNat) = l := by
    intro l
    induction l with
    | nil => intro _; rfl
    | cons c l ih =>
      intro hl
      have hc := hl c (List.mem_cons_self ..)
      rw [List.map_cons, ih fun d hd => hl d (List.mem_cons_of_mem _ hd)]
      have : c.toUInt8.toNat = c := by
        show c % 256 = c
        omega
      rw [this]
  simp only [List.map_toArray, List.map_map]
  congr 1
  exact key l h
theorem stuffN_mem {P : Nat → Prop} (h46 : P 46) : ∀ (b : Bool) (l : List Nat), (∀ c ∈ l, P c) → ∀ c ∈ stuffN b l, P c
  | _, [], _ => fun c h => nomatch h
  | b, c :: r, h => by
    rw [stuffN_cons]
    have hr := fun b' => stuffN_mem h46 b' r fun d hd => h d (List.mem_cons_of_mem _ hd)
    split
    · intro d hd
      rcases List.mem_cons.mp hd with e | hd
      · exact e ▸ h46
      · rcases List.mem_cons.mp hd with e | hd
        · exact e ▸ h46
        · exact hr _ d hd
    · intro d hd
      rcases List.mem_cons.mp hd with e | hd
      · exact e ▸ h c (List.mem_cons_self ..)
      · exact hr _ d hd
theorem sendF_cps {x : Str} (h : Asc x) : sendF x = ⟨(stuffN true x.cps.toList).toArray⟩ := by
  unfold sendF ofB
  have h1 := stuffB_nats (toB x)
  rw [toB_nats h] at h1
  rw [← h1]
  rfl
theorem asb_stuff {x : Str} (h : Asc x) : Asb (stuffB (toB x)) := by
  intro c hc
  have h1 := stuffB_nats (toB x)
  rw [toB_nats h] at h1
  have h2 := stuffN_mem (P := fun c => c < 128) (by decide) true x.cps.toList h
  rw [← h1] at h2
  refine h2 c.toNat ?_
  unfold nats
  rw [Array.toList_map]
  exact List.mem_map.mpr ⟨c, hc, rfl⟩
theorem split_len (x y : Str) : (Txt.split x y).length ≤ x.length + 2 := by
  rcases split_parts x y with h | h
  · rw [h]; simp
  · rw [h, length_partsBetween]
    have := StrLaws.occ_length_le x y 0 x.length (x.length + 1)
    omega
theorem mem_le_sum {k : Nat} : ∀ (l : List Nat), k ∈ l → k ≤ l.sum
  | [], h => nomatch h
  | x :: l, h => by
    rw [List.sum_cons]
    rcases List.mem_cons.mp h with e | h
    · omega
    · have := mem_le_sum l h; omega
theorem split_mem (x y : Str) : ∀ p ∈ Txt.split x y, p.length ≤ x.length := by
  rcases split_parts x y with h | h
  · rw [h]; intro p hp; rw [List.mem_singleton.mp hp]; exact Nat.le_refl _
  · rw [h]
    intro p hp
    have h1 := StrLaws.glued_between_self x y (x.length + 1)
    have h2 := size_glued y (partsBetween x (occurrences x y 0 x.length (x.length + 1)) y.length)
    rw [h1] at h2
    have h3 := mem_le_sum _ (List.mem_map.mpr ⟨p, hp, rfl⟩ : p.length ∈ (partsBetween x (occurrences x y 0 x.length (x.length + 1)) y.length).map (·.length))
    omega
theorem lpick_mem {α : Type} {xs : List α} {lo hi : Option Int} {a : α} (h : a ∈ lpick xs lo hi) : a ∈ xs := by
  unfold lpick at h
  obtain ⟨i, _, hi⟩ := List.mem_filterMap.mp h
  exact List.mem_of_getElem? hi
theorem lpick_len {α : Type} (xs : List α) (hi : Int) : (lpick xs none (some hi)).length ≤ xs.length := by
  unfold lpick
  refine Nat.le_trans (List.length_filterMap_le _ _) ?_
  have := sliceIndices_le none (some hi) xs.length
  exact this
theorem mul_01 (c : Str) (n : Nat) : MulOk c ((n % 2 : Nat) : Int) := by
  rcases Nat.mod_two_eq_zero_or_one n with h | h <;> rw [h]
  · exact ⟨by decide, fun h => absurd (by decide) h, fun h => absurd (by decide) h⟩
  · exact ⟨by decide, fun _ h => by simp at h, fun _ h => by simp at h⟩
theorem str_len_app (a b : Str) : (a ++ b).length = a.length + b.length := by
  show (a.cps ++ b.cps).size = _
  rw [Array.size_append]; rfl
theorem fmod2 (n : Nat) : ((n : Int).fmod 2) = ((n % 2 : Nat) : Int) := by
  rw [Int.fmod_eq_emod_of_nonneg _ (by decide)]; omega
theorem toB_size (x : Str) : (toB x).size = x.length := by unfold toB; rw [Array.size_map]; rfl
theorem sendF_len (x : Str) : (sendF x).length ≤ 2 * x.length := by
  have := stuffB_size (toB x)
  rw [toB_size] at this
  show ((stuffB (toB x)).map (·.toNat)).size ≤ _
  rw [Array.size_map]; exact this
section
variable {prog : Program} {w : World} {A : Around} {env : Env} {O : List Addr} {s : Shared} {d : D}

theorem Ev.callFn {x : Str} {np pos : Pos} {e : Expr} {es : List Expr} {a : Addr} {nm : Str} {params : Arguments} {body : List Stmt} {scope : Scope} {ds : List D} (hf : EvV prog w A env s (.Name x np) (.ref a)) (ha : Evs prog w A env O s (e :: es) ds)
    (hfn : FnAt s.heap a nm params body scope) (hc : CallTo prog w A O s (.ref a) ds d) (he : starEach (e :: es) env = (false, eval e env) :: starEach es env := by rfl) : Ev prog w A env O s (.Call (.Name x np) (e :: es) [] pos) d := by
  obtain ⟨o, pm, cd, doc, ho, hd, _⟩ := hfn
  exact Ev.callF hf ha ho hd hc he
end
end Mine

namespace Mine
open PySem PySem.Calls PySem.Builtin.Str

/-- a text by its signs -/
def S (l : List Nat) : Str := ⟨l.toArray⟩
theorem S_self (x : Str) : S x.cps.toList = x := by obtain ⟨⟨l⟩⟩ := x; rfl
theorem S_list (l : List Nat) : (S l).cps.toList = l := rfl
theorem S_app (a b : List Nat) : S a ++ S b = S (a ++ b) := by
  apply Str.ext'
  show a.toArray ++ b.toArray = (a ++ b).toArray
  simp
theorem S_len (l : List Nat) : (S l).length = l.length := by show l.toArray.size = _; simp
theorem S_inj {a b : List Nat} (h : S a = S b) : a = b := by
  have := congrArg (fun x : Str => x.cps.toList) h
  exact this
theorem S_ne {a b : List Nat} : (S a != S b) = (a != b) := by
  unfold bne
  congr 1
  rw [Bool.eq_iff_iff, beq_iff_eq, beq_iff_eq]
  exact ⟨S_inj, fun h => by rw [h]⟩
theorem S_eq {a b : List Nat} : (S a == S b) = (a == b) := by
  rw [Bool.eq_iff_iff, beq_iff_eq, beq_iff_eq]
  exact ⟨S_inj, fun h => by rw [h]⟩
theorem S_nil : Str.ofString "" = S [] := by kernel_rfl
theorem S_asc {l : List Nat} : Asc (S l) ↔ ∀ c ∈ l, c < 128 := Iff.rfl

theorem slice_eq (x : Str) (l u : Option Int) : Txt.slice x l u = StrLaws.sliceText x l u := rfl
theorem slice_to (l : List Nat) {n : Nat} (h : n ≤ l.length) : Txt.slice (S l) none (some (n : Int)) = S (l.take n) := by
  rw [slice_eq, StrLaws.sliceText_to ⟨by omega, by rw [S_list]; omega⟩, S_list]
  simp [S]
theorem slice_from (l : List Nat) {n : Nat} (h : n ≤ l.length) : Txt.slice (S l) (some (n : Int)) none = S (l.drop n) := by
  rw [slice_eq, StrLaws.sliceText_from ⟨by omega, by rw [S_list]; omega⟩, S_list]
  rw [Int.toNat_natCast, List.take_of_length_le (by rw [List.length_drop]; omega)]
  rfl
theorem slice_mid (l : List Nat) {m n : Nat} (hm : m ≤ n) (h : n ≤ l.length) : Txt.slice (S l) (some (m : Int)) (some (n : Int)) = S ((l.drop m).take (n - m)) := by
  rw [slice_eq, StrLaws.sliceText_nat _ hm (by rw [S_len]; exact h), S_list]
  rfl
theorem glued_S (ls : List (List Nat)) : glued (Str.ofString "") (ls.map S) = S ls.flatten := by
  rw [StrLaws.glued_eq_join]
  have key : ∀ (ls : List (List Nat)), Str.join (S []) (ls.map S) = S ls.flatten := by
    intro ls
    induction ls with
    | nil => rfl
    | cons a r ih =>
      cases r with
      | nil => show S a = _; simp
      | cons b r =>
        show S a ++ S [] ++ Str.join (S []) ((b :: r).map S) = _
        rw [ih, S_app, S_app]
        simp
  rw [S_nil]; exact key ls
theorem mul_S (c : Nat) (n : Nat) : Txt.mul (S [c]) (n : Int) = S (List.replicate n c) := by
  unfold Txt.mul
  by_cases h0 : (n : Int) < 1
  · have : n = 0 := by omega
    subst this
    rw [if_pos h0]; rfl
  · rw [if_neg h0]
    by_cases h1 : n = 1
    · subst h1; rfl
    · have hl : ((S [c]).length == 0) = false := by rfl
      have h1' : ((n : Int) == 1) = false := by simpa using (by omega : ¬ (n : Int) = 1)
      rw [hl, h1', if_neg (by simp)]
      have key : ∀ (n : Nat) (a : Array Nat), (List.replicate n (S [c]).cps).foldl (· ++ ·) a = a ++ (List.replicate n c).toArray := by
        intro n
        induction n with
        | zero => intro a; simp
        | succ n ih =>
          intro a
          rw [List.replicate_succ, List.foldl_cons, ih]
          apply Array.toList_inj.mp
          simp [S, List.replicate_succ]
      rw [Int.toNat_natCast, key]
      simp [S]
theorem mul_S0 (c : Nat) (n : Nat) : Txt.mul (S [c]) (n : Int) = S (List.replicate n c) := mul_S c n

theorem contains_S (l : List Nat) (c : Nat) : Txt.contains (S l) (S [c]) = decide (c ∈ l) := StrLaws.found_one (S l) c

theorem lstrip_S (l : List Nat) (c : Nat) : Txt.lstripChars (S l) (S [c]) = S (l.dropWhile (· == c)) := by
  unfold Txt.lstripChars Txt.stripBy
  have hp : (S [c]).cps.contains = (fun y => y == c) := by
    funext y
    show (#[c] : Array Nat).contains y = _
    simp
    exact Bool.beq_eq_decide_eq y c
  rw [hp]
  have hlo : stripLo (fun y => y == c) true (S l) = (l.takeWhile (fun y => y == c)).length := by
    unfold stripLo; rw [if_pos rfl, S_list]
  have hhi : ∀ n, stripHi (fun y => y == c) false (S l) n = l.length := fun n => by
    unfold stripHi; rw [if_neg (by simp), S_len]
  have hd : ∀ (l : List Nat) (p : Nat → Bool), l.dropWhile p = l.drop (l.takeWhile p).length := by
    intro l p
    induction l with
    | nil => rfl
    | cons a r ih =>
      rw [List.dropWhile_cons, List.takeWhile_cons]
      split
      · rw [List.length_cons, List.drop_succ_cons]; exact ih
      · rfl
  split
  · rename_i h
    unfold stripSame at h
    rw [Bool.and_eq_true, beq_iff_eq, hlo] at h
    rw [hd, h.1, List.drop_zero]
  · unfold stripped
    rw [hhi, hlo, hd]
    apply Str.ext'
    apply Array.toList_inj.mp
    rw [StrLaws.strSub_toList, S_list, S_list, List.take_of_length_le (by rw [List.length_drop]; exact Nat.le_refl _)]

/-- lines -/
def unlines (ps : List (List Nat)) (q : List Nat) : List Nat := (ps.map (· ++ [10])).flatten ++ q
theorem unlines_cons (p : List Nat) (ps : List (List Nat)) (q : List Nat) : unlines (p :: ps) q = p ++ 10 :: unlines ps q := by simp [unlines]
theorem join_lines (ps : List (List Nat)) (q : List Nat) : Str.join (S [10]) ((ps ++ [q]).map S) = S (unlines ps q) := by
  induction ps with
  | nil => show S q = _; simp [unlines]
  | cons p ps ih =>
    rw [unlines_cons]
    have : ∃ a r, (ps ++ [q]).map S = a :: r := by cases ps with | nil => exact ⟨_, _, rfl⟩ | cons _ _ => exact ⟨_, _, rfl⟩
    obtain ⟨a, r, e⟩ := this
    show Str.join (S [10]) (S p :: (ps ++ [q]).map S) = _
    rw [e] at ih ⊢
    show S p ++ S [10] ++ Str.join (S [10]) (a :: r) = _
    rw [ih, S_app, S_app]
    simp
theorem span_line {a b : List Nat} {r t : List Nat} (ha : 10 ∉ a) (hb : 10 ∉ b) (h : a ++ 10 :: r = b ++ 10 :: t) : a = b ∧ r = t := by
  induction a generalizing b with
  | nil =>
    cases b with
    | nil => simp at h; exact ⟨rfl, h⟩
    | cons c b => simp at h; exact absurd (h.1 ▸ List.mem_cons_self ..) hb
  | cons c a ih =>
    cases b with
    | nil => simp at h; exact absurd (h.1 ▸ List.mem_cons_self ..) ha
    | cons d b =>
      simp only [List.cons_append, List.cons.injEq] at h
      obtain ⟨e1, e2⟩ := ih (fun hm => ha (List.mem_cons_of_mem _ hm)) (fun hm => hb (List.mem_cons_of_mem _ hm)) h.2
      exact ⟨by rw [h.1, e1], e2⟩
theorem unlines_inj : ∀ (ps qs : List (List Nat)) (p q : List Nat), (∀ x ∈ ps, 10 ∉ x) → (∀ x ∈ qs, 10 ∉ x) → 10 ∉ p → 10 ∉ q → unlines ps p = unlines qs q → ps = qs ∧ p = q
  | [], [], p, q, _, _, _, _, h => ⟨rfl, by simpa [unlines] using h⟩
  | [], b :: qs, p, q, _, _, hp, _, h => by
    rw [unlines_cons] at h
    exact absurd (by rw [show p = unlines [] p by simp [unlines], h]; simp) hp
  | a :: ps, [], p, q, _, _, _, hq, h => by
    rw [unlines_cons] at h
    exact absurd (by rw [show q = unlines [] q by simp [unlines], ← h]; simp) hq
  | a :: ps, b :: qs, p, q, h1, h2, hp, hq, h => by
    rw [unlines_cons, unlines_cons] at h
    obtain ⟨e1, e2⟩ := span_line (h1 a (List.mem_cons_self ..)) (h2 b (List.mem_cons_self ..)) h
    obtain ⟨e3, e4⟩ := unlines_inj ps qs p q (fun x hx => h1 x (List.mem_cons_of_mem _ hx)) (fun x hx => h2 x (List.mem_cons_of_mem _ hx)) hp hq e2
    exact ⟨by rw [e1, e3], e4⟩
theorem snoc_of {α : Type} {l : List α} (h : l ≠ []) : ∃ ps p, l = ps ++ [p] := ⟨l.dropLast, l.getLast h, (List.dropLast_concat_getLast h).symm⟩
theorem split_ne (x y : Str) : Txt.split x y ≠ [] := by
  rcases split_parts x y with h | h
  · rw [h]; simp
  · rw [h]
    unfold partsBetween
    intro e
    have := congrArg List.length e
    simp at this
theorem split_S {ps : List (List Nat)} {q : List Nat} (h : ∀ x ∈ ps, 10 ∉ x) (hq : 10 ∉ q) : Txt.split (S (unlines ps q)) (S [10]) = (ps ++ [q]).map S := by
  obtain ⟨xs, x, e⟩ := snoc_of (split_ne (S (unlines ps q)) (S [10]))
  have h1 := StrLaws.join_split (S (unlines ps q)) (S [10])
  have h2 := StrLaws.split_free (S (unlines ps q)) 10
  have h2' : ∀ p ∈ Txt.split (S (unlines ps q)) (S [10]), 10 ∉ p.cps.toList := h2
  rw [e] at h1 h2' ⊢
  have e2 : (xs ++ [x]) = ((xs.map fun y : Str => y.cps.toList) ++ [x.cps.toList]).map S := by
    rw [List.map_append, List.map_map]
    have : (S ∘ fun y : Str => y.cps.toList) = _root_.id := by funext y; exact S_self y
    rw [this, List.map_id]; simp [S_self]
  rw [e2, join_lines] at h1
  have h3 := S_inj h1
  obtain ⟨e3, e4⟩ := unlines_inj _ _ _ _ (fun y hy => by
    obtain ⟨z, hz, rfl⟩ := List.mem_map.mp hy
    exact h2' z (List.mem_append.mpr (.inl hz))) h (h2' x (by simp)) hq h3
  rw [e2, e3, e4]

theorem lpick_init {α : Type} (xs : List α) : lpick xs none (some (-1)) = xs.dropLast := by
  unfold lpick sliceBounds
  simp only [Option.getD_none]
  have e : (sliceRange (if (1 : Int) > 0 then 0 else (xs.length : Int) - 1) (if (1 : Int) > 0 then max 0 (min (if (-1 : Int) < 0 then -1 + (xs.length : Int) else -1) xs.length) else max (-1) (min (if (-1 : Int) < 0 then -1 + (xs.length : Int) else -1) ((xs.length : Int) - 1))) 1) = List.range (xs.length - 1) := by
    unfold sliceRange
    simp only [show (1 : Int) > 0 by decide, if_true, show (-1 : Int) < 0 by decide]
    by_cases h : xs.length ≤ 1
    · have e1 : xs.length - 1 = 0 := by omega
      rw [if_neg (by omega), e1]; rfl
    · rw [if_pos (by omega)]
      have e1 : ((max 0 (min (-1 + (xs.length : Int)) xs.length) - 0 + 1 - 1) / 1).toNat = xs.length - 1 := by omega
      rw [e1]
      conv => rhs; rw [← List.map_id (List.range (xs.length - 1))]
      congr 1
      funext k
      show (0 + 1 * (k : Int)).toNat = k
      omega
  rw [e]
  have := StrLaws.picks xs (xs.length - 1) 0 (by omega)
  rw [List.drop_zero] at this
  rw [List.dropLast_eq_take, ← this]
  congr 1
  simp

theorem lpick_to {α : Type} (xs : List α) {n : Nat} (h : n ≤ xs.length) : lpick xs none (some (n : Int)) = xs.take n := by
  unfold lpick sliceBounds
  simp only [Option.getD_none]
  have e : (sliceRange (if (1 : Int) > 0 then 0 else (xs.length : Int) - 1) (if (1 : Int) > 0 then max 0 (min (if (n : Int) < 0 then (n : Int) + (xs.length : Int) else (n : Int)) xs.length) else max (-1) (min (if (n : Int) < 0 then (n : Int) + (xs.length : Int) else (n : Int)) ((xs.length : Int) - 1))) 1) = List.range n := by
    unfold sliceRange
    simp only [show (1 : Int) > 0 by decide, if_true, show ¬ (n : Int) < 0 by omega, if_false]
    by_cases h0 : n = 0
    · subst h0
      rw [if_neg (by omega)]; rfl
    · rw [if_pos (by omega)]
      have e1 : ((max 0 (min (n : Int) xs.length) - 0 + 1 - 1) / 1).toNat = n := by omega
      rw [e1]
      conv => rhs; rw [← List.map_id (List.range n)]
      congr 1
      funext k
      show (0 + 1 * (k : Int)).toNat = k
      omega
  rw [e]
  have := StrLaws.picks xs n 0 (by omega)
  rw [List.drop_zero] at this
  rw [← this]
  congr 1
  simp
theorem lpick_from1 {α : Type} (xs : List α) (h : 1 ≤ xs.length) : lpick xs (some 1) none = xs.drop 1 := by
  unfold lpick sliceBounds
  simp only [Option.getD_none]
  have e : (sliceRange (if (1 : Int) > 0 then max 0 (min (if (1 : Int) < 0 then 1 + (xs.length : Int) else 1) xs.length) else max (-1) (min (if (1 : Int) < 0 then 1 + (xs.length : Int) else 1) ((xs.length : Int) - 1))) (if (1 : Int) > 0 then (xs.length : Int) else -1) 1) = (List.range (xs.length - 1)).map (fun k => 1 + k) := by
    unfold sliceRange
    simp only [show (1 : Int) > 0 by decide, if_true, show ¬ (1 : Int) < 0 by decide, if_false]
    have e0 : max (0 : Int) (min 1 xs.length) = 1 := by omega
    rw [e0]
    by_cases h0 : xs.length = 1
    · rw [if_neg (by omega), h0]; rfl
    · rw [if_pos (by omega)]
      have e1 : (((xs.length : Int) - 1 + 1 - 1) / 1).toNat = xs.length - 1 := by omega
      rw [e1]
      congr 1
      funext k
      show (1 + 1 * (k : Int)).toNat = 1 + k
      omega
  rw [e, StrLaws.picks xs (xs.length - 1) 1 (by omega)]
  rw [List.take_of_length_le (by rw [List.length_drop]; exact Nat.le_refl _)]
end Mine

namespace Mine
open PySem PySem.Calls PySem.Builtin.Str

/-- a dot more, if a line begins with one -/
def bump : List Nat → List Nat
  | [] => []
  | c :: r => if c == 46 then 46 :: c :: r else c :: r

theorem bump_cons (c : Nat) (r : List Nat) : bump (c :: r) = if (c == 46) = true then 46 :: c :: r else c :: r := rfl
theorem stuff_in : ∀ (l r : List Nat), 10 ∉ l → stuffN false (l ++ 10 :: r) = l ++ 10 :: stuffN true r
  | [], r, _ => by
    show stuffN false (10 :: r) = _
    rw [stuffN_cons]; rfl
  | c :: l, r, h => by
    have hc : (c == 10) = false := by
      have : c ≠ 10 := fun e => h (e ▸ List.mem_cons_self ..)
      simpa using this
    rw [List.cons_append, stuffN_cons, hc, stuff_in l r fun hm => h (List.mem_cons_of_mem _ hm)]
    rfl
theorem stuff_line (l r : List Nat) (h : 10 ∉ l) : stuffN true (l ++ 10 :: r) = bump l ++ 10 :: stuffN true r := by
  cases l with
  | nil => show stuffN true (10 :: r) = _; rw [stuffN_cons]; rfl
  | cons c l =>
    have hl : 10 ∉ l := fun hm => h (List.mem_cons_of_mem _ hm)
    rw [List.cons_append, stuffN_cons, bump_cons]
    by_cases hc : c = 46
    · subst hc
      rw [if_pos (by rfl), if_pos (by rfl), stuff_in l r hl]; rfl
    · have hc' : (c == 46) = false := by simpa using hc
      have h10 : (c == 10) = false := by
        have : c ≠ 10 := fun e => h (e ▸ List.mem_cons_self ..)
        simpa using this
      rw [hc', if_neg (by simp), if_neg (by simp), h10, stuff_in l r hl]; rfl
theorem stuff_out : ∀ (l : List Nat), 10 ∉ l → stuffN false l = l
  | [], _ => rfl
  | c :: l, h => by
    have hc : (c == 10) = false := by
      have : c ≠ 10 := fun e => h (e ▸ List.mem_cons_self ..)
      simpa using this
    rw [stuffN_cons, hc, stuff_out l fun hm => h (List.mem_cons_of_mem _ hm)]; rfl
theorem stuff_last (l : List Nat) (h : 10 ∉ l) : stuffN true l = bump l := by
  cases l with
  | nil => rfl
  | cons c l =>
    have hl : 10 ∉ l := fun hm => h (List.mem_cons_of_mem _ hm)
    rw [stuffN_cons, bump_cons]
    by_cases hc : c = 46
    · subst hc
      rw [if_pos (by rfl), if_pos (by rfl), stuff_out l hl]
    · have hc' : (c == 46) = false := by simpa using hc
      have h10 : (c == 10) = false := by
        have : c ≠ 10 := fun e => h (e ▸ List.mem_cons_self ..)
        simpa using this
      rw [hc', if_neg (by simp), if_neg (by simp), h10, stuff_out l hl]
theorem stuff_unlines : ∀ (ps : List (List Nat)) (q : List Nat), (∀ x ∈ ps, 10 ∉ x) → 10 ∉ q → stuffN true (unlines ps q) = unlines (ps.map bump) (bump q)
  | [], q, _, hq => by
    show stuffN true ([] ++ q) = [] ++ bump q
    rw [List.nil_append, List.nil_append, stuff_last q hq]
  | p :: ps, q, h, hq => by
    rw [unlines_cons, stuff_line _ _ (h p (List.mem_cons_self ..)), stuff_unlines ps q (fun x hx => h x (List.mem_cons_of_mem _ hx)) hq, List.map_cons, unlines_cons]
theorem bump_no {l : List Nat} (h : 10 ∉ l) : 10 ∉ bump l := by
  cases l with
  | nil => exact h
  | cons c l =>
    rw [bump_cons]
    split
    · intro hm
      rcases List.mem_cons.mp hm with e | hm
      · cases e
      · exact h hm
    · exact h

theorem sendF_S {l : List Nat} (h : ∀ c ∈ l, c < 128) : sendF (S l) = S (stuffN true l) := sendF_cps (x := S l) h

/-- a row by its signs ahead of the feed -/
def rowS (l : List Nat) : Str := S (l ++ [10])
theorem rows_glued (ls : List (List Nat)) : glued (Str.ofString "") (ls.map rowS) = S (unlines ls []) := by
  have : ls.map rowS = (ls.map (· ++ [10])).map S := by rw [List.map_map]; rfl
  rw [this, glued_S]; simp [unlines]
theorem unlines_app (ps qs : List (List Nat)) (q : List Nat) : unlines (ps ++ qs) q = unlines ps [] ++ unlines qs q := by simp [unlines]
theorem unlines_last (ps : List (List Nat)) (q : List Nat) : unlines ps q ++ [10] = unlines (ps ++ [q]) [] := by simp [unlines]

/-- stripping -/
def quiet : Bool → List Nat → Bool
  | b, [] => !b
  | true, _ :: r => quiet false r
  | false, c :: r => if c == 92 then quiet true r else c != 34 && quiet false r
def calm : Bool → List Nat → Bool
  | _, [] => true
  | true, _ :: r => calm false r
  | false, c :: r => if c == 92 then calm true r else c != 34 && calm false r

theorem step_no_q (x : Str) (st : StS) (i : Nat) (l : List Nat) (h : l ≠ [34]) : stepS x st (i, l) = st := by
  unfold stepS
  rw [if_neg (by simpa using h)]
theorem fold_quiet (x : Str) : ∀ (l : List Nat) (b : Bool) (i : Nat) (m : List Nat) (st : StS), quiet b l = true → (escs i (l ++ m) b).foldl (stepS x) st = (escs (i + l.length) m false).foldl (stepS x) st
  | [], b, i, m, st, h => by
    have : b = false := by simpa [quiet] using h
    subst this; rfl
  | c :: r, true, i, m, st, h => by
    rw [List.cons_append, escs, List.foldl_cons, step_no_q x st i _ (by simp), fold_quiet x r false (i + 1) m st h]
    rw [List.length_cons]; congr 2; omega
  | c :: r, false, i, m, st, h => by
    rw [List.cons_append, escs]
    unfold quiet at h
    have e : i + (c :: r).length = i + 1 + r.length := by rw [List.length_cons]; omega
    rw [e]
    by_cases hc : (c == 92) = true
    · rw [if_pos hc] at h ⊢
      exact fold_quiet x r true (i + 1) m st h
    · rw [if_neg hc] at h ⊢
      rw [Bool.and_eq_true] at h
      have h34 : c ≠ 34 := by simpa using h.1
      rw [List.foldl_cons, step_no_q x st i _ (by simpa using h34)]
      exact fold_quiet x r false (i + 1) m st h.2
theorem fold_calm (x : Str) : ∀ (l : List Nat) (b : Bool) (i : Nat) (st : StS), calm b l = true → (escs i l b).foldl (stepS x) st = st
  | [], true, i, st, _ => by
    show stepS x st (i - 1, [92]) = st
    exact step_no_q x st _ _ (by simp)
  | [], false, i, st, _ => rfl
  | c :: r, true, i, st, h => by
    rw [escs, List.foldl_cons, step_no_q x st i _ (by simp)]
    exact fold_calm x r false (i + 1) st h
  | c :: r, false, i, st, h => by
    rw [escs]
    unfold calm at h
    by_cases hc : (c == 92) = true
    · rw [if_pos hc] at h ⊢
      exact fold_calm x r true (i + 1) st h
    · rw [if_neg hc] at h ⊢
      rw [Bool.and_eq_true] at h
      have h34 : c ≠ 34 := by simpa using h.1
      rw [List.foldl_cons, step_no_q x st i _ (by simpa using h34)]
      exact fold_calm x r false (i + 1) st h.2
theorem fold_mark (x : Str) (i : Nat) (m : List Nat) (st : StS) : (escs i (34 :: m) false).foldl (stepS x) st = (escs (i + 1) m false).foldl (stepS x) (stepS x st (i, [34])) := by
  rw [escs, if_neg (by decide), List.foldl_cons]

/-- what stands outside and what stands between marks -/
def pairT (ps : List (List Nat × List Nat)) : List Nat := (ps.map fun p => p.1 ++ 34 :: (p.2 ++ [34])).flatten
def outT (ps : List (List Nat × List Nat)) : List Nat := (ps.map (·.1)).flatten
def QuietP (ps : List (List Nat × List Nat)) : Prop := ∀ p ∈ ps, quiet false p.1 = true ∧ quiet false p.2 = true
theorem pairT_cons (p : List Nat × List Nat) (ps : List (List Nat × List Nat)) : pairT (p :: ps) = p.1 ++ 34 :: (p.2 ++ 34 :: pairT ps) := by simp [pairT]
theorem pairT_app (ps qs : List (List Nat × List Nat)) : pairT (ps ++ qs) = pairT ps ++ pairT qs := by simp [pairT]
theorem outT_app (ps qs : List (List Nat × List Nat)) : outT (ps ++ qs) = outT ps ++ outT qs := by simp [outT]

theorem fold_pairs (m : List Nat) : ∀ (ps : List (List Nat × List Nat)) (pre : List Nat) (res : List Str), QuietP ps →
    ∃ more : List (List Nat), more.flatten = outT ps ∧
      (escs pre.length (pairT ps ++ m) false).foldl (stepS (S (pre ++ (pairT ps ++ m)))) ⟨pre.length, none, res⟩ =
      (escs (pre.length + (pairT ps).length) m false).foldl (stepS (S (pre ++ (pairT ps ++ m)))) ⟨pre.length + (pairT ps).length, none, res ++ more.map S⟩
  | [], pre, res, _ => ⟨[], rfl, by simp [pairT]⟩
  | (o, q) :: ps, pre, res, h => by
    obtain ⟨ho, hq⟩ := h (o, q) (List.mem_cons_self ..)
    rw [pairT_cons]
    have ex : pre ++ (o ++ 34 :: (q ++ 34 :: pairT ps) ++ m) = (pre ++ (o ++ 34 :: (q ++ [34]))) ++ (pairT ps ++ m) := by simp
    have ey : o ++ 34 :: (q ++ 34 :: pairT ps) ++ m = o ++ 34 :: (q ++ 34 :: (pairT ps ++ m)) := by simp
    have hl : (pre ++ (o ++ 34 :: (q ++ [34]))).length = pre.length + o.length + 1 + q.length + 1 := by simp; omega
    generalize hX : S (pre ++ (o ++ 34 :: (q ++ 34 :: pairT ps) ++ m)) = X
    rw [ey, fold_quiet X o false _ _ _ ho, fold_mark, fold_quiet X q false _ _ _ hq, fold_mark]
    have e1 : stepS X ⟨pre.length, none, res⟩ (pre.length + o.length, [34]) = ⟨pre.length, some (pre.length + o.length), res⟩ := rfl
    have e2 : stepS X ⟨pre.length, some (pre.length + o.length), res⟩ (pre.length + o.length + 1 + q.length, [34]) = ⟨pre.length + o.length + 1 + q.length + 1, none, res ++ (if o = [] then [] else [o]).map S⟩ := by
      show StS.mk _ _ (if (pre.length == pre.length + o.length) = true then res else res ++ [Txt.slice X (some ((pre.length : Nat) : Int)) (some ((pre.length + o.length : Nat) : Int))]) = _
      congr 1
      by_cases he : o = []
      · subst he; rw [if_pos (by simp), if_pos rfl]; simp
      · have hne : o.length ≠ 0 := by simpa using he
        rw [if_neg (by simpa using he), if_neg he, ← hX, slice_mid _ (by omega) (by simp)]
        congr 2
        rw [List.drop_left]
        simp
    rw [e1, e2]
    obtain ⟨more, hm, hf⟩ := fold_pairs m ps (pre ++ (o ++ 34 :: (q ++ [34]))) (res ++ (if o = [] then [] else [o]).map S) (fun p hp => h p (List.mem_cons_of_mem _ hp))
    refine ⟨(if o = [] then [] else [o]) ++ more, ?_, ?_⟩
    · rw [List.flatten_append, hm]
      by_cases he : o = []
      · subst he; simp [outT]
      · rw [if_neg he]; simp [outT]
    · rw [← ex, hX, hl] at hf
      rw [hf]
      have e3 : pre.length + (o ++ 34 :: (q ++ 34 :: pairT ps)).length = pre.length + o.length + 1 + q.length + 1 + (pairT ps).length := by simp; omega
      rw [e3, List.map_append, List.append_assoc]

def TailOk (t : List Nat) : Prop := calm false t = true ∨ ∃ r, t = 34 :: r ∧ calm false r = true
theorem strip_S (ps : List (List Nat × List Nat)) (t : List Nat) (h : QuietP ps) (ht : TailOk t) : stripS (S (pairT ps ++ t)) = S (outT ps ++ t) := by
  obtain ⟨more, hm, hf⟩ := fold_pairs t ps [] [] h
  rw [List.nil_append, List.length_nil, List.nil_append, Nat.zero_add] at hf
  have hrun : ∃ op, runS (S (pairT ps ++ t)) = ⟨(pairT ps).length, op, more.map S⟩ := by
    unfold runS
    rw [S_list]
    rcases ht with hc | ⟨r, rfl, hc⟩
    · exact ⟨none, hf.trans (fold_calm _ _ _ _ _ hc)⟩
    · refine ⟨some (pairT ps).length, hf.trans ?_⟩
      rw [fold_mark]
      exact fold_calm _ _ _ _ _ hc
  obtain ⟨op, hr⟩ := hrun
  unfold stripS
  rw [show (Str.ofString "\"") = S [34] by kernel_rfl, contains_S]
  by_cases hin : 34 ∈ pairT ps ++ t
  · rw [if_pos (by simpa using hin)]
    unfold resS
    rw [hr, S_len]
    dsimp only
    have e : glued (Str.ofString "") ((more ++ [t]).map S) = S (outT ps ++ t) := by
      rw [glued_S, List.flatten_append, hm]; simp
    by_cases hl : (pairT ps).length < (pairT ps ++ t).length
    · rw [if_pos hl, slice_from _ (by rw [List.length_append]; omega), List.drop_left]
      rw [List.map_append] at e
      exact e
    · rw [if_neg hl]
      have : t = [] := by
        rw [List.length_append] at hl
        exact List.eq_nil_of_length_eq_zero (by omega)
      subst this
      have e2 := glued_S more
      rw [hm] at e2
      rw [List.append_nil]
      exact e2
  · rw [if_neg (by simpa using hin)]
    have hps : ps = [] := by
      cases ps with
      | nil => rfl
      | cons p ps =>
        refine absurd ?_ hin
        rw [pairT_cons]; simp
    subst hps
    rfl
theorem quiet_app : ∀ (a c : List Nat) (b : Bool), quiet b a = true → quiet false c = true → quiet b (a ++ c) = true
  | [], c, b, h, hc => by
    have : b = false := by simpa [quiet] using h
    subst this; exact hc
  | x :: a, c, true, h, hc => quiet_app a c false h hc
  | x :: a, c, false, h, hc => by
    rw [List.cons_append]
    unfold quiet at h ⊢
    by_cases hx : (x == 92) = true
    · rw [if_pos hx] at h ⊢; exact quiet_app a c true h hc
    · rw [if_neg hx] at h ⊢
      rw [Bool.and_eq_true] at h ⊢
      exact ⟨h.1, quiet_app a c false h.2 hc⟩
theorem quiet_dots : ∀ n, quiet false (List.replicate n 46) = true
  | 0 => rfl
  | n + 1 => by
    rw [List.replicate_succ]
    unfold quiet
    rw [if_neg (by decide), quiet_dots n]; rfl
theorem calm_of_quiet : ∀ (a : List Nat) (b : Bool), quiet b a = true → calm b a = true
  | [], b, _ => by unfold calm; rfl
  | x :: a, true, h => calm_of_quiet a false h
  | x :: a, false, h => by
    unfold quiet at h
    unfold calm
    by_cases hx : (x == 92) = true
    · rw [if_pos hx] at h ⊢; exact calm_of_quiet a true h
    · rw [if_neg hx] at h ⊢
      rw [Bool.and_eq_true] at h ⊢
      exact ⟨h.1, calm_of_quiet a false h.2⟩
/-- nothing stands between marks -/
theorem strip_quiet (l : List Nat) (h : quiet false l = true) : stripS (S l) = S l := strip_S [] l (fun p hp => nomatch hp) (.inl (calm_of_quiet l false h))
end Mine

namespace Mine
open PySem PySem.Calls

section
variable {prog : Program} {w : World} {A : Around} {env : Env} {O : List Addr} {s : Shared}

theorem preSum_getD (ns : List Int) : ∀ j, preSum (fun i => ns.getD i 0) j = (ns.take j).sum
  | 0 => by simp [preSum]
  | j + 1 => by
    rw [preSum, preSum_getD ns j, List.take_add_one, List.getD_eq_getElem?_getD]
    cases h : ns[j]? with
    | none => simp
    | some x => simp
theorem ints_at {P : Addr → Obj → Prop} {vs : List Value} {ns : List Int} (r : Reps P vs (ns.map D.int)) {i : Nat} {v : Value} (h : vs[i]? = some v) : ∃ t, v = .int (ns.getD i 0) t := by
  obtain ⟨d, hd, rv⟩ := r.get h
  rw [List.getElem?_map] at hd
  cases hn : ns[i]? with
  | none => rw [hn] at hd; cases hd
  | some x =>
    rw [hn] at hd
    cases hd
    cases rv with
    | int _ t => exact ⟨t, by rw [List.getD_eq_getElem?_getD, hn]; rfl⟩

theorem call_sum_L {ns : List Int} (hh : A.handled = none) : CallTo prog w A O s (.builtin "sum") [.list (ns.map D.int)] (.int ns.sum) := fun s₁ g vs r Q hQ => by
  obtain ⟨v, rfl, h⟩ := one_dat r
  cases h with
  | @list l us n _ hl rl =>
    have hL : s₁.heap.IsList l us.toArray := ⟨_, hl.1, rfl, n, rfl⟩
    have hne : l ≠ s₁.heap.objs.size := Nat.ne_of_lt (Heap.lt_size hl.1)
    have hlen : us.toArray.size = ns.length := by have := rl.length; simpa using this
    refine call_sum_walkG (wpAny_pyIter_list hL ⟨_, _, _, _, _, _, fun i => ns.getD i 0, rfl, Walks.list (A := A.in1) hh _ l hne us.toArray, ⟨⟨_, Heap.get?_push_size _ rfl, rfl, rfl⟩, hL.push _⟩, fun b hb => ?_, fun i v hv => ints_at rl (by simpa using hv), fun h' tk t' hk => ?_⟩)
    · show b < (s₁.heap.push _).objs.size
      rw [Heap.size_push]
      rcases List.mem_cons.mp hb with e | hb
      · rw [e]; exact Nat.lt_succ_self _
      · rw [List.mem_singleton.mp hb]; exact Nat.lt_succ_of_lt (Heap.lt_size hl.1)
    · rw [preSum_getD, List.take_of_length_le (by rw [hlen]; exact Nat.le_refl _)]
      refine hQ _ _ (.keeps fun a o e => hk a o (fun hm => ?_) (Heap.get?_push_of_some _ e)) (.int _ _)
      rw [List.mem_singleton.mp hm] at e
      exact Nat.lt_irrefl _ (Heap.lt_size e)
theorem call_sum_T {ns : List Int} (hh : A.handled = none) : CallTo prog w A O s (.builtin "sum") [.tuple (ns.map D.int)] (.int ns.sum) := fun s₁ g vs r Q hQ => by
  obtain ⟨v, rfl, h⟩ := one_dat r
  cases h with
  | @tuple l us n _ hl rl =>
    have hL : s₁.heap.IsTuple l us.toArray := ⟨_, hl.1, rfl, n, rfl⟩
    have hne : l ≠ s₁.heap.objs.size := Nat.ne_of_lt (Heap.lt_size hl.1)
    have hlen : us.toArray.size = ns.length := by have := rl.length; simpa using this
    refine call_sum_walkG (wpAny_pyIter_tuple hL ⟨_, _, _, _, _, _, fun i => ns.getD i 0, rfl, Walks.tuple (A := A.in1) hh _ l hne us.toArray, ⟨⟨_, Heap.get?_push_size _ rfl, rfl, rfl⟩, hL.push _⟩, fun b hb => ?_, fun i v hv => ints_at rl (by simpa using hv), fun h' tk t' hk => ?_⟩)
    · show b < (s₁.heap.push _).objs.size
      rw [Heap.size_push]
      rcases List.mem_cons.mp hb with e | hb
      · rw [e]; exact Nat.lt_succ_self _
      · rw [List.mem_singleton.mp hb]; exact Nat.lt_succ_of_lt (Heap.lt_size hl.1)
    · rw [preSum_getD, List.take_of_length_le (by rw [hlen]; exact Nat.le_refl _)]
      refine hQ _ _ (.keeps fun a o e => hk a o (fun hm => ?_) (Heap.get?_push_of_some _ e)) (.int _ _)
      rw [List.mem_singleton.mp hm] at e
      exact Nat.lt_irrefl _ (Heap.lt_size e)
theorem call_max2 {a b : Int} (hh : A.handled = none) : CallTo prog w A O s (.builtin "max") [.int a, .int b] (.int (max a b)) := fun s₁ g vs r Q hQ => by
  obtain ⟨u, v, rfl, h, h'⟩ := two_dat r
  cases h with
  | int _ t =>
  cases h' with
  | int _ t' =>
  refine max_two_ints hh fun h' tk hk => ?_
  have g₂ : Gr s₁ { s₁ with heap := h', toks := tk } := .keeps hk
  by_cases hba : b > a
  · rw [if_pos hba]
    have : max a b = b := by omega
    rw [this] at hQ
    exact hQ _ _ g₂ (.int _ _)
  · rw [if_neg hba]
    have : max a b = a := by omega
    rw [this] at hQ
    exact hQ _ _ g₂ (.int _ _)
end
end Mine

namespace Mine
open PySem PySem.Calls

section
variable {prog : Program} {w : World} {A : Around} {E : Value → Shared → Prop} {s : Shared}

/-- a plain list's item is laid anew -/
theorem setItem_plain {l : Addr} {vs : List Value} {n : Nat} {k : Int} {t : Tok} {v : Value} {Q : Unit → Shared → Prop} (ho : s.heap.get? l = some { cls := .type "list", data := .seq vs.toArray n }) (h0 : 0 ≤ k) (hf : k < 2 ^ 63) (hk : k < vs.length)
    (hQ : ∀ h', h'.PlainList l (vs.set k.toNat v).toArray → Heap.SameBut l s.heap h' → Q () { s with heap := h' }) : wpAny (model prog w) A (setItem (.ref l) (.int k t) v) Q E s := by
  have hl : s.heap.IsList l vs.toArray := ⟨_, ho, rfl, n, rfl⟩
  unfold setItem
  try with_reducible refine wpAny_holding ?_
  refine wpAny_bind (wpAny_sequenceKey hl.typeIs (by decide) ?_)
  refine wpAny_bind (wpAny_callSpecial?_slot (name := Str.ofString "__setitem__") hl.typeIs slot_list_setitem (wpAny_call_entry slot_list_setitem hl.typeIs entry_list_setitem ?_ (args_list_setitem _ _ _)))
  show wpAny _ _ (Builtin.List.listSubscript? (.int k t) >>= _) _ _ s
  refine wpAny_bind (wpAny_listSubscript_int (fitsIndex_of h0 hf) ?_)
  clear hf
  obtain ⟨j, rfl⟩ := Int.eq_ofNat_of_zero_le h0
  have hj : j < vs.length := by omega
  have e1 : vs.toArray.setIfInBounds j v = (vs.set j v).toArray := by simp
  show wpAny _ _ ((seqItemAt l j >>= fun r => pure (r.map (j, ·))) >>= _) _ _ s
  refine wpAny_bind (wpAny_bind (wpAny_seqItemAt ho rfl (wpAny_pure ?_)))
  rw [show vs.toArray[j]? = some vs[j] by simp [hj]]
  show wpAny _ _ (setSeqItemAt l j v >>= _) _ _ s
  have fin : (s.heap.update l (Obj.mapSeq (·.setIfInBounds j v))).PlainList l (vs.set j v).toArray := by
    exact ⟨_, (Heap.get?_update_self _ ho rfl).trans (congrArg (fun z => some ({ cls := .type "list", data := .seq z _ } : Obj)) e1)⟩
  refine wpAny_bind (wpAny_setSeqItemAt ho rfl ?_)
  first
    | exact wpAny_bind (wpAny_pure (wpAny_pure ⟨.none, rfl, wpAny_pure (hQ _ fin (Heap.SameBut.update ..))⟩))
    | exact wpAny_pure ⟨.none, rfl, wpAny_pure (hQ _ fin (Heap.SameBut.update ..))⟩

theorem draw_walk {It : Addr} {fp wr : List Addr} {N : Nat} {P : Nat → Value → Prop} {St : Nat → Heap → Prop} (W : Walks prog w A It fp wr N P St) (vs : List Value) (hN : N = vs.length) (hP : ∀ i v, P i v → vs[i]? = some v) :
    ∀ (n i : Nat) (s : Shared) (Q : List Value → Shared → Prop), St i s.heap → i + n ≤ N →
      (∀ h' tk, St (i + n) h' → (∀ b o, b ∉ wr → s.heap.get? b = some o → h'.get? b = some o) → Q ((vs.drop i).take n) { s with heap := h', toks := tk }) → wpAny (model prog w) A (draw (.ref It) n) Q E s
  | 0, i, s, Q, hst, _, hQ => wpAny_pure (hQ s.heap s.toks hst fun _ _ _ e => e)
  | n + 1, i, s, Q, hst, hle, hQ => by
    have hlt : i < vs.length := by omega
    show wpAny _ _ (pyNext (.ref It) >>= _) Q E s
    refine wpAny_bind (W.item i s _ _ (by omega) hst fun v h₁ tk₁ hPv hst₁ hk₁ => ?_)
    have hv := hP i v hPv
    have hve : vs[i] = v := by rw [List.getElem?_eq_getElem hlt] at hv; exact Option.some.inj hv
    refine wpAny_bind (wpAny_holding (draw_walk W vs hN hP n (i + 1) _ _ hst₁ (by omega) fun h₂ tk₂ hst₂ hk₂ => wpAny_pure ?_))
    have hd : (vs.drop i).take (n + 1) = v :: (vs.drop (i + 1)).take n := by
      rw [List.drop_eq_getElem_cons hlt, List.take_succ_cons, hve]
    rw [← hd]
    exact hQ h₂ tk₂ (by rw [show i + (n + 1) = i + 1 + n by omega]; exact hst₂) fun b o hb e => hk₂ b o hb (hk₁ b o hb e)

/-- a list is taken apart -/
theorem unpack_list {l : Addr} {vs : List Value} {targets : List (Bool × (Value → Sem Unit))} {Q : Unit → Shared → Prop} (hh : A.handled = none) (hl : s.heap.IsList l vs.toArray) (hn : targets.length = vs.length) (hstar : targets.findIdx? (·.1) = none)
    (h : ∀ h' tk, (∀ b o, s.heap.get? b = some o → h'.get? b = some o) → wpAny (model prog w) A (assignInOrder (targets.map (·.2)) vs) Q E { s with heap := h', toks := tk }) : wpAny (model prog w) A (unpack (.ref l) targets) Q E s := by
  have hlt : l < s.heap.objs.size := by obtain ⟨o, ho, _⟩ := hl; exact Heap.lt_size ho
  have W := Walks.list (prog := prog) (w := w) hh s.heap.objs.size l (Nat.ne_of_lt hlt) vs.toArray
  unfold unpack
  rw [hn, hstar]
  refine wpAny_bind (wpAny_holding ?_)
  unfold unpackItems
  refine wpAny_bind ?_
  unfold notIterableAtAll
  refine wpAny_bind (wpAny_specialOf hl.typeIs slot_list_iter.lookup ?_)
  refine wpAny_pure ?_
  simp only [Bool.false_eq_true, if_false]
  refine wpAny_bind (wpAny_holding (wpAny_pyIter_list hl ?_))
  refine wpAny_bind (wpAny_holding (draw_walk W vs (by simp) (fun i v h => by simpa using h) vs.length 0 _ _ ⟨⟨_, Heap.get?_push_size _ rfl, rfl, rfl⟩, hl.push _⟩ (by simp) fun h₁ tk₁ hst₁ hk₁ => ?_))
  rw [show (vs.drop 0).take vs.length = vs by simp]
  rw [if_neg (Nat.lt_irrefl _)]
  refine wpAny_bind (wpAny_holding (W.done _ _ _ (by simpa using hst₁) fun h₂ tk₂ hk₂ => ?_))
  simp only [Option.isSome_none, Bool.false_eq_true, if_false]
  refine wpAny_pure (h h₂ tk₂ fun b o e => ?_)
  have hb : b ∉ [s.heap.objs.size] := fun hm => by rw [List.mem_singleton.mp hm] at e; exact Nat.lt_irrefl _ (Heap.lt_size e)
  exact hk₂ b o hb (hk₁ b o hb (Heap.get?_push_of_some _ e))
end
end Mine

namespace Mine
open PySem PySem.Calls

section
variable {F : Fx} {s s' : Shared} {σ σ' : List (Str × Sl)} {μ : List (Addr × Wn)} {Q : Flow → Shared → Prop} {rest : List Stmt} {x y z : Str} {px py pz pt pos : Pos} {k : Nat} {e : Expr} {d : D}

theorem three_dat' {P : Addr → Obj → Prop} {vs : List Value} {d e f : D} (r : Reps P vs [d, e, f]) : ∃ u v x, vs = [u, v, x] ∧ Rep P u d ∧ Rep P v e ∧ Rep P x f := three_dat r

/-- x, y, z = e, e a list -/
theorem x_unpack3 {d₁ d₂ d₃ : D} (hh : F.A.handled = none) (I : Inv F s σ μ) (he : FEv F μ s e (.list [d₁, d₂, d₃])) (kk : ∀ s', Inv F s' ((z, .dat d₃) :: (y, .dat d₂) :: (x, .dat d₁) :: σ) μ → Ex F rest Q s') (hx : Bindable F x) (hy : Bindable F y) (hz : Bindable F z)
    (hs : swapsWithSole [.Tuple [.Name x px, .Name y py, .Name z pz] k pt] e pos.line F.env = pure false := by rfl) (hw : swappedStores [.Tuple [.Name x px, .Name y py, .Name z pz] k pt] e F.env = pure none := by rfl) :
    Ex F (.Assign [.Tuple [.Name x px, .Name y py, .Name z pz] k pt] e pos :: rest) Q s := by
  refine wpAny_execs_cons (PyProof.Rows.Assign_Tuple (he.now _ fun v s₁ g r => ?_) hs hw)
  have I₁ := I.gr g
  cases r with
  | @list l vs n _ hl rl =>
    obtain ⟨u₁, u₂, u₃, rfl, r₁, r₂, r₃⟩ := three_dat' rl
    rw [arm_assign_Tuple]
    refine wpAny_bind (wpAny_standAt (unpack_list (vs := [u₁, u₂, u₃]) hh ⟨_, hl.1, rfl, n, rfl⟩ rfl rfl fun h' tk hk => ?_))
    have g₂ : Gr s₁ { s₁ with heap := h', toks := tk } := .keeps hk
    have I₂ := I₁.gr g₂
    show wpAny _ _ (do holding [u₂, u₃] (assign (.Name x px) F.env u₁); do holding [u₃] (assign (.Name y py) F.env u₂); do holding [] (assign (.Name z pz) F.env u₃); pure ()) _ _ _
    have keep : ∀ {s₃ s₄ : Shared} {u : Value} {d : D}, (∀ a o, a ∉ F.own μ → s₃.heap.get? a = some o → s₄.heap.get? a = some o) → Rep (Fz (F.all μ) s₃.heap) u d → Rep (Fz (F.all μ) s₄.heap) u d := fun k r => r.mono fun a o x => ⟨k a o (fun hm => x.2 (List.mem_append.mpr (.inl hm))) x.1, x.2⟩
    refine wpAny_bind (wpAny_holding (wpAny_assign_Name (Inv.store I₂ (sl := .dat d₁) (g₂.rep r₁) (fun s₃ I₃ k₃ => ?_) hx)))
    refine wpAny_bind (wpAny_holding (wpAny_assign_Name (Inv.store I₃ (sl := .dat d₂) (keep k₃ (g₂.rep r₂)) (fun s₄ I₄ k₄ => ?_) hy)))
    exact wpAny_bind (wpAny_holding (wpAny_assign_Name (Inv.store I₄ (sl := .dat d₃) (keep k₄ (keep k₃ (g₂.rep r₃))) (fun s₅ I₅ k₅ => wpAny_pure (kk s₅ I₅)) hz)))

/-- x[i] += e, x a list of the frame's own -/
theorem x_augItem {i : Expr} {op : Operator} {a : Addr} {ds : List D} {μ₁ μ₂ : List (Addr × Wn)} {j : Int} {d₀ dr : D} {spos xp : Pos} (I : Inv F s σ μ) (hx : Look F.env s.heap x (.ref a)) (hμ : μ = μ₁ ++ (a, .lst ds) :: μ₂) (hi : FEv F μ s i (.int j)) (he : FEv F μ s e dr)
    (h0 : 0 ≤ j) (hf : j < 2 ^ 63) (hj : ds[j.toNat]? = some d₀) (hd₀ : d₀.scalar = true) (ho : Op2 F.prog F.w F.A (F.all μ) (inplaceOp op) d₀ dr d)
    (kk : ∀ s', Inv F s' σ (μ₁ ++ (a, .lst (ds.set j.toNat d)) :: μ₂) → Ex F rest Q s')
    (ha : ∀ ov iv new, augStore i ov iv new = (do holding [new, ov, iv] (setItem ov iv new); release [new, ov, iv] []; pure .next) := by intro _ _ _; rfl) (hd : (x == ("__debug__" : Str)) = false := by kernel_rfl) :
    Ex F (.AugAssign (.Subscript (.Name x xp) i spos) op e pos :: rest) Q s := by
  have hm : (a, Wn.lst ds) ∈ μ := by rw [hμ]; simp
  obtain ⟨vs, n, hobj, hr⟩ := I.muts a _ hm
  obtain ⟨u, hu, ru⟩ := Reps.get' hr hj
  have hjlt : j.toNat < vs.length := (List.getElem?_eq_some_iff.mp hu).1
  refine wpAny_execs_cons (PyProof.Rows.wpAny_AugAssign_Subscript_any (wpAny_Name (hx.load ?_) hd) ha)
  refine hi.now _ fun iv s₁ g₁ ri => ?_
  cases ri with
  | int _ ti =>
  have hL : s₁.heap.IsList a vs.toArray := ⟨_, g₁.heap _ _ hobj, rfl, n, rfl⟩
  refine wpAny_getItem_list hL h0 hf (by simpa using hu) ?_
  refine he s₁ g₁ _ fun v s₂ g₂ rv => ?_
  refine ho s₂ u v (I.gr (g₁.trans g₂)).liveAll (ru.scalar hd₀) rv _ fun nv s₃ g₃ rn => ?_
  have gg := g₁.trans (g₂.trans g₃)
  have I₃ := I.gr gg
  refine setItem_plain (gg.heap _ _ hobj) h0 hf (by omega) fun h' hl hsb => ?_
  obtain ⟨n', hl⟩ := hl
  refine kk _ (I₃.setList hμ hsb hl (w' := .lst (ds.set j.toNat d)) ?_)
  have hr₃ : Reps (Fz (F.all μ) s₃.heap) vs ds := gg.reps hr
  generalize j.toNat = jn at hjlt
  have key : ∀ (vs : List Value) (ds : List D) (jn : Nat), Reps (Fz (F.all μ) s₃.heap) vs ds → Reps (Fz (F.all μ) s₃.heap) (vs.set jn nv) (ds.set jn d) := by
    intro vs
    induction vs with
    | nil => intro ds jn h; cases h; exact .nil
    | cons v vs ih =>
      intro ds jn h
      cases h with
      | cons h r =>
        cases jn with
        | zero => exact .cons rn r
        | succ jn => exact .cons h (ih _ jn r)
  exact key vs ds jn hr₃

/-- an item of a list of the frame's own, as it is -/
theorem own_item {i : Expr} {xp sp : Pos} {T : Addr} {us : List Value} {n : Nat} {j : Int} {v : Value} (hx : Look F.env s.heap x (.ref T)) (hT : s.heap.get? T = some { cls := .type "list", data := .seq us.toArray n }) (hi : Ev F.prog F.w F.A F.env [] s i (.int j)) (h0 : 0 ≤ j) (hf : j < 2 ^ 63) (hv : us[j.toNat]? = some v)
    (hd : (x == ("__debug__" : Str)) = false := by kernel_rfl)
    (hs : ∀ l u, subscripted i false (.ref l) (.int j u) = operate [.ref l, .int j u] (getItem (.ref l) (.int j u)) := by intro _ _; with_unfolding_all rfl) {Q : Value → Shared → Prop} (hQ : ∀ s₁, Gr s s₁ → Q v s₁) :
    wpAny (model F.prog F.w) F.A (eval (.Subscript (.Name x xp) i sp) F.env) Q Never s :=
  PyProof.Rows.Subscript_ (wpAny_Name (hx.load (hi.now _ fun iv s₁ g₁ ri => by
    cases ri with
    | int _ ti =>
    have hL : s₁.heap.IsList T us.toArray := ⟨_, g₁.heap _ _ hT, rfl, n, rfl⟩
    exact PyProof.Rows.tail_any hL.typeIs slot_list_getitem.lookup (wpAny_getItem_list hL h0 hf (by simpa using hv) (hQ _ g₁)) (hs _ _))) hd)

/-- x[i].append(e), x a list of the frame's own lists -/
theorem x_appendAt {i : Expr} {xp sp ap cp : Pos} {T a : Addr} {us : List Value} {ds : List D} {μ₁ μ₂ : List (Addr × Wn)} {j : Int} (I : Inv F s σ μ) (hx : Look F.env s.heap x (.ref T)) (hT : (T, Wn.raw us) ∈ μ) (hμ : μ = μ₁ ++ (a, .lst ds) :: μ₂) (hi : Ev F.prog F.w F.A F.env [] s i (.int j)) (he : FEv F μ s e d)
    (h0 : 0 ≤ j) (hf : j < 2 ^ 63) (hv : us[j.toNat]? = some (.ref a)) (hz : ds.length ≤ sizeLine) (kk : ∀ s', Inv F s' σ (μ₁ ++ (a, .lst (ds ++ [d])) :: μ₂) → Ex F rest Q s')
    (hbase : attributeBase (.Subscript (.Name x xp) i sp) "append" F.env (eval (.Subscript (.Name x xp) i sp) F.env) = eval (.Subscript (.Name x xp) i sp) F.env := by rfl) (hse : starEach [e] F.env = [(false, eval e F.env)] := by rfl) (hline : (ap.endLine == cp.line) = true := by rfl)
    (hs : swapsWith (.Call (.Attribute (.Subscript (.Name x xp) i sp) "append" ap) [e] [] cp) none pos.line F.env = pure false := by rfl) (hd : (x == ("__debug__" : Str)) = false := by kernel_rfl)
    (hss : ∀ l u, subscripted i false (.ref l) (.int j u) = operate [.ref l, .int j u] (getItem (.ref l) (.int j u)) := by intro _ _; with_unfolding_all rfl) :
    Ex F (.Expr (.Call (.Attribute (.Subscript (.Name x xp) i sp) "append" ap) [e] [] cp) pos :: rest) Q s := by
  have hm : (a, Wn.lst ds) ∈ μ := by rw [hμ]; simp
  obtain ⟨vs, n, ho, hr⟩ := I.muts a _ hm
  obtain ⟨us', n', hoT, hus⟩ := I.muts T _ hT
  have hus : us' = us := hus
  subst hus
  refine wpAny_execs_cons (wpAny_Expr (Call_method1 hbase hse hline (own_item hx hoT hi h0 hf hv hd hss fun s₁ g₁ => ?_)) (by unfold interactive; rw [I.kind]; rfl) hs)
  refine ⟨"list", "list.append", PySem.F.plainAttrs_list, PySem.F.slot_list_append, PySem.F.type_list_append, ⟨_, g₁.heap _ _ ho, rfl⟩, (fun b e => by cases e; exact ⟨_, g₁.heap _ _ ho, rfl⟩), ?_⟩
  refine callWith_builtin rfl (evalArgs_plain (spliced_cons (he s₁ g₁ _ fun v s₂ g₂ r => spliced_nil ?_)))
  have I₂ := I.gr (g₁.trans g₂)
  have ho₂ := (g₁.trans g₂).heap _ _ ho
  refine wpAny_list_append_plain (items := vs.toArray) ⟨n, ho₂⟩ (fun h' hl hsb => ?_) (by simpa [hr.length] using hz)
  obtain ⟨n', hl⟩ := hl
  have e1 : vs.toArray.push v = (vs ++ [v]).toArray := by simp
  rw [e1] at hl
  exact kk _ (I₂.setList hμ hsb hl (w' := .lst (ds ++ [d])) (((g₁.trans g₂).reps hr).append (.one r)))

theorem new_own {M : Model} {A : Around} {vs : List Value} {w : Wn} {Q : Value → Shared → Prop} (I : Inv F s σ μ) (hw : w.ok (Fz (F.all μ) s.heap) vs) (hz : vs.length ≤ sizeLine) (h : ∀ s' a, Inv F s' σ ((a, w) :: μ) → Q (.ref a) s') :
    wpAny M A (newObj (.type "list") (.seq vs.toArray)) Q Never s :=
  wpAny_newObj_type (h _ _ (I.newList hw)) (by show vs.toArray.size ≤ sizeLine; simpa using hz)

/-- x = [[], [], []] -/
theorem x_assignNew3 {p₀ p₁ p₂ p₃ : Pos} (I : Inv F s σ μ) (kk : ∀ s' T a b c, Inv F s' ((x, .raw (.ref T)) :: σ) ((T, .raw [.ref a, .ref b, .ref c]) :: (c, .lst []) :: (b, .lst []) :: (a, .lst []) :: μ) → Ex F rest Q s') (hk : Bindable F x)
    (hs : swapsWith (.List [.List [] p₁, .List [] p₂, .List [] p₃] p₀) (some (.Name x px)) pos.line F.env = pure false := by rfl) :
    Ex F (.Assign [.Name x px] (.List [.List [] p₁, .List [] p₂, .List [] p₃] p₀) pos :: rest) Q s := by
  refine wpAny_execs_cons (wpAny_Assign_Name (PyProof.Rows.List_ ?_) hs)
  show wpAny _ _ (spliced [(false, eval (.List [] p₁) F.env), (false, eval (.List [] p₂) F.env), (false, eval (.List [] p₃) F.env)]) _ _ s
  refine spliced_cons (PyProof.Rows.List_ (spliced_nil (new_own (vs := []) (w := .lst []) I .nil (Nat.zero_le _) fun s₁ a I₁ => ?_)))
  refine spliced_cons (PyProof.Rows.List_ (spliced_nil (new_own (vs := []) (w := .lst []) I₁ .nil (Nat.zero_le _) fun s₂ b I₂ => ?_)))
  refine spliced_cons (PyProof.Rows.List_ (spliced_nil (new_own (vs := []) (w := .lst []) I₂ .nil (Nat.zero_le _) fun s₃ c I₃ => ?_)))
  refine spliced_nil (new_own (vs := [.ref a, .ref b, .ref c]) (w := .raw [.ref a, .ref b, .ref c]) I₃ rfl (by show 3 ≤ sizeLine; rw [sizeLine_eq]; decide) fun s₄ T I₄ => ?_)
  exact Inv.store I₄ (sl := .raw (.ref T)) rfl (fun s₅ I₅ _ => kk s₅ _ _ _ _ I₅) hk

theorem Inv.varOwn3 {T a b c : Addr} {d₁ d₂ d₃ : List D} (I : Inv F s σ μ) (hx : σ.lookup x = some (.raw (.ref T))) (hT : (T, Wn.raw [.ref a, .ref b, .ref c]) ∈ μ) (ha : (a, Wn.lst d₁) ∈ μ) (hb : (b, Wn.lst d₂) ∈ μ) (hc : (c, Wn.lst d₃) ∈ μ) :
    Var F.env F.O s x (.list [.list d₁, .list d₂, .list d₃]) := by
  refine ⟨_, I.raw hx, ?_⟩
  obtain ⟨us, n, ho, hu⟩ := I.muts T _ hT
  have hu : us = [.ref a, .ref b, .ref c] := hu
  subst hu
  exact .list ⟨ho, fun h => I.apart T h (List.mem_cons_of_mem _ (List.mem_append.mpr (.inr (List.mem_map.mpr ⟨_, hT, rfl⟩))))⟩ (.cons (I.own ha) (.cons (I.own hb) (.cons (I.own hc) .nil)))
end
end Mine

namespace Mine
open PySem PySem.Calls

section
variable {prog : Program} {w : World} {A : Around} {env : Env} {O : List Addr} {s : Shared} {e : Expr} {p pos : Pos} {k : Nat}

theorem intsAre_of {P : Addr → Obj → Prop} : ∀ {vs : List Value} {ns : List Int}, Reps P vs (ns.map D.int) → PyProof.Rows.IntsAre vs ns
  | [], [], _ => .nil
  | v :: vs, n :: ns, h => by
    cases h with
    | cons h r =>
      cases h with
      | int _ t => exact .cons _ _ (intsAre_of r)

theorem op_inL {n : Int} {ns : List Int} : Op2 prog w A O (compareOp .In) (.int n) (.list (ns.map D.int)) (.bool (ns.any (· == n))) := fun s u v _ hu hv Q hQ => by
  cases hu; cases hv with
  | @list l vs m _ hl rl => exact PyProof.Rows.in_list_ints ⟨_, hl.1, rfl, m, rfl⟩ (intsAre_of rl) (hQ _ _ (.refl _) (.bool _))

/-- data that are texts, ints, or lists of such -/
def D.dep : Nat → D → Bool
  | _, .str _ => true
  | _, .int _ => true
  | n + 1, .list ds => ds.all (D.dep n)
  | _, _ => false
open SeqAt in
theorem eqAt_same {P : Addr → Obj → Prop} {s : Shared} (hP : ∀ a o, P a o → s.heap.get? a = some o) : ∀ (n : Nat) (A : Around) (d : D) (v u : Value), d.dep n = true → Rep P v d → Rep P u d → A.units + n < cLine → EqAt A s v u true
  | n, A, .str x, v, u, _, hv, hu, _ => by
    cases hv with | str _ t => cases hu with | str _ t' =>
    have := EqAt.str_str (A := A) (s := s) x t x t'
    simpa using this
  | n, A, .int x, v, u, _, hv, hu, _ => by
    cases hv with | int _ t => cases hu with | int _ t' =>
    have := EqAt.int_int (A := A) (s := s) x t x t'
    simpa using this
  | n + 1, A, .list ds, v, u, hd, hv, hu, hn => by
    cases hv with
    | @list l vs m _ hl rl =>
    cases hu with
    | @list l' us m' _ hl' rl' =>
      have hL : s.heap.IsList l vs.toArray := ⟨_, hP _ _ hl, rfl, m, rfl⟩
      have hL' : s.heap.IsList l' us.toArray := ⟨_, hP _ _ hl', rfl, m', rfl⟩
      by_cases hne : l = l'
      · subst hne; exact EqAt.same _
      · refine EqAt.of_refs hne ?_
        have := RcAt.lists (A := A) (s := s) (e := fun _ => true) hL hL' (by simp [rl.length, rl'.length]) (by omega) fun j h1 h2 => ?_
        · have e : ((List.range vs.toArray.size).all fun _ => true) = true := by simp
          rw [e] at this
          exact this
        · have h1' : j < vs.length := by simpa using h1
          have h2' : j < us.length := by simpa using h2
          obtain ⟨d, hdj, r⟩ := rl.get (List.getElem?_eq_getElem h1')
          obtain ⟨d', hdj', r'⟩ := rl'.get (List.getElem?_eq_getElem h2')
          rw [hdj] at hdj'
          cases hdj'
          have hdd : d.dep n = true := by
            unfold D.dep at hd
            exact List.all_eq_true.mp hd d (List.mem_of_getElem? hdj)
          exact eqAt_same hP n A.in1 d _ _ hdd r r' (by show A.units + 1 + n < cLine; omega)
  | 0, A, .list ds, v, u, hd, _, _, _ => by cases hd
  | n, A, .none, v, u, hd, _, _, _ => by cases n <;> cases hd
  | n, A, .bool _, v, u, hd, _, _, _ => by cases n <;> cases hd
  | n, A, .bytes _, v, u, hd, _, _, _ => by cases n <;> cases hd
  | n, A, .tuple _, v, u, hd, _, _, _ => by cases n <;> cases hd
  | n, A, .range _ _ _, v, u, hd, _, _, _ => by cases n <;> cases hd

/-- two lists of the same data -/
theorem op_eqSame {ds : List D} {n : Nat} (hd : (D.list ds).dep (n + 1) = true) (hn : A.units + n + 1 < cLine) : Op2 prog w A O (compareOp .Eq) (.list ds) (.list ds) (.bool true) := fun s u v _ hu hv Q hQ => by
  cases hu with
  | @list l vs m _ hl rl =>
  cases hv with
  | @list l' us m' _ hl' rl' =>
    have hL : s.heap.IsList l vs.toArray := ⟨_, hl.1, rfl, m, rfl⟩
    have hL' : s.heap.IsList l' us.toArray := ⟨_, hl'.1, rfl, m', rfl⟩
    refine SeqAt.eq_listAt (e := fun _ => true) hL hL' (by simp [rl.length, rl'.length]) (by omega) (fun j h1 h2 => ?_) ?_
    · have h1' : j < vs.length := by simpa using h1
      have h2' : j < us.length := by simpa using h2
      obtain ⟨d, hdj, r⟩ := rl.get (List.getElem?_eq_getElem h1')
      obtain ⟨d', hdj', r'⟩ := rl'.get (List.getElem?_eq_getElem h2')
      rw [hdj] at hdj'
      cases hdj'
      have hdd : d.dep n = true := by
        unfold D.dep at hd
        exact List.all_eq_true.mp hd d (List.mem_of_getElem? hdj)
      exact eqAt_same (P := Fz O s.heap) (fun a o h => h.1) n A.in1 d _ _ hdd r r' (by show A.units + 1 + n < cLine; omega)
    · have e : ((List.range vs.toArray.size).all fun _ => true) = true := by simp
      rw [e]
      exact hQ _ _ (.refl _) (.bool _)
/-- a list and the empty one -/
theorem op_eqNil {ds : List D} (hn : A.units < cLine) : Op2 prog w A O (compareOp .Eq) (.list ds) (.list []) (.bool ds.isEmpty) := fun s u v _ hu hv Q hQ => by
  cases hu with
  | @list l vs m _ hl rl =>
  cases hv with
  | @list l' us m' _ hl' rl' =>
    cases rl'
    have hL : s.heap.IsList l vs.toArray := ⟨_, hl.1, rfl, m, rfl⟩
    have hL' : s.heap.IsList l' ([] : List Value).toArray := ⟨_, hl'.1, rfl, m', rfl⟩
    cases ds with
    | nil =>
      cases rl
      refine SeqAt.eq_listAt (e := fun _ => true) hL hL' rfl hn (fun j h1 h2 => ?_) ?_
      · simp at h1
      · exact hQ _ _ (.refl _) (.bool _)
    | cons d ds =>
      have hlen := rl.length
      refine SeqAt.eq_list_lengthsAt hL hL' (by simp [hlen]) hn ?_
      exact hQ _ _ (.refl _) (.bool _)

theorem op_addSS {a b : List Nat} (hz : a.length + b.length ≤ sizeLine) : Op2 prog w A O (binaryOp .Add) (.str (S a)) (.str (S b)) (.str (S (a ++ b))) := S_app a b ▸ op_addS (by rw [S_len, S_len]; exact hz)
theorem op_iaddSS {a b : List Nat} (hz : a.length + b.length ≤ sizeLine) : Op2 prog w A O (inplaceOp .Add) (.str (S a)) (.str (S b)) (.str (S (a ++ b))) := S_app a b ▸ op_iaddS (by rw [S_len, S_len]; exact hz)
theorem Ev.strS {x : Str} {l : List Nat} (h : x = S l := by kernel_rfl) : Ev prog w A env O s (.Constant (.str x) k p) (.str (S l)) := h ▸ Ev.str
theorem call_len_SS {l : List Nat} (hz : ¬ (l.length : Int) ≥ 2 ^ 63) : CallTo prog w A O s (.builtin "len") [.str (S l)] (.int l.length) := by
  have := call_len_S (prog := prog) (w := w) (A := A) (O := O) (s := s) (x := S l) (by rw [S_len]; exact hz)
  rw [S_len] at this
  exact this
theorem Ev.lstripSS {o e : Expr} {ap pos : Pos} {l : List Nat} {c : Nat} (ho : Ev prog w A env O s o (.str (S l))) (he : Ev prog w A env O s e (.str (S [c]))) (hz : l.length ≤ sizeLine)
    (hbase : attributeBase o "lstrip" env (eval o env) = eval o env := by rfl) (hse : starEach [e] env = [(false, eval e env)] := by rfl) (hline : (ap.endLine == pos.line) = true := by rfl) :
    Ev prog w A env O s (.Call (.Attribute o "lstrip" ap) [e] [] pos) (.str (S (l.dropWhile (· == c)))) := by
  have := Ev.lstrip (ap := ap) (pos := pos) ho he (by rw [S_len]; exact hz) hbase hse hline
  rw [lstrip_S] at this
  exact this
theorem Ev.sliceToS {value : Expr} {upper : Expr} {l : List Nat} {n : Nat} (hv : Ev prog w A env O s value (.str (S l))) (h : EvP prog w A env s (some upper) (some (n : Int))) (hn : n ≤ l.length) (hz : l.length ≤ sizeLine) :
    Ev prog w A env O s (.Subscript value (.Slice none (some upper) none p) pos) (.str (S (l.take n))) := by
  have := Ev.sliceS (p := p) (pos := pos) hv EvP.none h (by rw [S_len]; exact hz)
  rw [slice_to l hn] at this
  exact this
theorem Ev.sliceFromS {value : Expr} {lower : Expr} {l : List Nat} {n : Nat} (hv : Ev prog w A env O s value (.str (S l))) (h : EvP prog w A env s (some lower) (some (n : Int))) (hn : n ≤ l.length) (hz : l.length ≤ sizeLine) :
    Ev prog w A env O s (.Subscript value (.Slice (some lower) none none p) pos) (.str (S (l.drop n))) := by
  have := Ev.sliceS (p := p) (pos := pos) hv h EvP.none (by rw [S_len]; exact hz)
  rw [slice_from l hn] at this
  exact this
theorem op_mulSS {c n : Nat} (hm : MulOk (S [c]) (n : Int)) : Op2 prog w A O (binaryOp .Mult) (.str (S [c])) (.int (n : Int)) (.str (S (List.replicate n c))) := mul_S c n ▸ op_mulS hm
theorem mulOk_small {c n : Nat} (h : n ≤ 4000) : MulOk (S [c]) (n : Int) := by
  have hs : sizeLine = 16777216 := sizeLine_eq
  have hl : (S [c]).length = 1 := rfl
  unfold MulOk
  simp only [hl]
  refine ⟨?_, fun h1 _ => ?_, fun _ _ => ?_⟩
  · rw [Bool.or_eq_false_iff]
    exact ⟨decide_eq_false (by omega), decide_eq_false (by omega)⟩
  · have h2 : (1 : Int) ≤ n := by omega
    have : (n : Int) * 1 ≤ 2 ^ 63 - 1 := by omega
    have h3 := (Int.le_ediv_iff_mul_le (a := 1) (b := 2 ^ 63 - 1) (c := (n : Int)) (by omega)).mpr (by omega)
    exact Int.not_lt.mpr h3
  · unfold Builtin.Str.tooLong
    exact decide_eq_false (by omega)
end
end Mine

namespace Mine
open PySem PySem.Calls

theorem rangeNs_up (a : Int) (n : Nat) : rangeNs a (a + n) 1 = (List.range n).map fun (k : Nat) => a + (k : Int) := by
  unfold rangeNs
  rw [rangeSize_one]
  have e : (if a < a + (n : Int) then a + (n : Int) - a else 0).toNat = n := by split <;> omega
  rw [e]
  apply List.map_congr_left
  intro k _
  omega
theorem iter_up {a b : Int} {n : Nat} (hb : b = a + n) (ha : -1000000 ≤ a ∧ a ≤ 1000000) (hn : n ≤ 1000000) : IterD (.range a b 1) ((List.range n).map fun (k : Nat) => D.int (a + (k : Int))) := by
  subst hb
  have h := IterD.range a (a + n) 1 (small_one (by omega) (by omega) (by omega) (by omega)) (by rw [rangeSize_one]; split <;> omega)
  rw [rangeNs_up, List.map_map] at h
  exact h
theorem rangeSize_dn (n : Nat) : Builtin.Range.rangeSize (n : Int) 0 (-1) = n := by
  unfold Builtin.Range.rangeSize
  rw [if_neg (by decide)]
  split
  · show ((n : Int) - 0 - 1) / 1 + 1 = n
    omega
  · omega
theorem iter_down {a : Int} {n : Nat} (ha : a = (n : Int)) (hn : n ≤ 1000000) : IterD (.range a 0 (-1)) ((List.range n).map fun (k : Nat) => D.int ((n : Int) - (k : Int))) := by
  subst ha
  have h := IterD.range (n : Int) 0 (-1) (PySem.W.small_down (by omega) (by omega) (by omega) (by omega)) (by rw [rangeSize_dn]; omega)
  have e : (rangeNs (n : Int) 0 (-1)) = (List.range n).map fun (k : Nat) => (n : Int) - (k : Int) := by
    unfold rangeNs
    rw [rangeSize_dn, Int.toNat_natCast]
    apply List.map_congr_left
    intro k _
    omega
  rw [e, List.map_map] at h
  exact h

def natsD (l : List Nat) : List D := l.map fun n : Nat => D.int (n : Int)
theorem natsD_get {l : List Nat} {j : Int} {n : Nat} (h : j = (n : Int)) (hn : n < l.length) : (natsD l)[j.toNat]? = some (.int ((l.getD n 0 : Nat) : Int)) := by
  subst h
  unfold natsD
  rw [Int.toNat_natCast, List.getElem?_map, List.getElem?_eq_getElem hn, List.getD_eq_getElem?_getD, List.getElem?_eq_getElem hn]; rfl
theorem natsD_len (l : List Nat) : (natsD l).length = l.length := List.length_map ..
theorem natsD_ints (l : List Nat) : natsD l = (l.map fun n : Nat => (n : Int)).map D.int := by unfold natsD; rw [List.map_map]; rfl
theorem sum_cast (l : List Nat) : (l.map fun n : Nat => (n : Int)).sum = ((l.sum : Nat) : Int) := by
  induction l with
  | nil => rfl
  | cons a l ih => rw [List.map_cons, List.sum_cons, List.sum_cons, ih]; omega

theorem FrameOf.bindC {prog : Program} {w : World} {A : Around} {O : List Addr} {s₀ : Shared} {env : Env} {scope : Scope} {L : Addr} (f : FrameOf env scope L) {x : Str} (h : scope.names.lookup x = some .cell) : Bindable (fxOf prog w A O s₀ env) x := by
  have hs : (env.cells.lookup x).isSome = true := by
    rw [f.ce]; exact PySem.W.cellsFrom_some _ _ _ (.inl h)
  obtain ⟨c, hc⟩ := Option.isSome_iff_exists.mp hs
  exact .inr ⟨f.kind h, c, hc, List.mem_map.mpr ⟨_, mem_of_lookup hc, rfl⟩⟩
theorem FrameOf.cell {env : Env} {scope : Scope} {L : Addr} (f : FrameOf env scope L) {x : Str} (h : scope.names.lookup x = some .cell) : ∃ c, env.cells.lookup x = some c := by
  have hs : (env.cells.lookup x).isSome = true := by
    rw [f.ce]; exact PySem.W.cellsFrom_some _ _ _ (.inl h)
  exact Option.isSome_iff_exists.mp hs
theorem map_getD {α β : Type} (f : α → β) (l : List α) {n : Nat} (d : β) (h : n < l.length) : (l.map f).getD n d = f l[n] := by
  rw [List.getD_eq_getElem?_getD, List.getElem?_map, List.getElem?_eq_getElem h]; rfl
theorem range_getD {β : Type} (f : Nat → β) {n i : Nat} (d : β) (h : i < n) : ((List.range n).map f).getD i d = f i := by
  rw [map_getD f (List.range n) d (by rw [List.length_range]; exact h), List.getElem_range]
end Mine
namespace Mine
open PySem PySem.Calls
theorem swaps_comp {elt : Expr} {gens : List Comprehension} {scope : Scope} {pos px : Pos} {t : Str} {line : Nat} {env : Env} (hb : env.blockKind = .function) (hk : env.kindOf t = some .local) (hl : (px.line == pos.line) = true) (hn : (scope.names.any fun x => x.1 == t && (x.2 == .local || x.2 == .cell)) = false) :
    swapsWith (.ListComp elt gens scope pos) (some (.Name t px)) line env = pure true := by
  show (pure (env.blockKind == .function && env.kindOf t == some .local && px.line == pos.line && !(scope.names.any fun x => x.1 == t && (x.2 == .local || x.2 == .cell))) : Sem Bool) = pure true
  rw [hb, hk, hl, hn]; rfl
end Mine

namespace Mine
open PySem PySem.Calls PySem.Flt PySem.Builtin.Str
local macro_rules | `(tactic| walk_at "lk") => `(tactic| first | exact lk_here (by with_reducible rfl) rfl | exact lk_tail (by kernel_rfl) (by walk_at "lk"))

/-- a row: its dots, what stands behind them -/
abbrev Row := Nat × List Nat
def Row.l (r : Row) : List Nat := List.replicate r.1 46 ++ r.2
def Row.d (r : Row) : D := .str (rowS (Row.l r))
def okB (b : List Nat) : Bool := !b.contains 10 && b.all (· < 128) && b.head? != some 46 && quiet false (b ++ [10]) && decide (b.length ≤ 8)
structure OkB (b : List Nat) : Prop where
  nl : 10 ∉ b
  asc : ∀ c ∈ b, c < 128
  hd : b.head? ≠ some 46
  qu : quiet false (b ++ [10]) = true
  len : b.length ≤ 8
theorem okB_iff {b : List Nat} (h : okB b = true) : OkB b := by
  unfold okB at h
  simp only [Bool.and_eq_true, Bool.not_eq_true', decide_eq_true_eq] at h
  obtain ⟨⟨⟨⟨h1, h2⟩, h3⟩, h4⟩, h5⟩ := h
  exact ⟨by simpa using h1, by simpa using h2, by simpa using h3, h4, h5⟩
theorem row_nl {r : Row} (h : OkB r.2) : 10 ∉ Row.l r := fun hm => by
  rcases List.mem_append.mp hm with hm | hm
  · have := (List.mem_replicate.mp hm).2; cases this
  · exact h.nl hm
theorem row_asc {r : Row} (h : OkB r.2) : ∀ c ∈ Row.l r, c < 128 := fun c hm => by
  rcases List.mem_append.mp hm with hm | hm
  · rw [(List.mem_replicate.mp hm).2]; decide
  · exact h.asc c hm
theorem row_len (r : Row) : (Row.l r).length = r.1 + r.2.length := by unfold Row.l; rw [List.length_append, List.length_replicate]
theorem row_quiet {r : Row} (h : OkB r.2) : quiet false (Row.l r ++ [10]) = true := by
  unfold Row.l
  rw [List.append_assoc]
  exact quiet_app _ _ _ (quiet_dots _) h.qu
theorem row_strip {r : Row} (h : OkB r.2) : (Row.l r ++ [10]).dropWhile (· == 46) = r.2 ++ [10] := by
  unfold Row.l
  have key : ∀ (n : Nat), (List.replicate n 46 ++ r.2 ++ [10]).dropWhile (· == 46) = r.2 ++ [10] := by
    intro n
    induction n with
    | zero =>
      rw [List.replicate_zero, List.nil_append]
      have := h.hd
      cases hb : r.2 with
      | nil => rfl
      | cons c t =>
        rw [hb] at this
        have hc : (c == 46) = false := by simpa using this
        rw [List.cons_append, List.dropWhile_cons, if_neg (by rw [hc]; simp)]
    | succ n ih =>
      rw [List.replicate_succ, List.cons_append, List.cons_append, List.dropWhile_cons, if_pos (by rfl)]
      exact ih
  exact key r.1
theorem bump_row {r : Row} (h : 1 ≤ r.1) : bump (Row.l r) = Row.l (r.1 + 1, r.2) := by
  unfold Row.l
  obtain ⟨n, hn⟩ : ∃ n, r.1 = n + 1 := ⟨r.1 - 1, by omega⟩
  rw [hn, List.replicate_succ, List.cons_append, bump_cons, if_pos (by rfl)]
  rfl
def loneN (k : Nat) : List Nat := List.replicate (k % 2) 92
def staysN (k : Nat) : List Nat := [92, 92, 34] ++ loneN k
theorem lone_calm (k : Nat) : calm false (loneN k) = true := by
  unfold loneN
  rcases Nat.mod_two_eq_zero_or_one k with h | h <;> rw [h] <;> rfl
theorem unlines_len (rows : List Row) (ok : ∀ r ∈ rows, OkB r.2) : (unlines (rows.map Row.l) []).length ≤ (rows.map fun r => r.1 + 11).sum := by
  induction rows with
  | nil => exact Nat.zero_le _
  | cons r rows ih =>
    rw [List.map_cons, unlines_cons, List.length_append, List.length_cons, row_len, List.map_cons, List.sum_cons]
    have := ih fun x hx => ok x (List.mem_cons_of_mem _ hx)
    have := (ok r (List.mem_cons_self ..)).len
    omega
theorem freeIn {names : List (Str × NameKind)} {env : Env} (ns : List Str) (h : (names.all fun x => x.2 != .free || ns.contains x.1) = true) (hc : ∀ n ∈ ns, ∃ c, env.cells.lookup n = some c) : ∀ x ∈ names, x.2 = .free → ∃ c, env.cells.lookup x.1 = some c := fun x hx hk => by
  have := List.all_eq_true.mp h x hx
  rw [hk] at this
  have : ns.contains x.1 = true := by simpa using this
  exact hc _ (by simpa using this)
theorem call_sum_N {prog : Program} {w : World} {A : Around} {O : List Addr} {s : Shared} {l : List Nat} (hh : A.handled = none) : CallTo prog w A O s (.builtin "sum") [.list (natsD l)] (.int ((l.sum : Nat) : Int)) := by
  rw [natsD_ints, ← sum_cast]; exact call_sum_L hh
theorem lpick_nats {l : List Nat} {j : Int} {n : Nat} (hj : j = (n : Int)) (h : n ≤ l.length) : lpick (natsD l) none (some j) = natsD (l.take n) := by
  subst hj
  rw [lpick_to _ (by rw [natsD_len]; exact h)]
  unfold natsD
  rw [List.map_take]
theorem natsD_app (a b : List Nat) : natsD (a ++ b) = natsD a ++ natsD b := List.map_append ..
theorem natsD_getD {l : List Nat} {i : Nat} (h : i < l.length) : (natsD l).getD i .none = .int ((l.getD i 0 : Nat) : Int) := by
  unfold natsD
  rw [map_getD _ _ _ h, List.getD_eq_getElem?_getD, List.getElem?_eq_getElem h]; rfl
theorem nopyl3 (x : Int) : Builtin.divisionGoesByPylong x 3 = false := rfl
theorem nopyl6 (x : Int) : Builtin.divisionGoesByPylong x 6 = false := rfl
theorem nopyl12 (x : Int) : Builtin.divisionGoesByPylong x 12 = false := rfl
theorem nopylm1 (x : Int) : Builtin.divisionGoesByPylong x (-1) = false := rfl
def notStar : Expr → Bool
  | .Starred .. => false
  | _ => true
theorem starEach_cons {e : Expr} {es : List Expr} {env : Env} (h : notStar e = true) : starEach (e :: es) env = (false, eval e env) :: starEach es env := by
  cases e <;> first | rfl | cases h
theorem Evs.cons' {prog : Program} {w : World} {A : Around} {env : Env} {O : List Addr} {s : Shared} {e : Expr} {es : List Expr} {d : D} {ds : List D} (h : Ev prog w A env O s e d) (hs : Evs prog w A env O s es ds) (he : notStar e = true := by rfl) :
    Evs prog w A env O s (e :: es) (d :: ds) := Evs.cons h hs (starEach_cons he)
theorem ad_nest' {prog : Program} {w : World} {A : Around} {cenv : Env} {s₁ : Shared} {σt : List (Str × Sl)} {D₀ : Addr} {elt iter : Expr} {y : Str} {py pos : Pos} {ifs : List Expr} {gens : List Comprehension} {scope : Scope} {depth n : Nat} {d : D} {ds : List D} {T : (Shared → Prop) → Shared → Prop} {outs : Nat → List D}
    (hg : gens[depth + 1]? = some ⟨.Name y py, iter, ifs, 0⟩) (hlr : ∀ it, LR prog w A cenv (.Name y py) it T (.compLoop (.ListComp elt gens scope pos) (depth + 1) it (.ref D₀) cenv)) (hmono : ∀ (P P' : Shared → Prop) s, (∀ s, P s → P' s) → T P s → T P' s)
    (hh : A.handled = none) (hi : IterD d ds) (hy : cenv.kindOf y = some .local) (hy0 : σt.lookup y = none)
    (he : ∀ (B : Addr → Obj → Prop) (O : List Addr) (s' : Shared) (acc : List D), Gr s₁ s' → Inv ⟨prog, w, A, cenv, O, B, [], s₁⟩ s' σt [(D₀, .lst acc)] → FEv ⟨prog, w, A, cenv, O, B, [], s₁⟩ [(D₀, .lst acc)] s' iter d) (hn : ds.length = n)
    (turn : ∀ j, j < n → Ad prog w A cenv s₁ T ((y, .dat (ds.getD j .none)) :: σt) D₀ (outs j)) :
    Ad prog w A cenv s₁ (nestT prog w A cenv (.ListComp elt gens scope pos) depth ⟨.Name y py, iter, ifs, 0⟩ [] (.ref D₀)) σt D₀ (outsTo outs n) := by
  subst hn
  exact ad_nest hg hlr hmono hh hi hy hy0 he turn
theorem outs_rep (d : D) (n : Nat) : outsTo (fun _ => [d]) n = List.replicate n d := by
  induction n with
  | zero => rfl
  | succ n ih => rw [outsTo_succ, ih, List.replicate_succ']
theorem dep_rows (rows : List Row) : (D.list (rows.map Row.d)).dep 1 = true := by
  show (rows.map Row.d).all (D.dep 0) = true
  rw [List.all_map]
  exact List.all_eq_true.mpr fun r _ => rfl
def isComp : Expr → Bool
  | .ListComp .. => true
  | .SetComp .. => true
  | .DictComp .. => true
  | _ => false
theorem swaps_no {e : Expr} {t : Option Expr} {l : Nat} {env : Env} (h : isComp e = false) : swapsWith e t l env = pure false := by
  cases e <;> first | rfl | cases h
section
variable {prog : Program} {w : World} {A : Around} {env : Env} {O : List Addr} {s : Shared}

theorem op_fmodN {a : Int} {b : Nat} {n : Nat} (hb : 0 < b) (h : n = (a.fmod (b : Int)).toNat) : Op2 prog w A O (binaryOp .Mod) (.int a) (.int (b : Int)) (.int (n : Int)) := by
  have : (n : Int) = a.fmod (b : Int) := by
    rw [h, Int.toNat_of_nonneg (Int.fmod_nonneg_of_pos a (by omega))]
  rw [this]
  exact op_modI (by omega)
end
end Mine
namespace Mine
open PySem PySem.Calls PySem.Flt PyProof.Rows
def recT (d : DefRec) : Str × Arguments × List Stmt × Scope := (d.name, d.params, d.body, d.scope)
def freeOk (p : Program) (loose : List Str) (xs : List Str) : Bool := xs.all fun x => !(startupNames.contains x) && !(loose.contains x) && !(((recsOf p).map (·.name)).contains x) && !(((litsOf p).map (·.1)).contains x) && !(((clssOf p loose).map (·.name)).contains x)
theorem fn_of_top {p : Program} {loose : List Str} {mean : ExcName → Option Value} {mg mb : Str → Option Value} {h : Heap} (T : Top p loose mean mg mb h) {P : Program} {ix : List Nat} (hrec : (recsOf p).map recT = ix.map (defAt P)) {i : Nat} (hi : i ∈ ix) {x : Str} (hx : (defAt P i).1 = x) :
    ∃ a, mg x = some (.ref a) ∧ Fn P i h a := by
  have hm : defAt P i ∈ (recsOf p).map recT := by rw [hrec]; exact List.mem_map.mpr ⟨i, hi, rfl⟩
  obtain ⟨d, hd, e⟩ := List.mem_map.mp hm
  obtain ⟨a, o, pm, cd, doc, h1, h2, h3, h4⟩ := T.fn d hd
  refine ⟨a, ?_, o, pm, cd, doc, h2, ?_, ?_⟩
  · rw [← hx, ← e]; exact h1
  · rw [← e]; exact h3
  · rw [← e]; exact h4
theorem free_of_top {p : Program} {loose : List Str} {mean : ExcName → Option Value} {mg mb : Str → Option Value} {h : Heap} (T : Top p loose mean mg mb h) {xs : List Str} (hf : freeOk p loose xs = true) : ∀ x ∈ xs, mg x = none := fun x hx => by
  have := List.all_eq_true.mp hf x hx
  simp only [Bool.and_eq_true, Bool.not_eq_true', List.contains_eq_mem, decide_eq_false_iff_not] at this
  exact T.free x this.1.1.1.1 this.1.1.1.2 this.1.1.2 this.1.2 this.2
theorem glb_of_top {p : Program} {loose : List Str} {mean : ExcName → Option Value} {mg mb : Str → Option Value} {h : Heap} (T : Top p loose mean mg mb h) : Glb mg h := ⟨T.g, ⟨mb, T.b, T.builtins⟩, T.nolimit⟩
theorem ints_reps {P : Addr → Obj → Prop} : ∀ {vs : List Value} {ns : List Int}, IntsAre vs ns → Reps P vs (ns.map D.int)
  | _, _, .nil => .nil
  | _, _, .cons n t h => .cons (.int n t) (ints_reps h)
theorem finished_bare {g g' : Array GenState} (h : GExt g g') (h0 : g = #[]) : AllBare g' := fun y hy => by
  obtain ⟨i, hi⟩ := Array.mem_iff_getElem?.mp hy
  have := h.new i y (by rw [h0]; simp) hi
  rw [this]; rfl
theorem rm_caller {n : Nat} (h : n ≤ 50) : Rm n callerA := ⟨rfl, by
  have : callerA.depth + 50 < recursionLimit := by decide
  omega, by
  have : callerA.units + 20 * 50 < cLine := by decide
  omega⟩
end Mine
namespace Mine
open PySem PySem.Calls PySem.Flt PyProof.Rows PySem.W
theorem plain_of_well {P : Params} {h : Heap} {L : Addr} {vs : List Value} {d : WData} {xs : List WData} (x : Well P h (.ref L) d) (hd : d = .list xs) (hL : h.IsList L vs.toArray) : ∃ n, h.get? L = some { cls := .type "list", data := .seq vs.toArray n } := by
  subst hd
  cases x with
  | list h1 _ =>
    obtain ⟨o, h2, h3, n, h4⟩ := hL
    rw [h1] at h2
    cases h2
    cases h4
    exact ⟨_, h1⟩
theorem good_true {c : ClaimW} {cl : Str → Option Addr} {mean : ExcName → Option Value} {args : List WData} {s₁ s' : Shared} (g : Gr s₁ s') (hg : s₁.gens = #[]) (hr : ∀ cls, c.raises args cls = false) (hp : c.post args (.bool true) args = true) :
    GoodWG c cl mean args s₁ (.ok (.ret (.bool true))) s' :=
  ⟨.inl ⟨_, _, [], rfl, hr, .bool _, hp, unshared_nil⟩, .of_keep g.heap, g.os, finished_bare g.gens hg⟩
end Mine

namespace Mine
open PySem PySem.Calls

section
variable {prog : Program} {w : World} {A : Around} {env : Env} {O : List Addr} {s : Shared} {E : Value → Shared → Prop}

/-- a list is lengthened by another -/
theorem iadd_list {a b : Addr} {vs ws : List Value} {n m : Nat} {Q : Value → Shared → Prop} (ha : s.heap.get? a = some { cls := .type "list", data := .seq vs.toArray n }) (hb : s.heap.get? b = some { cls := .type "list", data := .seq ws.toArray m }) (hz : vs.length + ws.length ≤ sizeLine)
    (h : ∀ h' n', h'.get? a = some { cls := .type "list", data := .seq (vs ++ ws).toArray n' } → Heap.SameBut a s.heap h' → Q (.ref a) { s with heap := h' }) : wpAny (model prog w) A (inplaceOp .Add (.ref a) (.ref b)) Q E s := by
  unfold inplaceOp
  refine wpAny_holding ?_
  have hTa : s.TypeIs (.ref a) "list" := ⟨_, ha, rfl⟩
  have hTb : s.TypeIs (.ref b) "list" := ⟨_, hb, rfl⟩
  have hfi : fillsInplaceSlot (.type "list") "add" (Operator.Add == .Add) = pure false := by
    unfold fillsInplaceSlot
    show (typeLookup (.type "list") (dunderI "add") >>= fun fi => pure (fi.isSome && !isSeqSlot fi)) = pure false
    rw [PySem.F.slot_list_iadd.lookup]
    show (pure ((some (Value.builtin "list.__iadd__")).isSome && !isSeqSlot (some (Value.builtin "list.__iadd__"))) : Sem Bool) = _
    rw [show isSeqSlot (some (Value.builtin "list.__iadd__")) = true by decide +kernel]; rfl
  have hsi : seqSlot? (.type "list") (dunderI "add") = pure (some (.builtin "list.__iadd__")) := seqSlot_of PySem.F.slot_list_iadd.lookup (by decide +kernel)
  refine wpAny_bind (wpAny_typeOf hTa (wpAny_bind (wpAny_of_eq hfi ?_)))
  show wpAny (model prog w) A (if false = true then _ else _) Q E s
  rw [if_neg Bool.false_ne_true]
  refine wpAny_bind (wpAny_binaryOp1_none (nm := "add") hTa hTb noFill_list_add ?_)
  refine wpAny_bind (wpAny_of_eq hsi ?_)
  refine wpAny_bind (wpAny_rule ?_)
  have hs : sizeLine = 16777216 := sizeLine_eq
  refine call_meets PySem.F.slot_list_iadd hTa PySem.F.entry_list_iadd (PySem.F.args_list_iadd_2 _ _) (PySem.AutoSeq1.list___iadd___list_list_0 a vs.toArray n b ws.toArray m ?_ (by simp; omega) (by simp; omega)) ⟨ha, hb, ?_⟩
  · unfold Builtin.List.listTooLong
    simp only [List.size_toArray, Bool.and_eq_true, decide_eq_true_eq, not_and]
    intro _
    omega
  · have e : vs.toArray ++ ws.toArray = (vs ++ ws).toArray := by simp
    exact h _ _ ((Heap.get?_update_self _ ha rfl).trans (congrArg (fun z => some ({ cls := .type "list", data := .seq z _ } : Obj)) e)) (Heap.SameBut.update ..)

theorem argBest_max (f : Nat → Int) : ∀ n, argBest (fun i j => decide (f i > f j)) n ≤ n ∧ ∀ j, j ≤ n → f j ≤ f (argBest (fun i j => decide (f i > f j)) n)
  | 0 => ⟨Nat.le_refl _, fun j hj => by rw [Nat.le_zero.mp hj]; exact Int.le_refl _⟩
  | n + 1 => by
    obtain ⟨h1, h2⟩ := argBest_max f n
    have e : argBest (fun i j => decide (f i > f j)) (n + 1) = if decide (f (n + 1) > f (argBest (fun i j => decide (f i > f j)) n)) = true then n + 1 else argBest (fun i j => decide (f i > f j)) n := rfl
    rw [e]
    by_cases h : f (n + 1) > f (argBest (fun i j => decide (f i > f j)) n)
    · rw [if_pos (by simpa using h)]
      refine ⟨Nat.le_refl _, fun j hj => ?_⟩
      rcases Nat.lt_or_ge j (n + 1) with hj' | hj'
      · have := h2 j (by omega); omega
      · have : j = n + 1 := by omega
        rw [this]; omega
    · rw [if_neg (by simpa using h)]
      refine ⟨by omega, fun j hj => ?_⟩
      rcases Nat.lt_or_ge j (n + 1) with hj' | hj'
      · exact h2 j (by omega)
      · have : j = n + 1 := by omega
        rw [this]; omega

theorem ints_items {P : Addr → Obj → Prop} : ∀ {vs : List Value} {ns : List Int}, Reps P vs (ns.map D.int) → ∃ l : List (Int × Tok), vs = l.map (fun p => Value.int p.1 p.2) ∧ l.map (·.1) = ns
  | [], [], _ => ⟨[], rfl, rfl⟩
  | v :: vs, n :: ns, h => by
    cases h with
    | cons h r =>
      cases h with
      | int _ t =>
        obtain ⟨l, rfl, rfl⟩ := ints_items r
        exact ⟨(n, t) :: l, rfl, rfl⟩

theorem call_max_L {ns : List Int} {m : Int} (hh : A.handled = none) (hm : m ∈ ns) (hle : ∀ n ∈ ns, n ≤ m) : CallTo prog w A O s (.builtin "max") [.list (ns.map D.int)] (.int m) := fun s₁ g vs r Q hQ => by
  obtain ⟨v, rfl, h⟩ := one_dat r
  cases h with
  | @list l us n _ hl rl =>
    obtain ⟨xs, rfl, rfl⟩ := ints_items rl
    have hL : s₁.heap.IsList l (intItems xs.toArray) := ⟨_, hl.1, rfl, n, by simp [intItems]⟩
    have hpos : 0 < xs.length := by
      cases xs with
      | nil => cases hm
      | cons _ _ => simp
    refine max_intList hh hL (by simpa using hpos) fun v h' tk hv hk => ?_
    have hB := argBest_max (numAt xs.toArray) (xs.toArray.size - 1)
    generalize hk0 : argBest (fun i j => decide (numAt xs.toArray i > numAt xs.toArray j)) (xs.toArray.size - 1) = k at hv hB
    have hsz : xs.toArray.size = xs.length := by simp
    have hklt : k < xs.length := by have := hB.1; omega
    have hnum : ∀ i, (hi : i < xs.length) → numAt xs.toArray i = xs[i].1 := fun i hi => by
      unfold numAt
      simp [hi]
    have hv2 : v = Value.int xs[k].1 xs[k].2 := by
      have : (intItems xs.toArray)[k]? = some (Value.int xs[k].1 xs[k].2) := by simp [intItems, hklt]
      rw [this] at hv
      exact (Option.some.inj hv).symm
    have hmk : xs[k].1 = m := by
      refine Int.le_antisymm (hle _ (List.mem_map.mpr ⟨xs[k], List.getElem_mem hklt, rfl⟩)) ?_
      obtain ⟨p, hp, e⟩ := List.mem_map.mp hm
      obtain ⟨j, hj, e2⟩ := List.getElem_of_mem hp
      have := hB.2 j (by omega)
      rw [hnum j hj, hnum k hklt, e2, e] at this
      exact this
    rw [hv2, hmk]
    exact hQ _ _ (.keeps hk) (.int _ _)

/-- 10 ** 6 -/
theorem op_pow6 : Op2 prog w A O (binaryOp .Pow) (.int 10) (.int 6) (.int 1000000) := fun s u v _ hu hv Q hQ => by
  cases hu; cases hv
  refine AutoIntOps.pow_4 (by decide) (by decide) (by decide) (by decide) (by decide +kernel) ?_
  exact hQ _ _ .toks (.int _ _)
end
end Mine

namespace Mine
open PySem PySem.Calls PyProof.Rows PySem.Spec

section
variable {prog : Program} {w : World} {A : Around} {env : Env} {O : List Addr} {s : Shared} {p : Pos}

theorem Tr.and2 {e₁ e₂ : Expr} {b₁ b₂ : Bool} (h₁ : Tr prog w A env s e₁ b₁) (h₂ : b₁ = true → Tr prog w A env s e₂ b₂) : Tr prog w A env s (.BoolOp .And [e₁, e₂] p) (b₁ && b₂) := fun s₁ g Q hQ => by
  refine isTrue_and (h₁ s₁ g _ fun s₂ g₂ => ?_)
  cases b₁ with
  | false => exact hQ _ g₂
  | true =>
    show wpAny _ _ (isTrue (.BoolOp .And [e₂] p) env _) _ _ _
    refine isTrue_and (h₂ rfl s₂ (g.trans g₂) _ fun s₃ g₃ => ?_)
    cases b₂ with
    | false => exact hQ _ (g₂.trans g₃)
    | true => exact isTrue_and_nil (hQ _ (g₂.trans g₃))
theorem Tr.chain2 {l r₁ r₂ : Expr} {o₁ o₂ : CmpOp} {dl d₁ d₂ : D} {b₁ b₂ : Bool} (lv : Live O s.heap) (hl : Ev prog w A env O s l dl) (h₁ : Ev prog w A env O s r₁ d₁) (h₂ : Ev prog w A env O s r₂ d₂) (c₁ : Op2 prog w A O (compareOp o₁) dl d₁ (.bool b₁)) (c₂ : Op2 prog w A O (compareOp o₂) d₁ d₂ (.bool b₂))
    (hm : lastMarks [o₁, o₂] [r₁, r₂] = false := by with_unfolding_all rfl) : Tr prog w A env s (.Compare l [o₁, o₂] [r₁, r₂] p) (b₁ && b₂) := fun s₁ g Q hQ => by
  refine isTrue_chain (hl s₁ g _ fun a s₂ g₂ ra => test_link (h₁ s₂ (g.trans g₂) _ fun b s₃ g₃ rb => c₁ s₃ a b (lv.gr (g.trans (g₂.trans g₃))) (g₃.rep ra) rb _ fun v s₄ g₄ rv => ?_)) hm
  cases rv
  refine wpAny_truthy_bool ?_
  have gg := g₂.trans (g₃.trans g₄)
  cases b₁ with
  | false => exact hQ _ gg
  | true =>
    show wpAny _ _ (testChain p b [o₂] [eval r₂ env]) _ _ _
    refine test_last (h₂ s₄ (g.trans gg) _ fun c s₅ g₅ rc => c₂ s₅ b c (lv.gr (g.trans (gg.trans g₅))) ((g₄.trans g₅).rep rb) rc _ fun v s₆ g₆ rv => ?_)
    cases rv
    exact wpAny_truthy_bool (hQ _ (gg.trans (g₅.trans g₆)))
theorem Ev.and2 {e₁ e₂ : Expr} {b₁ b₂ : Bool} (h₁ : Ev prog w A env O s e₁ (.bool b₁)) (h₂ : Ev prog w A env O s e₂ (.bool b₂)) : Ev prog w A env O s (.BoolOp .And [e₁, e₂] p) (.bool (b₁ && b₂)) := fun s₁ g Q hQ => by
  refine BoolOp_and (h₁ s₁ g _ fun v s₂ g₂ r => ?_)
  cases r
  refine wpAny_truthy_bool ?_
  cases b₁ with
  | false => exact hQ _ _ g₂ (.bool _)
  | true => exact BoolOp_one (h₂ s₂ (g.trans g₂) _ fun v s₃ g₃ r => hQ v s₃ (g₂.trans g₃) r)
theorem Ev.ofCmp {l r : Expr} {op : CmpOp} {dl dr d : D} (hl : Ev prog w A env O s l dl) (hr : Ev prog w A env O s r dr) (lv : Live O s.heap) (h : Op2 prog w A O (compareOp op) dl dr d) (hm : behindInMarks op r = false := by with_unfolding_all rfl) :
    Ev prog w A env O s (.Compare l [op] [r] p) d := Ev.cmp hl hr lv h hm

def leS (a b : Str) : Bool := !ltCps b.cps.toList a.cps.toList
theorem leS_iff (a b : Str) : leS a b = true ↔ a.cps.toList ≤ b.cps.toList := by
  unfold leS
  rw [ltCps_eq, Bool.not_eq_true', decide_eq_false_iff_not]
  exact List.not_lt
theorem leS_trans (a b c : Str) (h : leS a b = true) (k : leS b c = true) : leS a c = true := by
  rw [leS_iff] at *; exact List.le_trans h k
theorem leS_total (a b : Str) : (leS a b || leS b a) = true := by
  rw [Bool.or_eq_true, leS_iff, leS_iff]; exact List.le_total _ _
theorem leS_anti (a b : Str) (h : leS a b = true) (k : leS b a = true) : a = b := by
  rw [leS_iff] at *
  apply Str.ext'
  apply Array.toList_inj.mp
  exact List.le_antisymm h k
def sortF (ss : List Str) : List Str := ss.mergeSort leS
theorem risingS_pair : ∀ (p : Str) (l : List Str), risingS p l = true → (p :: l).Pairwise (fun a b => leS a b = true)
  | p, [], _ => by simp
  | p, x :: r, h => by
    have h : (!ltCps x.cps.toList p.cps.toList && risingS x r) = true := h
    rw [Bool.and_eq_true] at h
    have ih := risingS_pair x r h.2
    have hpx : leS p x = true := h.1
    refine List.pairwise_cons.mpr ⟨fun y hy => ?_, ih⟩
    rcases List.mem_cons.mp hy with e | hy
    · rw [e]; exact hpx
    · exact leS_trans _ _ _ hpx (List.rel_of_pairwise_cons ih hy)
theorem sortedS_pair : ∀ (l : List Str), sortedS l = true → l.Pairwise (fun a b => leS a b = true)
  | [], _ => .nil
  | x :: r, h => risingS_pair x r h
theorem sortF_unique {l ss : List Str} (hp : l.Perm ss) (hs : sortedS l = true) : l = sortF ss :=
  List.Perm.eq_of_pairwise (fun a b _ _ h k => leS_anti a b h k) (sortedS_pair l hs) (List.pairwise_mergeSort leS_trans leS_total ss) (hp.trans (List.mergeSort_perm ss leS).symm)
theorem sortF_perm {l ss : List Str} (hp : l.Perm ss) : sortF l = sortF ss :=
  List.Perm.eq_of_pairwise (fun a b _ _ h k => leS_anti a b h k) (List.pairwise_mergeSort leS_trans leS_total l) (List.pairwise_mergeSort leS_trans leS_total ss) ((List.mergeSort_perm l leS).trans (hp.trans (List.mergeSort_perm ss leS).symm))

theorem strsAre_of {P : Addr → Obj → Prop} : ∀ {vs : List Value} {ss : List Str}, Reps P vs (ss.map D.str) → StrsAre vs ss
  | [], [], _ => .nil
  | v :: vs, x :: ss, h => by
    cases h with
    | cons h r =>
      cases h with
      | str _ t => exact .cons _ _ (strsAre_of r)
theorem reps_of_strs {P : Addr → Obj → Prop} : ∀ {vs : List Value} {ss : List Str}, StrsAre vs ss → Reps P vs (ss.map D.str)
  | _, _, .nil => .nil
  | _, _, .cons y t h => .cons (.str y t) (reps_of_strs h)

theorem call_sorted_S {ss : List Str} (lv : Live O s.heap) (hz : ss.length < 64) : CallTo prog w A O s (.builtin "sorted") [.list (ss.map D.str)] (.list ((sortF ss).map D.str)) := fun s₁ g vs r Q hQ => by
  obtain ⟨v, rfl, h⟩ := one_dat r
  cases h with
  | @list l us n _ hl rl =>
    refine sorted_strs ⟨_, hl.1, rfl, n, rfl⟩ (strsAre_of rl) (by rw [rl.length, List.length_map]; exact hz) fun out ss' h1 h2 h3 => ?_
    obtain ⟨e, he⟩ := sortedAll_at s₁.heap us out
    have e1 := sortF_unique h2 h3
    subst e1
    refine hQ _ _ (.keeps fun a o h => sortedAll_old h) ?_
    have hnot : s₁.heap.objs.size + 1 ∉ O := fun hm => by
      obtain ⟨o, ho⟩ := (lv.gr g) _ hm
      exact absurd (Heap.lt_size ho) (Nat.not_lt.mpr (Nat.le_succ _))
    have hobj : (sortedAll s₁.heap us out).get? (s₁.heap.objs.size + 1) = some { cls := .type "list", data := .seq out.toList.toArray e } := he
    exact .list (n := e) ⟨hobj, hnot⟩ (reps_of_strs h1)
end

section
variable {F : Fx} {s s' : Shared} {σ σ' σc : List (Str × Sl)} {μ : List (Addr × Wn)} {Q : Flow → Shared → Prop} {rest : List Stmt} {x y : Str} {px py pt pos : Pos} {k : Nat} {e : Expr} {d : D}

theorem x_while {test : Expr} {body : List Stmt} (n : Nat) (I : Inv F s σ μ) (J : Nat → List (Str × Sl)) (M : Nat → List (Addr × Wn)) (h0 : Subs (J 0) σ) (hM0 : M 0 = μ)
    (ht : ∀ i s', i ≤ n → Inv F s' (J i) (M i) → Tr F.prog F.w F.A F.env s' test (decide (i < n)))
    (turn : ∀ i s', i < n → Inv F s' (J i) (M i) → Ex F body (fun f s'' => match f with
      | .next => Inv F s'' (J (i + 1)) (M (i + 1))
      | .cont => Inv F s'' (J (i + 1)) (M (i + 1))
      | .brk => False
      | .ret v => Q (.ret v) s'') s')
    (done : ∀ s', Inv F s' (J n) (M n) → Ex F rest Q s') : Ex F (.While test body [] pos :: rest) Q s := by
  refine wpAny_execs_cons (wpAny_While ?_)
  refine codeAny_whileLoop (fun m s' => ∃ i, i ≤ n ∧ m = n - i ∧ Inv F s' (J i) (M i)) ?_ n ⟨0, Nat.zero_le _, rfl, by rw [hM0]; exact I.re h0⟩
  rintro m s' ⟨i, hi, rfl, Ii⟩
  refine wpAny_mono (ht i s' hi Ii s' (.refl _) _ fun s₂ g => ?_) (fun _ _ h => h) fun _ _ e => e.elim
  have I₂ := Ii.gr g
  by_cases hlt : i < n
  · rw [decide_eq_true hlt, if_pos rfl]
    refine wpAny_mono (turn i s₂ hlt I₂) (fun f s₃ h => ?_) fun _ _ e => e.elim
    cases f with
    | next => exact ⟨n - (i + 1), by omega, i + 1, hlt, rfl, h⟩
    | cont => exact ⟨n - (i + 1), by omega, i + 1, hlt, rfl, h⟩
    | brk => exact h.elim
    | ret v => exact h
  · rw [decide_eq_false hlt, if_neg (by simp)]
    have : i = n := by omega
    subst this
    exact wpAny_execs_nil (done s₂ I₂)

/-- x += e, x a list of the frame's own, e a list -/
theorem x_augList {a : Addr} {ds es : List D} {μ₁ μ₂ : List (Addr × Wn)} (I : Inv F s σ μ) (hx : Look F.env s.heap x (.ref a)) (hμ : μ = μ₁ ++ (a, .lst ds) :: μ₂) (he : FEv F μ s e (.list es)) (hz : ds.length + es.length ≤ sizeLine)
    (kk : ∀ s', Inv F s' ((x, .raw (.ref a)) :: σ) (μ₁ ++ (a, .lst (ds ++ es)) :: μ₂) → Ex F rest Q s') (hk : Bindable F x) : Ex F (.AugAssign (.Name x px) .Add e pos :: rest) Q s := by
  have hm : (a, Wn.lst ds) ∈ μ := by rw [hμ]; simp
  refine wpAny_execs_cons (wpAny_AugAssign_Name (hx.load (he.now _ fun u s₂ g ru => ?_)))
  cases ru with
  | @list b ws m _ hb rb =>
    have I₂ := I.gr g
    obtain ⟨vs, n, ho, hr⟩ := I₂.muts a _ hm
    refine iadd_list ho hb.1 (by rw [Reps.length hr, rb.length]; exact hz) fun h' n' ho' hs => ?_
    have I₃ := I₂.setList hμ hs ho' (w' := .lst (ds ++ es)) (Reps.append hr rb)
    exact Inv.store I₃ (sl := .raw (.ref a)) rfl (fun s₄ I₄ _ => kk s₄ I₄) hk

/-- x, y = e, e a pair -/
theorem x_unpack2 {d₁ d₂ : D} (hh : F.A.handled = none) (I : Inv F s σ μ) (he : FEv F μ s e (.tuple [d₁, d₂])) (kk : ∀ s', Inv F s' ((y, .dat d₂) :: (x, .dat d₁) :: σ) μ → Ex F rest Q s') (hx : Bindable F x) (hy : Bindable F y)
    (hs : swapsWithSole [.Tuple [.Name x px, .Name y py] k pt] e pos.line F.env = pure false := by rfl) (hw : swappedStores [.Tuple [.Name x px, .Name y py] k pt] e F.env = pure none := by rfl) :
    Ex F (.Assign [.Tuple [.Name x px, .Name y py] k pt] e pos :: rest) Q s := by
  refine wpAny_execs_cons (PyProof.Rows.Assign_Tuple (he.now _ fun v s₁ g r => ?_) hs hw)
  have I₁ := I.gr g
  cases r with
  | @tuple l vs n _ hl rl =>
    obtain ⟨u₁, u₂, rfl, r₁, r₂⟩ := two_dat rl
    have hT : s₁.heap.IsTuple l [u₁, u₂].toArray := ⟨_, hl.1, rfl, n, rfl⟩
    refine wpAny_assign_Tuple hh hT rfl rfl fun h₃ hx₃ => ?_
    have g₂ : Gr s₁ { s₁ with heap := h₃ } := .keeps fun a o e => hx₃ a o (Nat.ne_of_lt (Heap.lt_size e)) e
    have I₂ := I₁.gr g₂
    show wpAny _ _ (do holding [u₂] (assign (.Name x px) F.env u₁); do holding [] (assign (.Name y py) F.env u₂); pure ()) _ _ _
    have keep : ∀ {s₃ s₄ : Shared} {u : Value} {d : D}, (∀ a o, a ∉ F.own μ → s₃.heap.get? a = some o → s₄.heap.get? a = some o) → Rep (Fz (F.all μ) s₃.heap) u d → Rep (Fz (F.all μ) s₄.heap) u d := fun k r => r.mono fun a o x => ⟨k a o (fun hm => x.2 (List.mem_append.mpr (.inl hm))) x.1, x.2⟩
    refine wpAny_bind (wpAny_holding (wpAny_assign_Name (Inv.store I₂ (sl := .dat d₁) (g₂.rep r₁) (fun s₃ I₃ k₃ => ?_) hx)))
    exact wpAny_bind (wpAny_holding (wpAny_assign_Name (Inv.store I₃ (sl := .dat d₂) (keep k₃ (g₂.rep r₂)) (fun s₄ I₄ k₄ => wpAny_pure (kk s₄ I₄)) hy)))

/-- [elt for x in iter if c] -/
theorem run_filter {elt iter c : Expr} {scope : Scope} {ds res : List D} {keep : Nat → Bool} {item : Nat → D} (hh : F.A.handled = none) (I : Inv F s σ μ) (he : FEv F μ s iter d) (hi : IterD d ds) (hres : outsTo (fun i => if keep i = true then [item i] else []) ds.length = res) (hz : res.length ≤ sizeLine)
    (turn : ∀ i, i < ds.length → ∀ (cenv : Env) (s₁ : Shared) (D₀ : Addr), CompOf cenv F.env scope → Gr s s₁ → ∀ (B : Addr → Obj → Prop) (O : List Addr) (s' : Shared) (acc : List D), Gr s₁ s' → Inv ⟨F.prog, F.w, F.A, cenv, O, B, [], s₁⟩ s' ((x, .dat (ds.getD i .none)) :: σc) [(D₀, .lst acc)] →
      Tr F.prog F.w F.A cenv s' c (keep i) ∧ (keep i = true → FEv ⟨F.prog, F.w, F.A, cenv, O, B, [], s₁⟩ [(D₀, .lst acc)] s' elt (item i)))
    (hcs : CSub F scope σ σc) (hfree : ∀ x ∈ scope.names, x.2 = .free → ∃ c, F.env.cells.lookup x.1 = some c)
    (hcell : ∀ y ∈ scope.names, y.2 ≠ .cell) (hkind : scope.kind = .function) (hnames : ∀ x ∈ scope.names, x.2 = .local → scope.names.lookup x.1 = some .local) (hx : scope.names.lookup x = some .local)
    (hs : ∀ v, foldedSetIterable iter F.env v = pure v := by intro _; rfl) :
    CompRun F s σ μ (.ListComp elt [⟨.Name x px, iter, [c], 0⟩] scope pos) scope (eval iter F.env) res :=
  run_head (outs := fun i => if keep i = true then [item i] else []) (gens := []) hh I he hi hres hz (fun cenv it D₀ hcf => lr_last rfl rfl) (fun cenv D₀ => emitT_mono)
    (fun i hi cenv s₁ D₀ hcf g => ad_emit fun B O s' acc g' I' => by
      obtain ⟨h1, h2⟩ := turn i hi cenv s₁ D₀ hcf g B O s' acc g' I'
      exact ⟨.one h1, h2⟩) hcs hfree hcell hkind hnames hx hs

/-- a name that is no local name bears nothing -/
theorem Inv.absurdName {sl : Sl} (I : Inv F s ((x, sl) :: σ) μ) (hk : F.env.kindOf x = some .globalImplicit) : False := by
  obtain ⟨lm, cm, hn, hc, hcs, hv⟩ := I.mem
  obtain ⟨v, h, _⟩ := hv x sl lk_head
  unfold got at h
  rw [hk] at h
  cases h
end
end Mine

namespace Mine
open PySem PySem.Calls PySem.Flt

abbrev P2 := PySem.Challenge.pw_wo0002_02
local macro_rules | `(tactic| walk_at "lk") => `(tactic| first | exact lk_here (by with_reducible rfl) rfl | exact lk_tail (by kernel_rfl) (by walk_at "lk"))

section
variable {prog : Program} {w : World} {A : Around} {env : Env} {O : List Addr} {s : Shared}
theorem esc2_call {a : Addr} {y : Str} {mg : Str → Option Value} (G : Glb mg s.heap) (hmg : mg "enumerate" = none) (rm : Rm 3 A) (hf : Fn P2 5 s.heap a) (hx : Asc y) {t : Tok}
    {Q : Value → Shared → Prop} (hQ : ∀ s' ga, MadeGen prog w A (escs 0 y.cps.toList false) s s' ga → Q (.ref ga) s') : wpAny (model prog w) A (call (.ref a) [.str y t]) Q Never s := by
  refine call_gen (p := "addr") G.nolimit rm.room hf (fun pm cd doc => rfl) (by kernel_rfl) (fun n => rfl) (fun N env s'' hsc hgl hbi hce hL hNL hk hN hm => ?_) (hQ := hQ)
  obtain ⟨m, hns, hm⟩ := hm
  have kd : ∀ {z : Str} {k : Option NameKind}, (defAt P2 5).2.2.2.names.lookup z = k → env.kindOf z = k := fun {z k} h => by
    unfold Env.kindOf; rw [hsc]; exact h
  exact esc_start (A := A.in1) (h₀ := s.heap) (mg := mg) (show A.in1.handled = none from rm.hh) hx hce (by rw [hsc]; rfl) (kd (by kernel_rfl)) (kd (by kernel_rfl)) (kd (by kernel_rfl)) (by rw [hsc]; rfl) hL hNL (kd (by kernel_rfl)) hgl hbi hmg G hk hN
    (Inv.start (by rw [hsc]; rfl) (kd (by kernel_rfl)) hce hns hm fun P => .str _ _)
theorem strip2_ok {a ga : Addr} {x : Str} {mg : Str → Option Value} (G : Glb mg s.heap) (hme : mg "enumerate" = none) (hml : mg "len" = none) (hmi : mg "_iter_escaped_chars" = some (.ref ga)) (hfg : Fn P2 5 s.heap ga) (rm : Rm 4 A) (lv : Live O s.heap) (hf : Fn P2 6 s.heap a) (hx : Asc x) (hz : x.length ≤ 4000) :
    CallTo prog w A O s (.ref a) [.str x] (.str (stripS x)) := by
  have hsz : sizeLine = 16777216 := sizeLine_eq
  refine fn_call ["addr"] [("addr", .dat (.str x))] G.nolimit rm.room hf lv (by decide +kernel) rfl ?_ (by kernel_rfl) ?_
  · intro vs hv pm cd doc
    obtain ⟨u, rfl⟩ : ∃ u, vs = [u] := by
      match vs, hv with
      | [u], _ => exact ⟨u, rfl⟩
    rfl
  · intro s₀ env L s₁ g lv₀ fo I g₁
    have rm' : Rm 3 (A.deeper env) := rm.deeper
    refine x_if (b := !Txt.contains x "\"") (Tr.cmp Ev.str (Ev.name (I.varOld (by walk_at "lk"))) I.live op_notInS) (fun s₂ g₂ hb => ?_) (fun s₂ g₂ hb => ?_)
    · have I₂ := I.gr g₂
      refine x_return (Ev.name (I₂.varOld (by walk_at "lk"))) fun v s' g' r => ⟨(I₂.grow fun _ _ h => h).trans g', ?_⟩
      have e : stripS x = x := by unfold stripS; rw [if_neg]; simpa using hb
      rw [e]; exact r
    · have I₂ := I.gr g₂
      have hc : Txt.contains x "\"" = true := by simpa using hb
      refine x_nil ?_
      refine x_assign I₂ Ev.int ?_ (.inl (fo.kind (by kernel_rfl)))
      intro s₃ I₃
      refine x_assign I₃ Ev.cnone ?_ (.inl (fo.kind (by kernel_rfl)))
      intro s₄ I₄
      refine x_assignNew I₄ Evs.nil (by decide) ?_ (.inl (fo.kind (by kernel_rfl)))
      intro s₅ R I₅
      have G₅ : Glb mg s₅.heap := G.keeps (g.trans (I₅.grow fun _ _ h => h)).heap
      refine x_forGen (outs := escs 0 x.cps.toList false) rm'.hh rm'.room I₅ (fun h hB => (G.keeps g.heap).nolimit.keeps hB) (fun Q hQ => ?_) (fun i => sigS x R (stAt x i)) (fun i => [(R, .lst ((stAt x i).res.map D.str))])
        ⟨lk_tail (by kernel_rfl) lk_head, lk_tail (by kernel_rfl) (lk_tail (by kernel_rfl) lk_head), lk_head, by walk_at "lk", trivial⟩ rfl (fun i => rfl) (.inl (fo.kind (by kernel_rfl))) (.inl (fo.kind (by kernel_rfl))) (fun i => sigS_sc x R _) (fun i b u hm => ?_) ?_ ?_
      · exact gen_eval (EvV.glob G₅ hmi (by rw [fo.sc]; rfl) (fo.kind (by kernel_rfl)) fo.gl) (Ev.name (I₅.varOld (by walk_at "lk"))) (FnAt.keeps hfg (g.trans (I₅.grow fun _ _ h => h)).heap)
          (fun s₆ g₆ t Q hQ => esc2_call (G₅.keeps g₆.heap) hme rm' (FnAt.keeps hfg ((g.trans (I₅.grow fun _ _ h => h)).trans g₆).heap) hx hQ) (hQ := hQ)
      · rw [List.mem_singleton] at hm
        cases hm
        intro d hd
        obtain ⟨y, _, rfl⟩ := List.mem_map.mp hd
        rfl
      · intro i p c B s₀' s' hi hB I
        have hss := stAt_succ hi
        show Ex _ _ (fun f s'' => match f with | .next | .cont => Inv _ s'' (sigS x R (stAt x (i + 1))) [(R, .lst ((stAt x (i + 1)).res.map D.str))] | _ => False) s'
        rw [hss]
        generalize hst : stAt x i = st at I
        have hlen : st.res.length ≤ x.length + 1 := hst ▸ stAt_len x i
        have e34 : ((⟨c.toArray⟩ : Str) == Str.ofString "\"") = (c == [34]) := by
          have : Str.ofString "\"" = ⟨[34].toArray⟩ := by kernel_rfl
          rw [this]
          by_cases h : c = [34]
          · subst h; rfl
          · have h1 : (c == [34]) = false := by simpa using h
            rw [h1]
            apply beq_eq_false_iff_ne.mpr
            intro e
            apply h
            have := congrArg (fun s : Str => s.cps.toList) e
            exact this
        refine x_if (b := c == [34]) (Tr.cmp (Ev.name (I.varOld (by walk_at "lk"))) Ev.str I.live (e34 ▸ op_eqS)) (fun s₆ g₆ hb => ?_) (fun s₆ g₆ hb => ?_)
        · have I₆ := I.gr g₆
          refine x_if (b := st.op == none) (Tr.cmp (Ev.name (d := opD st.op) (I₆.varOld (by walk_at "lk"))) Ev.cnone I₆.live op_isNone') (fun s₇ g₇ hb₂ => ?_) (fun s₇ g₇ hb₂ => ?_)
          · have I₇ := I₆.gr g₇
            have ho : st.op = none := by simpa using hb₂
            refine x_assign I₇ (Ev.name (I₇.var (by walk_at "lk"))) ?_ (.inl (fo.kind (by kernel_rfl)))
            intro s₈ I₈
            refine x_nil (x_nil (x_nil ?_))
            have e : stepS x st (p, c) = ⟨st.start, some p, st.res⟩ := by unfold stepS; rw [if_pos hb, ho]
            rw [e]
            exact I₈.re ⟨lk_head, by walk_at "lk", by walk_at "lk", by walk_at "lk", trivial⟩
          · have I₇ := I₆.gr g₇
            obtain ⟨o, ho⟩ : ∃ o, st.op = some o := by
              cases h : st.op with
              | none => rw [h] at hb₂; cases hb₂
              | some o => exact ⟨o, rfl⟩
            have hss' : stepS x st (p, c) = ⟨p + 1, none, if st.start == o then st.res else st.res ++ [Txt.slice x (some (st.start : Int)) (some (o : Int))]⟩ := by unfold stepS; rw [if_pos hb, ho]
            have I₇' : Inv _ s₇ (("ch", .dat (.str ⟨c.toArray⟩)) :: ("pos", .dat (.int (p : Nat))) :: ("open_pos", .dat (.int (o : Int))) :: ("start", .dat (.int (st.start : Nat))) :: ("result", .raw (.ref R)) :: ("addr", .dat (.str x)) :: []) _ := I₇.re ⟨lk_head, by walk_at "lk", by rw [← show opD st.op = .int (o : Int) by rw [ho]; rfl]; walk_at "lk", by walk_at "lk", by walk_at "lk", by walk_at "lk", trivial⟩
            have hb3 : (((st.start : Nat) : Int) != (o : Int)) = !(st.start == o) := by
              have : (((st.start : Nat) : Int) == (o : Int)) = (st.start == o) := by
                rw [Bool.eq_iff_iff]; simp only [beq_iff_eq]; omega
              unfold bne; rw [this]
            refine x_if (b := !(st.start == o)) (Tr.cmp (Ev.name (I₇'.varOld (by walk_at "lk"))) (Ev.name (I₇'.varOld (by walk_at "lk"))) I₇'.live (hb3 ▸ op_neI)) (fun s₈ g₈ hb₈ => ?_) (fun s₈ g₈ hb₈ => ?_)
            · have I₈ := I₇'.gr g₈
              refine x_append (μ₁ := []) (μ₂ := []) I₈ (I₈.raw (by walk_at "lk")) rfl (Ev.sliceS (Ev.name (I₈.var (by walk_at "lk"))) (EvP.some (Ev.name (O := []) (Var.weaken (I₈.varOld (by walk_at "lk")) (fun _ h => nomatch h)))) (EvP.some (Ev.name (O := []) (Var.weaken (I₈.varOld (by walk_at "lk")) (fun _ h => nomatch h)))) (by omega)) (by rw [List.length_map]; omega) ?_
              intro s₉ I₉
              have hb' : (st.start == o) = false := by simpa using hb₈
              rw [hss', if_neg (by rw [hb']; exact Bool.false_ne_true)]
              refine x_nil (x_assign I₉ (Ev.bin (Ev.name (I₉.var (by walk_at "lk"))) Ev.int I₉.liveAll op_addI) ?_ (.inl (fo.kind (by kernel_rfl))))
              intro s₁₀ I₁₀
              refine x_assign I₁₀ Ev.cnone ?_ (.inl (fo.kind (by kernel_rfl)))
              intro s₁₁ I₁₁
              refine x_nil (x_nil (x_nil ?_))
              rw [List.map_append]
              exact I₁₁.re ⟨lk_head, lk_tail (by kernel_rfl) lk_head, by walk_at "lk", by walk_at "lk", trivial⟩
            · have I₈ := I₇'.gr g₈
              have hb' : (st.start == o) = true := by simpa using hb₈
              rw [hss', if_pos hb']
              refine x_nil (x_assign I₈ (Ev.bin (Ev.name (I₈.var (by walk_at "lk"))) Ev.int I₈.liveAll op_addI) ?_ (.inl (fo.kind (by kernel_rfl))))
              intro s₁₀ I₁₀
              refine x_assign I₁₀ Ev.cnone ?_ (.inl (fo.kind (by kernel_rfl)))
              intro s₁₁ I₁₁
              refine x_nil (x_nil (x_nil ?_))
              exact I₁₁.re ⟨lk_head, lk_tail (by kernel_rfl) lk_head, by walk_at "lk", by walk_at "lk", trivial⟩
        · have I₆ := I.gr g₆
          have e : stepS x st (p, c) = st := by unfold stepS; rw [if_neg (by rw [hb]; exact Bool.false_ne_true)]
          rw [e]
          refine x_nil (x_nil ?_)
          exact I₆.re ⟨by walk_at "lk", by walk_at "lk", by walk_at "lk", by walk_at "lk", trivial⟩
      · intro s₆ I₆
        rw [stAt_all] at I₆
        have gg : Gr s s₆ := g.trans (I₆.grow fun _ _ h => h)
        have hlen : (runS x).res.length ≤ x.length + 1 := by have := stAt_len x (escs 0 x.cps.toList false).length; rw [stAt_all] at this; exact this
        have hlt : decide ((((runS x).start : Nat) : Int) < (x.length : Int)) = decide ((runS x).start < x.length) := by
          rw [Bool.eq_iff_iff]; simp only [decide_eq_true_eq]; omega
        have fin : ∀ s₇, Inv (fxOf prog w A O s₀ env) s₇ (sigS x R (runS x)) [(R, .lst ((resS x).map D.str))] → Ex (fxOf prog w A O s₀ env) ((defAt P2 6).2.2.1.drop 6) (Back s₀ O (.str (stripS x))) s₇ := fun s₇ I₇ => by
          have e : stripS x = Builtin.Str.glued (Str.ofString "") (resS x) := by unfold stripS; rw [if_pos hc]
          have h1 := resS_len x
          have h2 := sum_len (resS x) (resS_mem x)
          have h3 : (resS x).length * x.length ≤ 4002 * 4000 := Nat.mul_le_mul (by omega) hz
          have h4 : (Str.ofString "").length = 0 := by kernel_rfl
          refine x_return (Ev.join Ev.str (Ev.name (I₇.varOwn (by walk_at "lk") (List.mem_singleton.mpr rfl))) ?_ ?_) fun v s' g' r => ⟨(I₇.grow fun _ _ h => h).trans g', ?_⟩
          · rw [h4]
            exact join_fits _ (by omega)
          · have h5 := size_glued (Str.ofString "") (resS x)
            rw [h4] at h5; omega
          · rw [e]; exact r
        refine x_if (b := decide ((runS x).start < x.length)) (Tr.cmp (Ev.name (I₆.varOld (by walk_at "lk"))) (Ev.callB (EvV.built (G.keeps gg.heap) hml (by kernel_rfl) (by rw [fo.sc]; rfl) (fo.kind (by kernel_rfl)) fo.gl fo.bi (by decide +kernel)) (Evs.cons (Ev.name (I₆.varOld (by walk_at "lk"))) Evs.nil) (call_len_S (by omega))) I₆.live (hlt ▸ op_ltI)) (fun s₇ g₇ hb => ?_) (fun s₇ g₇ hb => ?_)
        · have I₇ := I₆.gr g₇
          have hb' : (runS x).start < x.length := by simpa using hb
          refine x_append (μ₁ := []) (μ₂ := []) I₇ (I₇.raw (by walk_at "lk")) rfl (Ev.sliceS (Ev.name (I₇.var (by walk_at "lk"))) (EvP.some (Ev.name (O := []) (Var.weaken (I₇.varOld (by walk_at "lk")) (fun _ h => nomatch h)))) EvP.none (by omega)) (by rw [List.length_map]; omega) ?_
          intro s₈ I₈
          refine x_nil (fin s₈ ?_)
          have e : resS x = (runS x).res ++ [Txt.slice x (some ((runS x).start : Int)) none] := by unfold resS; rw [if_pos hb']
          rw [e, List.map_append]
          exact I₈
        · have I₇ := I₆.gr g₇
          have hb' : ¬ (runS x).start < x.length := by simpa using hb
          refine x_nil (fin s₇ ?_)
          have e : resS x = (runS x).res := by unfold resS; rw [if_neg hb']
          rw [e]
          exact I₇
theorem quote2_ok {a P : Addr} {nm : Str} {b : Array UInt8} {mg : Str → Option Value} (G : Glb mg s.heap) (hm : mg "_twin_re_1" = some (.ref P)) (hP : IsPattern s.heap P (dotRec nm)) (rm : Rm 2 A) (lv : Live O s.heap) (hf : Fn P2 3 s.heap a) (hz : 3 * b.size + 8 < sizeLine) :
    CallTo prog w A O s (.ref a) [.bytes b] (.bytes (stuffB b)) := by
  refine fn_call ["bindata"] [("bindata", .dat (.bytes b))] G.nolimit rm.room hf lv (by decide +kernel) rfl ?_ (by kernel_rfl) ?_
  · intro vs hv pm cd doc
    obtain ⟨u, rfl⟩ : ∃ u, vs = [u] := by
      match vs, hv with
      | [u], _ => exact ⟨u, rfl⟩
    rfl
  · intro s₀ env L s₁ g lv₀ fo I g₁
    have gg := g.trans g₁
    refine x_return (Ev.sub2 (EvV.glob (G.keeps gg.heap) hm (by rw [fo.sc]; rfl) (fo.kind (by kernel_rfl)) fo.gl) (IsPattern.gr hP gg) Ev.bytes (Ev.name (I.varOld (by walk_at "lk"))) hz) ?_
    intro v s' g' r
    exact ⟨(I.grow fun _ _ h => h).trans g', r⟩
end
end Mine

namespace Mine
open PySem PySem.Calls PySem.Flt PySem.Builtin.Str

local macro_rules | `(tactic| walk_at "lk") => `(tactic| first | exact lk_here (by with_reducible rfl) rfl | exact lk_tail (by kernel_rfl) (by walk_at "lk"))

def freeNames2 : List Str := ["enumerate", "len", "range", "max", "sum", "sorted"]
structure Top2 (mg : Str → Option Value) (h : Heap) : Prop where
  G : Glb mg h
  free : ∀ x ∈ freeNames2, mg x = none
  esc : ∃ a, mg "_iter_escaped_chars" = some (.ref a) ∧ Fn P2 5 h a
  strip : ∃ a, mg "_strip_quoted_realnames" = some (.ref a) ∧ Fn P2 6 h a
  pat : ∃ P nm, mg "_twin_re_1" = some (.ref P) ∧ IsPattern h P (dotRec nm)
  quote : ∃ a, mg "_quote_periods" = some (.ref a) ∧ Fn P2 3 h a
  cells : ∃ a, mg "_law_cells" = some (.ref a) ∧ Fn P2 8 h a
  worths : ∃ a, mg "_law_worths" = some (.ref a) ∧ Fn P2 9 h a
  written : ∃ a, mg "_law_written" = some (.ref a) ∧ Fn P2 10 h a
  dots : ∃ a, mg "_law_dots" = some (.ref a) ∧ Fn P2 11 h a
  rows : ∃ a, mg "_law_rows" = some (.ref a) ∧ Fn P2 12 h a
  grown : ∃ a, mg "_law_grown" = some (.ref a) ∧ Fn P2 13 h a
  times : ∃ a, mg "_law_times" = some (.ref a) ∧ Fn P2 14 h a
  melted : ∃ a, mg "_law_melted" = some (.ref a) ∧ Fn P2 15 h a
theorem Top2.keeps {mg : Str → Option Value} {h h' : Heap} (X : Top2 mg h) (hk : ∀ a o, h.get? a = some o → h'.get? a = some o) : Top2 mg h' where
  G := X.G.keeps hk
  free := X.free
  esc := let ⟨a, e, f⟩ := X.esc; ⟨a, e, FnAt.keeps f hk⟩
  strip := let ⟨a, e, f⟩ := X.strip; ⟨a, e, FnAt.keeps f hk⟩
  pat := let ⟨P, nm, e, f⟩ := X.pat; ⟨P, nm, e, f.keeps hk⟩
  quote := let ⟨a, e, f⟩ := X.quote; ⟨a, e, FnAt.keeps f hk⟩
  cells := let ⟨a, e, f⟩ := X.cells; ⟨a, e, FnAt.keeps f hk⟩
  worths := let ⟨a, e, f⟩ := X.worths; ⟨a, e, FnAt.keeps f hk⟩
  written := let ⟨a, e, f⟩ := X.written; ⟨a, e, FnAt.keeps f hk⟩
  dots := let ⟨a, e, f⟩ := X.dots; ⟨a, e, FnAt.keeps f hk⟩
  rows := let ⟨a, e, f⟩ := X.rows; ⟨a, e, FnAt.keeps f hk⟩
  grown := let ⟨a, e, f⟩ := X.grown; ⟨a, e, FnAt.keeps f hk⟩
  times := let ⟨a, e, f⟩ := X.times; ⟨a, e, FnAt.keeps f hk⟩
  melted := let ⟨a, e, f⟩ := X.melted; ⟨a, e, FnAt.keeps f hk⟩

/-- a built-in name, by its frame -/
theorem bt2 {prog : Program} {w : World} {A' : Around} {env : Env} {scope : Scope} {L : Addr} {s s' : Shared} {mg : Str → Option Value} {p : Pos} (fo : FrameOf env scope L) (hsk : scope.kind = .function) (X : Top2 mg s.heap) (g' : Gr s s') (x : Str) {v : Value} (hx : x ∈ freeNames2) (hb : bootBuiltins x = some v) (hk : scope.names.lookup x = some .globalImplicit) (hd : (x == ("__debug__" : Str)) = false) (hn : x ≠ "__name__") : EvV prog w A' env s' (.Name x p) v :=
  EvV.built (X.keeps g'.heap).G (X.free _ hx) hb (by rw [fo.sc]; exact hsk) (fo.kind hk) fo.gl fo.bi hn hd

section
variable {prog : Program} {w : World} {A : Around} {env : Env} {O : List Addr} {s : Shared} {d : D}

theorem Ev.callFn0 {x : Str} {np pos : Pos} {a : Addr} {nm : Str} {params : Arguments} {body : List Stmt} {scope : Scope} (hf : EvV prog w A env s (.Name x np) (.ref a)) (hfn : FnAt s.heap a nm params body scope) (hc : CallTo prog w A O s (.ref a) [] d) : Ev prog w A env O s (.Call (.Name x np) [] [] pos) d := fun s₁ g Q hQ => by
  obtain ⟨o, pm, cd, doc, ho, hd, _⟩ := hfn
  show wpAny _ A (do callWith pos (← eval (.Name x np) env) [] (backTo pos (starEach [] env)) (backToKw pos (keywordEach [] env))) Q Never s₁
  refine wpAny_bind (hf s₁ g _ _ (callWith_function (o := o) (fd := docDef nm params body scope pm cd doc) ?_))
  exact PyProof.Rows.evalArgs_none ⟨⟨g.heap _ _ ho, hd⟩, hc s₁ g [] .nil Q hQ⟩

def cells2At (ns : List Int) : Nat → List Int
  | 0 => [0, 0, 0, 0, 2]
  | i + 1 => (cells2At ns i).set (i % 5) ((cells2At ns i).getD (i % 5) 0 + ns.getD i 0)
theorem cells2At_len (ns : List Int) : ∀ i, (cells2At ns i).length = 5
  | 0 => rfl
  | i + 1 => by rw [cells2At, List.length_set, cells2At_len ns i]
def cells2F (ns : List Int) : List Int := cells2At ns ns.length

theorem cells2_ok {a : Addr} {ns : List Int} {mg : Str → Option Value} (X : Top2 mg s.heap) (rm : Rm 2 A) (lv : Live O s.heap) (hf : Fn P2 8 s.heap a) :
    CallTo prog w A O s (.ref a) [.list (ns.map D.int)] (.list ((cells2F ns).map D.int)) := by
  refine fn_call ["script"] [("script", .dat (.list (ns.map D.int)))] X.G.nolimit rm.room hf lv (by decide +kernel) rfl ?_ (by kernel_rfl) ?_
  · intro vs hv pm cd doc
    obtain ⟨u, rfl⟩ : ∃ u, vs = [u] := by
      match vs, hv with
      | [u], _ => exact ⟨u, rfl⟩
    rfl
  · intro s₀ env L s₁ g lv₀ fo I g₁
    have rm' : Rm 1 (A.deeper env) := rm.deeper
    refine x_assignNew I (Evs.cons Ev.int (Evs.cons Ev.int (Evs.cons Ev.int (Evs.cons Ev.int (Evs.cons Ev.int Evs.nil))))) (by show 5 ≤ sizeLine; rw [sizeLine_eq]; decide) ?_ (.inl (fo.kind (by kernel_rfl)))
    intro s₂ C I₂
    have hlen : (ns.map D.int).length = ns.length := List.length_map ..
    refine x_forEnum (ds := ns.map D.int) rm'.hh I₂ (bt2 fo rfl X (g.trans (I₂.grow fun _ _ h => h)) "enumerate" (by decide) (by kernel_rfl) (by kernel_rfl) (by kernel_rfl) (by decide +kernel)) (Ev.name (I₂.var (by walk_at "lk")))
      (fun _ => [("cells", .raw (.ref C)), ("script", .dat (.list (ns.map D.int)))]) (fun i => [(C, .lst ((cells2At ns i).map D.int))]) ⟨by walk_at "lk", by walk_at "lk", trivial⟩ rfl (fun _ => rfl) (.inl (fo.kind (by kernel_rfl))) (.inl (fo.kind (by kernel_rfl))) ?_ ?_
    · intro i B O' s' hi hB hO I'
      rw [hlen] at hi
      have hl3 := cells2At_len ns i
      have hd : (ns.map D.int).getD i .none = .int (ns.getD i 0) := by
        rw [List.getD_eq_getElem?_getD, List.getElem?_map, List.getElem?_eq_getElem hi, List.getD_eq_getElem?_getD, List.getElem?_eq_getElem hi]; rfl
      rw [hd] at I'
      have hm : ((i : Int).fmod 5) = ((i % 5 : Nat) : Int) := by
        rw [Int.fmod_eq_emod_of_nonneg _ (by decide)]; omega
      have h3 : i % 5 < 5 := Nat.mod_lt _ (by decide)
      refine x_augItem (μ₁ := []) (μ₂ := []) (d₀ := .int ((cells2At ns i).getD (i % 5) 0)) I' (I'.raw (by walk_at "lk")) rfl ((Ev.bin (Ev.name (I'.var (by walk_at "lk"))) Ev.int I'.liveAll (op_modI (by decide))).cast (congrArg D.int hm)) (Ev.name (I'.var (by walk_at "lk"))) (by omega) (by omega) ?_ rfl op_iaddI ?_
      · rw [Int.toNat_natCast, List.getElem?_map, List.getElem?_eq_getElem (by omega), List.getD_eq_getElem?_getD, List.getElem?_eq_getElem (by omega)]; rfl
      · intro s'' I''
        refine x_nil ?_
        rw [Int.toNat_natCast, ← List.map_set] at I''
        exact I''.re ⟨by walk_at "lk", by walk_at "lk", trivial⟩
    · intro s₃ I₃
      refine x_return (Ev.name (I₃.varOwn (by walk_at "lk") (List.mem_singleton.mpr rfl))) fun v s' g' r => ⟨(I₃.grow fun _ _ h => h).trans g', ?_⟩
      rw [hlen] at r
      exact r

def wl : Nat → List Nat
  | 0 => [1, 2]
  | i + 1 => wl i ++ [(wl i).getD (i + 1) 0 + (wl i).getD i 0]
theorem wl_len : ∀ i, (wl i).length = i + 2
  | 0 => rfl
  | i + 1 => by rw [wl, List.length_append, wl_len i]; rfl
def worthsL : List Nat := wl 18

theorem worths_ok {a : Addr} {mg : Str → Option Value} (X : Top2 mg s.heap) (rm : Rm 2 A) (lv : Live O s.heap) (hf : Fn P2 9 s.heap a) : CallTo prog w A O s (.ref a) [] (.list (natsD worthsL)) := by
  have hsz : sizeLine = 16777216 := sizeLine_eq
  refine fn_call [] [] X.G.nolimit rm.room hf lv (by decide +kernel) rfl ?_ (by kernel_rfl) ?_
  · intro vs hv pm cd doc
    have : vs = [] := List.eq_nil_of_length_eq_zero hv
    subst this
    rfl
  · intro s₀ env L s₁ g lv₀ fo I g₁
    have rm' : Rm 1 (A.deeper env) := rm.deeper
    refine x_assignNew I (Evs.cons Ev.int (Evs.cons Ev.int Evs.nil)) (by show 2 ≤ sizeLine; omega) ?_ (.inl (fo.kind (by kernel_rfl)))
    intro s₂ W I₂
    have up : ∀ {s' σ μ}, Inv (fxOf prog w A O s₀ env) s' σ μ → Gr s s' := fun J => g.trans (J.grow fun _ _ h => h)
    refine x_while 18 I₂ (fun _ => [("worths", .raw (.ref W))]) (fun i => [(W, .lst (natsD (wl i)))]) ⟨by walk_at "lk", trivial⟩ rfl (fun i s' hi I' => ?_) (fun i s' hi I' => ?_) (fun s' I' => ?_)
    · have hl := wl_len i
      have hb : decide ((((natsD (wl i)).length : Nat) : Int) < 20) = decide (i < 18) := by
        rw [natsD_len, hl, Bool.eq_iff_iff, decide_eq_true_eq, decide_eq_true_eq]; omega
      exact Tr.cmp (Ev.callB (bt2 fo rfl X (up I') "len" (by decide) (by kernel_rfl) (by kernel_rfl) (by kernel_rfl) (by decide +kernel)) (Evs.cons (Ev.name (I'.varOwn (by walk_at "lk") (List.mem_singleton.mpr rfl))) Evs.nil) (call_len_L (by rw [natsD_len, hl]; omega))) Ev.int I'.live (hb ▸ op_ltI)
    · have hl := wl_len i
      have e1 : (natsD (wl i))[((-1 : Int) + (natsD (wl i)).length).toNat]? = some (.int (((wl i).getD (i + 1) 0 : Nat) : Int)) := natsD_get (n := i + 1) (by rw [natsD_len]; omega) (by omega)
      have e2 : (natsD (wl i))[((-2 : Int) + (natsD (wl i)).length).toNat]? = some (.int (((wl i).getD i 0 : Nat) : Int)) := natsD_get (n := i) (by rw [natsD_len]; omega) (by omega)
      refine x_append (μ₁ := []) (μ₂ := []) I' (I'.raw (by walk_at "lk")) rfl ((Ev.bin (Ev.sub (Ev.name (I'.varOwn (by walk_at "lk") (List.mem_singleton.mpr rfl))) (Ev.neg Ev.int) I'.live (op_itemLn (by decide) (by rw [natsD_len]; omega) (by decide) e1)) (Ev.sub (Ev.name (I'.varOwn (by walk_at "lk") (List.mem_singleton.mpr rfl))) (Ev.neg Ev.int) I'.live (op_itemLn (by decide) (by rw [natsD_len]; omega) (by decide) e2)) I'.live op_addI).scalar) (by rw [natsD_len]; omega) ?_
      intro s'' I''
      have e : natsD (wl i) ++ [D.int ((((wl i).getD (i + 1) 0 : Nat) : Int) + (((wl i).getD i 0 : Nat) : Int))] = natsD (wl (i + 1)) := by
        rw [wl, natsD_app]; rfl
      rw [e] at I''
      exact x_nil (I''.re ⟨by walk_at "lk", trivial⟩)
    · exact x_return (Ev.name (I'.varOwn (by walk_at "lk") (List.mem_singleton.mpr rfl))) fun v s' g' r => ⟨(I'.grow fun _ _ h => h).trans g', r⟩
end
end Mine

namespace Mine
open PySem PySem.Calls PySem.Flt PySem.Builtin.Str

local macro_rules | `(tactic| walk_at "lk") => `(tactic| first | exact lk_here (by with_reducible rfl) rfl | exact lk_tail (by kernel_rfl) (by walk_at "lk"))

def writS (n : Nat) : Nat → Nat × List Nat
  | 0 => (n, [])
  | k + 1 => if worthsL.getD (19 - k) 0 ≤ (writS n k).1 then ((writS n k).1 - worthsL.getD (19 - k) 0, (writS n k).2 ++ [20 - k]) else writS n k
def writN (n : Nat) : List Nat := (writS n 20).2
theorem writS_len (n : Nat) : ∀ k, (writS n k).2.length ≤ k
  | 0 => Nat.le_refl _
  | k + 1 => by
    have ih := writS_len n k
    rw [writS]
    split
    · rw [List.length_append]; simp; omega
    · omega
theorem worthsL_len : worthsL.length = 20 := wl_len 18

section
variable {prog : Program} {w : World} {A : Around} {env : Env} {O : List Addr} {s : Shared} {d : D}

theorem written_ok {a : Addr} {n : Nat} {mg : Str → Option Value} (X : Top2 mg s.heap) (rm : Rm 4 A) (lv : Live O s.heap) (hf : Fn P2 10 s.heap a) : CallTo prog w A O s (.ref a) [.int (n : Int)] (.list (natsD (writN n))) := by
  have hsz : sizeLine = 16777216 := sizeLine_eq
  refine fn_call ["number"] [("number", .dat (.int (n : Int)))] X.G.nolimit rm.room hf lv (by decide +kernel) rfl ?_ (by kernel_rfl) ?_
  · intro vs hv pm cd doc
    obtain ⟨u, rfl⟩ : ∃ u, vs = [u] := by
      match vs, hv with
      | [u], _ => exact ⟨u, rfl⟩
    rfl
  · intro s₀ env L s₁ g lv₀ fo I g₁
    have rm' : Rm 3 (A.deeper env) := rm.deeper
    have up : ∀ {s' σ μ}, Inv (fxOf prog w A O s₀ env) s' σ μ → Gr s s' := fun J => g.trans (J.grow fun _ _ h => h)
    refine x_assignNew I Evs.nil (by decide) ?_ (.inl (fo.kind (by kernel_rfl)))
    intro s₂ T I₂
    obtain ⟨q, hq, hfq⟩ := X.worths
    refine x_assign I₂ (Ev.callFn0 (EvV.glob (X.keeps (up I₂).heap).G hq (by rw [fo.sc]; rfl) (fo.kind (by kernel_rfl)) fo.gl) (FnAt.keeps hfq (up I₂).heap) (worths_ok (X.keeps (up I₂).heap) (rm'.le (by decide)) I₂.liveAll (FnAt.keeps hfq (up I₂).heap))) ?_ (.inl (fo.kind (by kernel_rfl)))
    intro s₃ I₃
    have hl := worthsL_len
    have h19 : (((natsD worthsL).length : Nat) : Int) - 1 = 19 := by rw [natsD_len, hl]; rfl
    have hi : IterD (.range 19 (-1) (-1)) ((List.range 20).map fun (k : Nat) => D.int (19 - (k : Int))) := by
      have h := IterD.range 19 (-1) (-1) (by decide) (by decide)
      have e : (rangeNs 19 (-1) (-1)).map D.int = (List.range 20).map fun (k : Nat) => D.int (19 - (k : Int)) := by rfl
      rw [e] at h
      exact h
    refine x_for (d := .range 19 (-1) (-1)) rm'.hh I₃ (Ev.callT (bt2 fo rfl X (up I₃) "range" (by decide) (by kernel_rfl) (by kernel_rfl) (by kernel_rfl) (by decide +kernel)) (Evs.cons ((Ev.bin (Ev.callB (bt2 fo rfl X (up I₃) "len" (by decide) (by kernel_rfl) (by kernel_rfl) (by kernel_rfl) (by decide +kernel)) (Evs.cons (Ev.name (I₃.var (by walk_at "lk"))) Evs.nil) (call_len_L (by rw [natsD_len, hl]; decide))) Ev.int I₃.liveAll op_subI).cast (congrArg D.int h19)) (Evs.cons (Ev.neg Ev.int) (Evs.cons (Ev.neg Ev.int) Evs.nil))) (call_range3 I₃.liveAll (by decide) (nopylm1 _)))
      hi (fun k => [("number", .dat (.int (((writS n k).1 : Nat) : Int))), ("told", .raw (.ref T)), ("worths", .dat (.list (natsD worthsL)))]) (fun k => [(T, .lst (natsD (writS n k).2))]) ⟨by walk_at "lk", by walk_at "lk", by walk_at "lk", trivial⟩ rfl (fun _ => rfl) (.inl (fo.kind (by kernel_rfl))) ?_ ?_
    · intro k B O' s' hk hB hO I'
      rw [List.length_map, List.length_range] at hk
      rw [range_getD _ _ hk] at I'
      have hle := writS_len n k
      have next : writS n (k + 1) = if worthsL.getD (19 - k) 0 ≤ (writS n k).1 then ((writS n k).1 - worthsL.getD (19 - k) 0, (writS n k).2 ++ [20 - k]) else writS n k := rfl
      rw [next]
      generalize hst : writS n k = st at *
      have item : ∀ {A' : Around} {s'' : Shared} {pp p₁ p₂ : Pos}, Gr s' s'' → Ev prog w A' env [] s'' (.Subscript (.Name "worths" p₁) (.Name "place" p₂) pp) (.int ((worthsL.getD (19 - k) 0 : Nat) : Int)) := fun g' => by
        have J' := I'.gr g'
        exact (Ev.sub (Ev.name (J'.varOld (by walk_at "lk"))) (Ev.name (J'.varOld (by walk_at "lk"))) J'.live (op_itemL (by omega) (by omega) (natsD_get (n := 19 - k) (by omega) (by omega)))).scalar
      have hb : decide (((worthsL.getD (19 - k) 0 : Nat) : Int) ≤ ((st.1 : Nat) : Int)) = decide (worthsL.getD (19 - k) 0 ≤ st.1) := by
        rw [Bool.eq_iff_iff, decide_eq_true_eq, decide_eq_true_eq]; omega
      refine x_if (b := decide (worthsL.getD (19 - k) 0 ≤ st.1)) (Tr.cmp ((item (.refl _)).scalar) (Ev.name (I'.varOld (by walk_at "lk"))) I'.live (hb ▸ op_leI)) (fun s₅ g₅ hb₅ => ?_) (fun s₅ g₅ hb₅ => ?_)
      · have I₅ := I'.gr g₅
        have hle' : worthsL.getD (19 - k) 0 ≤ st.1 := by simpa using hb₅
        refine x_aug I₅ (by walk_at "lk") ((item g₅).scalar) op_isubI ?_ (.inl (fo.kind (by kernel_rfl)))
        intro s₆ I₆
        refine x_append (μ₁ := []) (μ₂ := []) I₆ (I₆.raw (by walk_at "lk")) rfl (Ev.bin (Ev.name (I₆.var (by walk_at "lk"))) Ev.int I₆.liveAll op_addI) (by rw [natsD_len]; omega) ?_
        intro s₇ I₇
        refine x_nil (x_nil ?_)
        rw [if_pos hle']
        have e1 : ((st.1 : Nat) : Int) - ((worthsL.getD (19 - k) 0 : Nat) : Int) = ((st.1 - worthsL.getD (19 - k) 0 : Nat) : Int) := by omega
        have e2 : natsD st.2 ++ [D.int (19 - (k : Int) + 1)] = natsD (st.2 ++ [20 - k]) := by
          rw [natsD_app]
          congr 1
          show [D.int _] = [D.int _]
          congr 2
          omega
        rw [e1] at I₇
        show Inv _ _ _ [(T, .lst (natsD (st.2 ++ [20 - k])))]
        rw [← e2]
        exact I₇.re ⟨by walk_at "lk", by walk_at "lk", by walk_at "lk", trivial⟩
      · have I₅ := I'.gr g₅
        have hle' : ¬ worthsL.getD (19 - k) 0 ≤ st.1 := by simpa using hb₅
        rw [if_neg hle']
        exact x_nil (x_nil (I₅.re ⟨by walk_at "lk", by walk_at "lk", by walk_at "lk", trivial⟩))
    · intro s₄ I₄
      rw [List.length_map, List.length_range] at I₄
      exact x_return (Ev.name (I₄.varOwn (by walk_at "lk") (List.mem_singleton.mpr rfl))) fun v s' g' r => ⟨(I₄.grow fun _ _ h => h).trans g', r⟩

theorem dots_ok {a : Addr} {r : Row} {mg : Str → Option Value} (X : Top2 mg s.heap) (rm : Rm 3 A) (lv : Live O s.heap) (hf : Fn P2 11 s.heap a) (hok : OkB r.2) (hr : r.1 ≤ 1000) : CallTo prog w A O s (.ref a) [Row.d r] (.int ((r.1 : Nat) : Int)) := by
  have hsz : sizeLine = 16777216 := sizeLine_eq
  have hl8 := hok.len
  have hrl := row_len r
  refine fn_call ["row"] [("row", .dat (.str (S (Row.l r ++ [10]))))] X.G.nolimit rm.room hf lv (by decide +kernel) rfl ?_ (by kernel_rfl) ?_
  · intro vs hv pm cd doc
    obtain ⟨u, rfl⟩ : ∃ u, vs = [u] := by
      match vs, hv with
      | [u], _ => exact ⟨u, rfl⟩
    rfl
  · intro s₀ env L s₁ g lv₀ fo I g₁
    have up : ∀ {s' σ μ}, Inv (fxOf prog w A O s₀ env) s' σ μ → Gr s s' := fun J => g.trans (J.grow fun _ _ h => h)
    have hdots : ((Row.l r ++ [10]).length : Int) - (((Row.l r ++ [10]).dropWhile (· == 46)).length : Int) = ((r.1 : Nat) : Int) := by
      rw [row_strip hok, List.length_append, List.length_append, row_len]; omega
    have len : ∀ {A' : Around} {p : Pos}, EvV prog w A' env s₁ (.Name "len" p) (.builtin "len") := bt2 fo rfl X (up I) "len" (by decide) (by kernel_rfl) (by kernel_rfl) (by kernel_rfl) (by decide +kernel)
    exact x_return ((Ev.bin (Ev.callB len (Evs.cons (Ev.name (I.varOld (by walk_at "lk"))) Evs.nil) (call_len_SS (by simp; omega))) (Ev.callB len (Evs.cons (Ev.lstripSS (Ev.name (I.varOld (by walk_at "lk"))) (Ev.strS (l := [46])) (by simp; omega)) Evs.nil) (call_len_SS (by rw [row_strip hok]; simp; omega))) I.live op_subI).cast (congrArg D.int hdots)) fun v s' g' r => ⟨(I.grow fun _ _ h => h).trans g', r⟩

/-- the lines of a text that ends in a feed -/
theorem rows2_ok {a : Addr} {ls : List (List Nat)} {mg : Str → Option Value} (X : Top2 mg s.heap) (rm : Rm 3 A) (lv : Live O s.heap) (hf : Fn P2 12 s.heap a) (hl : ∀ l ∈ ls, 10 ∉ l) (hz : (unlines ls []).length ≤ 2000) :
    CallTo prog w A O s (.ref a) [.str (S (unlines ls []))] (.list (ls.map fun l => D.str (rowS l))) := by
  have hsz : sizeLine = 16777216 := sizeLine_eq
  have hsplit := split_S (ps := ls) (q := []) hl (by simp)
  have hlen : ls.length ≤ 2000 := by
    refine Nat.le_trans ?_ hz
    clear hsplit hz hl
    induction ls with
    | nil => exact Nat.zero_le _
    | cons p ps ih =>
      rw [unlines_cons, List.length_append, List.length_cons, List.length_cons]; omega
  have hple : ∀ l ∈ ls, l.length ≤ 2000 := by
    intro l hm
    refine Nat.le_trans ?_ hz
    clear hsplit hz hl hlen
    induction ls with
    | nil => cases hm
    | cons p ps ih =>
      rw [unlines_cons, List.length_append, List.length_cons]
      rcases List.mem_cons.mp hm with e | hm
      · rw [e]; omega
      · have := ih hm; omega
  refine fn_call ["text"] [("text", .dat (.str (S (unlines ls []))))] X.G.nolimit rm.room hf lv (by decide +kernel) rfl ?_ (by kernel_rfl) ?_
  · intro vs hv pm cd doc
    obtain ⟨u, rfl⟩ : ∃ u, vs = [u] := by
      match vs, hv with
      | [u], _ => exact ⟨u, rfl⟩
    rfl
  · intro s₀ env L s₁ g lv₀ fo I g₁
    have rm' : Rm 2 (A.deeper env) := rm.deeper
    have hsl := split_len (S (unlines ls [])) (S [10])
    have hparts : (partsBetween (S (unlines ls [])) (occurrences (S (unlines ls [])) (S [10]) 0 (S (unlines ls [])).length ((S (unlines ls [])).length + 1)) (S [10]).length).length ≤ sizeLine := by
      rw [length_partsBetween]
      have := StrLaws.occ_length_le (S (unlines ls [])) (S [10]) 0 (S (unlines ls [])).length ((S (unlines ls [])).length + 1)
      rw [S_len] at this ⊢
      omega
    refine x_assign I ((Ev.split (Ev.name (I.var (by walk_at "lk"))) (Ev.strS (l := [10])) I.liveAll (by rfl) (by rw [S_len]; omega) hparts).cast (d' := .list ((ls ++ [[]]).map fun l => D.str (S l))) (by rw [hsplit, List.map_map]; rfl)) ?_ (.inl (fo.kind (by kernel_rfl)))
    intro s₂ I₂
    have hlast : ((ls ++ [[]]).map fun l => D.str (S l))[((-1 : Int) + ((ls ++ [[]]).map fun l => D.str (S l)).length).toNat]? = some (.str (S [])) := by
      have e : ((-1 : Int) + ((ls ++ [[]]).map fun l => D.str (S l)).length).toNat = ls.length := by
        rw [List.length_map, List.length_append]; simp; omega
      rw [e, List.getElem?_map, List.getElem?_append_right (Nat.le_refl _), Nat.sub_self]; rfl
    have heq : (S [] == S []) = true := by rw [S_eq]; rfl
    have hinit : lpick ((ls ++ [[]]).map fun l => D.str (S l)) none (some (-1)) = ls.map fun l => D.str (S l) := by
      rw [lpick_init, List.map_append, List.map_cons, List.map_nil, List.dropLast_concat]
    refine x_return (Ev.ite (b := true) (Tr.cmp (Ev.sub (Ev.name (I₂.varOld (by walk_at "lk"))) (Ev.neg Ev.int) I₂.live (op_itemLn (by decide) (by simp; omega) (by decide) hlast)) (Ev.strS (l := [])) I₂.live (heq ▸ op_eqS)) (fun _ => FEv.out (ev_comp I₂ rfl fun s₃ g₃ I₃ => run_map (res := ls.map fun l => D.str (rowS l)) rm'.hh I₃ (d := .list (ls.map fun l => D.str (S l)))
        ((Ev.sliceL (Ev.name (I₃.var (by walk_at "lk"))) EvP.none (EvP.some (O := []) (Ev.neg Ev.int)) I₃.liveAll (by rw [List.length_map, List.length_append]; simp; omega)).cast (congrArg D.list hinit)) (IterD.list _) (by simp) (by simp; omega) (σc := [])
        (fun i hi cenv B O' s₀' s' D₀ acc hcf gg I' => ?_) trivial (noFree (by decide +kernel)) (by decide +kernel) rfl (by decide +kernel) (by kernel_rfl))) (fun h => by cases h)) fun v s' g' r => ⟨(I₂.grow fun _ _ h => h).trans g', r⟩
    rw [List.length_map] at hi
    rw [map_getD _ _ _ hi] at I'
    rw [map_getD _ _ _ hi]
    have := hple _ (List.getElem_mem hi)
    exact Ev.bin (Ev.name (I'.var (by walk_at "lk"))) (Ev.strS (l := [10])) I'.liveAll (op_addSS (by simp; omega))
end
end Mine

namespace Mine
open PySem PySem.Calls PySem.Flt PySem.Builtin.Str

local macro_rules | `(tactic| walk_at "lk") => `(tactic| first | exact lk_here (by with_reducible rfl) rfl | exact lk_tail (by kernel_rfl) (by walk_at "lk"))

def foot2N : List Nat := [97, 46, 13, 46, 10, 10, 46, 97, 46, 13, 10, 11, 46, 10, 46]
def grow2N : List Nat := [97, 46, 13, 46, 10, 10, 46, 46, 97, 46, 13, 10, 11, 46, 10, 46, 46]
theorem bump_app (q : List Nat) (r : List Nat) : bump (q ++ 97 :: r) = bump q ++ 97 :: r := by
  cases q with
  | nil => rfl
  | cons c q =>
    rw [List.cons_append, bump_cons, bump_cons]
    split <;> rfl
theorem grow2 (ps : List (List Nat)) (q : List Nat) (h : ∀ x ∈ ps, 10 ∉ x) (hq : 10 ∉ q) : stuffN true (unlines ps q ++ foot2N) = unlines (ps.map bump) (bump q) ++ grow2N := by
  have e : unlines ps q ++ foot2N = unlines (ps ++ [q ++ [97, 46, 13, 46], [], [46, 97, 46, 13], [11, 46]]) [46] := by simp [unlines, foot2N]
  rw [e, stuff_unlines]
  · rw [List.map_append]
    have e2 : [q ++ [97, 46, 13, 46], [], [46, 97, 46, 13], [11, 46]].map bump = [bump q ++ [97, 46, 13, 46], [], [46, 46, 97, 46, 13], [11, 46]] := by
      simp only [List.map_cons, List.map_nil, bump_app]
      rfl
    rw [e2]
    simp [unlines, grow2N, bump]
  · intro x hx
    rcases List.mem_append.mp hx with hx | hx
    · exact h x hx
    · simp only [List.mem_cons, List.not_mem_nil, or_false] at hx
      rcases hx with e | e | e | e
      · rw [e]
        intro hm
        rcases List.mem_append.mp hm with hm | hm
        · exact hq hm
        · revert hm; decide
      · rw [e]; simp
      · rw [e]; decide
      · rw [e]; decide
  · decide
theorem stuff_len (ps : List (List Nat)) (q : List Nat) (h : ∀ x ∈ ps, 10 ∉ x) (hq : 10 ∉ q) : (unlines (ps.map bump) (bump q)).length ≤ 2 * (unlines ps q).length := by
  rw [← stuff_unlines ps q h hq]; exact stuffN_le _ _

section
variable {prog : Program} {w : World} {A : Around} {env : Env} {O : List Addr} {s : Shared} {d : D}

theorem grown_ok {a : Addr} {ps : List (List Nat)} {q : List Nat} {mg : Str → Option Value} (X : Top2 mg s.heap) (rm : Rm 4 A) (lv : Live O s.heap) (hf : Fn P2 13 s.heap a) (h : ∀ x ∈ ps, 10 ∉ x) (hq : 10 ∉ q) (ha : ∀ c ∈ unlines ps q, c < 128) (hz : (unlines ps q).length ≤ 2000) :
    CallTo prog w A O s (.ref a) [.str (S (unlines ps q))] (.str (S (unlines (ps.map bump) (bump q)))) := by
  have hsz : sizeLine = 16777216 := sizeLine_eq
  have hfl : foot2N.length = 15 := rfl
  have hgl : grow2N.length = 17 := rfl
  have hrl := stuff_len ps q h hq
  have hA : ∀ c ∈ unlines ps q ++ foot2N, c < 128 := fun c hc => by
    rcases List.mem_append.mp hc with hc | hc
    · exact ha c hc
    · have : ∀ c ∈ foot2N, c < 128 := by decide
      exact this c hc
  have hG := grow2 ps q h hq
  refine fn_call ["text"] [("text", .dat (.str (S (unlines ps q))))] X.G.nolimit rm.room hf lv (by decide +kernel) rfl ?_ (by kernel_rfl) ?_
  · intro vs hv pm cd doc
    obtain ⟨u, rfl⟩ : ∃ u, vs = [u] := by
      match vs, hv with
      | [u], _ => exact ⟨u, rfl⟩
    rfl
  · intro s₀ env L s₁ g lv₀ fo I g₁
    have rm' : Rm 3 (A.deeper env) := rm.deeper
    have up : ∀ {s' σ μ}, Inv (fxOf prog w A O s₀ env) s' σ μ → Gr s s' := fun J => g.trans (J.grow fun _ _ h => h)
    refine x_assign I (Ev.strS (l := foot2N)) ?_ (.inl (fo.kind (by kernel_rfl)))
    intro s₂ I₂
    refine x_assign I₂ (Ev.strS (l := grow2N)) ?_ (.inl (fo.kind (by kernel_rfl)))
    intro s₃ I₃
    obtain ⟨qq, hqq, hfq⟩ := X.quote
    obtain ⟨P, nm, hP, hPat⟩ := X.pat
    have hAsc : Asc (S (unlines ps q ++ foot2N)) := S_asc.mpr hA
    have hTS : (toB (S (unlines ps q ++ foot2N))).size ≤ 2015 := by rw [toB_size, S_len, List.length_append]; omega
    have hSB := stuffB_size (toB (S (unlines ps q ++ foot2N)))
    have hval : ofB (stuffB (toB (S (unlines ps q ++ foot2N)))) = S (unlines (ps.map bump) (bump q) ++ grow2N) := by
      have : sendF (S (unlines ps q ++ foot2N)) = S (stuffN true (unlines ps q ++ foot2N)) := sendF_S hA
      rw [hG] at this
      exact this
    refine x_assign I₃ ((Ev.decode (Ev.callFn (EvV.glob (X.keeps (up I₃).heap).G hqq (by rw [fo.sc]; rfl) (fo.kind (by kernel_rfl)) fo.gl)
      (Evs.cons (Ev.encode (Ev.bin (Ev.name (I₃.var (by walk_at "lk"))) (Ev.name (I₃.var (by walk_at "lk"))) I₃.liveAll (op_addSS (by omega))) Ev.str hAsc (by rw [S_len, List.length_append]; omega)) Evs.nil) (FnAt.keeps hfq (up I₃).heap)
      (quote2_ok (X.keeps (up I₃).heap).G hP (hPat.keeps (up I₃).heap) (rm'.le (by decide)) I₃.liveAll (FnAt.keeps hfq (up I₃).heap) (by omega))) Ev.str (asb_stuff hAsc) (by omega)).cast (congrArg D.str hval)) ?_ (.inl (fo.kind (by kernel_rfl)))
    intro s₄ I₄
    generalize hR : unlines (ps.map bump) (bump q) = R at *
    have idx : ∀ {s' : Shared} {A' : Around} {p₁ p₂ p₃ p₄ p₅ p₆ p₇ : Pos}, Gr s₄ s' → Ev prog w A' env [] s' (.BinOp (.Call (.Name "len" p₁) [.Name "told" p₂] [] p₃) .Sub (.Call (.Name "len" p₄) [.Name "grown" p₅] [] p₆) p₇) (.int ((R.length : Nat) : Int)) := fun g' => by
      have J := I₄.gr g'
      have len : ∀ {A'' : Around} {p : Pos}, EvV prog w A'' env _ (.Name "len" p) (.builtin "len") := bt2 fo rfl X (up J) "len" (by decide) (by kernel_rfl) (by kernel_rfl) (by kernel_rfl) (by decide +kernel)
      exact ((Ev.bin (Ev.callB len (Evs.cons (Ev.name (J.varOld (by walk_at "lk"))) Evs.nil) (call_len_SS (l := R ++ grow2N) (by rw [List.length_append]; omega))) (Ev.callB len (Evs.cons (Ev.name (J.varOld (by walk_at "lk"))) Evs.nil) (call_len_SS (l := grow2N) (by omega))) J.live op_subI).cast (d' := .int ((R.length : Nat) : Int)) (congrArg D.int (by rw [List.length_append]; omega))).scalar
    have hcmp : (S ((R ++ grow2N).drop R.length) == S grow2N) = true := by rw [List.drop_left]; exact beq_self_eq_true _
    refine x_return (Ev.ite (b := true) (Tr.cmp (Ev.sliceFromS (n := R.length) (Ev.name (I₄.varOld (by walk_at "lk"))) (EvP.some (idx (.refl _))) (by rw [List.length_append]; omega) (by rw [List.length_append]; omega)) (Ev.name (I₄.varOld (by walk_at "lk"))) I₄.live (hcmp ▸ op_eqS)) (fun _ => (Ev.sliceToS (n := R.length) (Ev.name (I₄.varOld (by walk_at "lk"))) (EvP.some (idx (.refl _))) (by rw [List.length_append]; omega) (by rw [List.length_append]; omega)).cast (congrArg (fun l => D.str (S l)) List.take_left)) (fun h => by cases h)) fun v s' g' r => ⟨(I₄.grow fun _ _ h => h).trans g', r⟩
end
end Mine

namespace Mine
open PySem PySem.Calls PySem.Flt PySem.Builtin.Str

local macro_rules | `(tactic| walk_at "lk") => `(tactic| first | exact lk_here (by with_reducible rfl) rfl | exact lk_tail (by kernel_rfl) (by walk_at "lk"))

def lsOf (b : List Nat) (ms : List Nat) : List (List Nat) := ms.map fun n => Row.l (n, b)
def rowsD (b : List Nat) (ms : List Nat) : List D := ms.map fun n => Row.d (n, b)
theorem rowsD_ls (b ms : List Nat) : rowsD b ms = (lsOf b ms).map fun l => D.str (rowS l) := by unfold rowsD lsOf; rw [List.map_map]; rfl
theorem rowsD_strs (b ms : List Nat) : rowsD b ms = ((lsOf b ms).map rowS).map D.str := by rw [rowsD_ls, List.map_map]; rfl
theorem rowsD_len (b ms : List Nat) : (rowsD b ms).length = ms.length := List.length_map ..
theorem rowsD_app (b x y : List Nat) : rowsD b (x ++ y) = rowsD b x ++ rowsD b y := List.map_append ..
theorem lsOf_nl {b : List Nat} (hb : OkB b) (ms : List Nat) : ∀ l ∈ lsOf b ms, 10 ∉ l := fun l hl => by
  obtain ⟨n, _, rfl⟩ := List.mem_map.mp hl
  exact row_nl (r := (n, b)) hb
theorem lsOf_asc {b : List Nat} (hb : OkB b) (ms : List Nat) : ∀ c ∈ unlines (lsOf b ms) [], c < 128 := fun c hc => by
  simp only [unlines, List.append_nil, List.mem_flatten, List.mem_map] at hc
  obtain ⟨x, ⟨l, hl, rfl⟩, hc⟩ := hc
  obtain ⟨n, _, rfl⟩ := List.mem_map.mp hl
  rcases List.mem_append.mp hc with hc | hc
  · exact row_asc (r := (n, b)) hb c hc
  · rw [List.mem_singleton.mp hc]; decide
theorem lsOf_len {b : List Nat} (hb : OkB b) {k : Nat} : ∀ (ms : List Nat), (∀ n ∈ ms, n ≤ k) → (unlines (lsOf b ms) []).length ≤ ms.length * (k + 9)
  | [], _ => Nat.zero_le _
  | n :: ms, h => by
    have ih := lsOf_len hb ms fun x hx => h x (List.mem_cons_of_mem _ hx)
    have h1 := h n (List.mem_cons_self ..)
    have h2 := hb.len
    show (unlines (Row.l (n, b) :: lsOf b ms) []).length ≤ _
    rw [unlines_cons, List.length_append, List.length_cons, row_len, List.length_cons, Nat.add_mul]
    dsimp only
    omega
theorem lsOf_bump {b : List Nat} : ∀ (ms : List Nat), (∀ n ∈ ms, 1 ≤ n) → (lsOf b ms).map bump = lsOf b (ms.map (· + 1))
  | [], _ => rfl
  | n :: ms, h => by
    have ih := lsOf_bump (b := b) ms fun x hx => h x (List.mem_cons_of_mem _ hx)
    show bump (Row.l (n, b)) :: (lsOf b ms).map bump = Row.l (n + 1, b) :: lsOf b (ms.map (· + 1))
    rw [ih, bump_row (r := (n, b)) (h n (List.mem_cons_self ..))]

def maxN (g : List Nat) : Nat := g.foldl max 0
theorem maxN_ge : ∀ (g : List Nat) (a : Nat), a ≤ g.foldl max a ∧ ∀ x ∈ g, x ≤ g.foldl max a
  | [], a => ⟨Nat.le_refl _, fun x h => nomatch h⟩
  | y :: g, a => by
    obtain ⟨h1, h2⟩ := maxN_ge g (max a y)
    rw [List.foldl_cons]
    refine ⟨by omega, fun x hx => ?_⟩
    rcases List.mem_cons.mp hx with e | hx
    · rw [e]; omega
    · exact h2 x hx
theorem maxN_mem : ∀ (g : List Nat) (a : Nat), g.foldl max a = a ∨ g.foldl max a ∈ g
  | [], a => .inl rfl
  | y :: g, a => by
    rw [List.foldl_cons]
    rcases maxN_mem g (max a y) with h | h
    · rw [h]
      rcases Nat.le_total a y with h' | h'
      · right; rw [Nat.max_eq_right h']; exact List.mem_cons_self ..
      · left; rw [Nat.max_eq_left h']
    · right; exact List.mem_cons_of_mem _ h
def tmU (ms guide : List Nat) : Nat → List Nat
  | 0 => []
  | t + 1 => tmU ms guide t ++ if guide.contains t then ms.map (· + (t + 1)) else []
def timesM (ms guide : List Nat) : List Nat := tmU ms guide (maxN guide + 1)
theorem tmU_len (ms guide : List Nat) : ∀ t, (tmU ms guide t).length ≤ t * ms.length
  | 0 => Nat.zero_le _
  | t + 1 => by
    have ih := tmU_len ms guide t
    rw [tmU, List.length_append, Nat.succ_mul]
    split
    · rw [List.length_map]; omega
    · simp; omega

section
variable {prog : Program} {w : World} {A : Around} {env : Env} {O : List Addr} {s : Shared} {d : D}

theorem times_ok {a : Addr} {b ms guide : List Nat} {mg : Str → Option Value} (X : Top2 mg s.heap) (rm : Rm 6 A) (lv : Live O s.heap) (hf : Fn P2 14 s.heap a) (hb : OkB b) (h1 : ∀ n ∈ ms, 1 ≤ n ∧ n ≤ 30) (hml : ms.length ≤ 10) (hg : ∀ x ∈ guide, x ≤ 30) (hgl : guide.length ≤ 100) :
    CallTo prog w A O s (.ref a) [.list (rowsD b ms), .list (natsD guide)] (.list (rowsD b (timesM ms guide))) := by
  have hsz : sizeLine = 16777216 := sizeLine_eq
  have hmx : maxN guide ≤ 30 := by
    rcases maxN_mem guide 0 with h | h
    · unfold maxN; omega
    · exact hg _ h
  refine fn_call ["rows", "guide"] [("rows", .dat (.list (rowsD b ms))), ("guide", .dat (.list (natsD guide)))] X.G.nolimit rm.room hf lv (by decide +kernel) rfl ?_ (by kernel_rfl) ?_
  · intro vs hv pm cd doc
    obtain ⟨u, v, rfl⟩ : ∃ u v, vs = [u, v] := by
      match vs, hv with
      | [u, v], _ => exact ⟨u, v, rfl⟩
    rfl
  · intro s₀ env L s₁ g lv₀ fo I g₁
    have rm' : Rm 5 (A.deeper env) := rm.deeper
    have up : ∀ {s' σ μ}, Inv (fxOf prog w A O s₀ env) s' σ μ → Gr s s' := fun J => g.trans (J.grow fun _ _ h => h)
    refine x_assignNew I Evs.nil (by decide) ?_ (.inl (fo.kind (by kernel_rfl)))
    intro s₂ T I₂
    have hns : [D.int 0] ++ natsD guide = ((0 :: guide).map fun n : Nat => (n : Int)).map D.int := by rw [List.map_map]; rfl
    have hmem : ((maxN guide : Nat) : Int) ∈ ((0 :: guide).map fun n : Nat => (n : Int)) := by
      refine List.mem_map.mpr ⟨maxN guide, ?_, rfl⟩
      rcases maxN_mem guide 0 with h | h
      · rw [show maxN guide = 0 from h]; exact List.mem_cons_self ..
      · exact List.mem_cons_of_mem _ h
    have hle : ∀ n ∈ ((0 :: guide).map fun n : Nat => (n : Int)), n ≤ ((maxN guide : Nat) : Int) := fun n hn => by
      obtain ⟨m, hm, rfl⟩ := List.mem_map.mp hn
      have := maxN_ge guide 0
      rcases List.mem_cons.mp hm with e | hm
      · rw [e]; omega
      · have := this.2 m hm; unfold maxN; omega
    refine x_for (d := .range 0 (((maxN guide : Nat) : Int) + 1) 1) rm'.hh I₂ (Ev.callT (bt2 fo rfl X (up I₂) "range" (by decide) (by kernel_rfl) (by kernel_rfl) (by kernel_rfl) (by decide +kernel)) (Evs.cons (Ev.bin (Ev.callB (bt2 fo rfl X (up I₂) "max" (by decide) (by kernel_rfl) (by kernel_rfl) (by kernel_rfl) (by decide +kernel))
        (Evs.cons ((Ev.bin (Ev.list (Evs.cons Ev.int Evs.nil) I₂.liveAll (by simp; omega)) (Ev.name (I₂.var (by walk_at "lk"))) I₂.liveAll (op_addL (by rw [natsD_len]; simp; omega))).cast (congrArg D.list hns)) Evs.nil) (call_max_L rm'.hh hmem hle)) Ev.int I₂.liveAll op_addI) Evs.nil) (call_range1 I₂.liveAll))
      (iter_up (n := maxN guide + 1) (by omega) (by decide) (by omega))
      (fun t => [("rows", .dat (.list (rowsD b (ms.map (· + t))))), ("told", .raw (.ref T)), ("guide", .dat (.list (natsD guide)))]) (fun t => [(T, .lst (rowsD b (tmU ms guide t)))]) ⟨by rw [show ms.map (· + 0) = ms from List.map_id ms]; walk_at "lk", by walk_at "lk", by walk_at "lk", trivial⟩ rfl (fun _ => rfl) (.inl (fo.kind (by kernel_rfl))) ?_ ?_
    · intro t B O' s' ht hB hO I'
      rw [List.length_map, List.length_range] at ht
      rw [range_getD _ _ ht] at I'
      have upB : ∀ {s'' σ μ}, Inv ((fxOf prog w A O s₀ env).with B O') s'' σ μ → Gr s s'' := fun J => g.trans (J.grow fun a o h => hB a o h)
      obtain ⟨qr, hqr, hfr⟩ := X.rows
      obtain ⟨qg, hqg, hfg⟩ := X.grown
      have hms : ∀ n ∈ ms.map (· + t), n ≤ 61 := fun n hn => by
        obtain ⟨m, hm, rfl⟩ := List.mem_map.mp hn
        have := h1 m hm; omega
      have hms1 : ∀ n ∈ ms.map (· + t), 1 ≤ n := fun n hn => by
        obtain ⟨m, hm, rfl⟩ := List.mem_map.mp hn
        have := h1 m hm; omega
      have hmap : (ms.map (· + t)).map (· + 1) = ms.map (· + (t + 1)) := by rw [List.map_map]; rfl
      have hms2 : ∀ n ∈ ms.map (· + (t + 1)), n ≤ 62 := fun n hn => by
        obtain ⟨m, hm, rfl⟩ := List.mem_map.mp hn
        have := h1 m hm; omega
      have hlen1 := lsOf_len hb (k := 61) _ hms
      have hlen2 := lsOf_len hb (k := 62) _ hms2
      rw [List.length_map] at hlen1 hlen2
      have hm70 : ms.length * (61 + 9) ≤ 700 := by omega
      have hm71 : ms.length * (62 + 9) ≤ 710 := by omega
      have hglu : glued (Str.ofString "") ((lsOf b (ms.map (· + t))).map rowS) = S (unlines (lsOf b (ms.map (· + t))) []) := rows_glued _
      have hjoin : tooLong (((lsOf b (ms.map (· + t))).map rowS).toArray.foldl (· + ·.length + (Str.ofString "").length) 0) = false := by
        rw [show (Str.ofString "").length = 0 by kernel_rfl]
        have := size_glued (Str.ofString "") ((lsOf b (ms.map (· + t))).map rowS)
        rw [show (Str.ofString "").length = 0 by kernel_rfl, hglu, S_len] at this
        exact join_fits _ (by omega)
      have hgrown : CallTo prog w (A.deeper env) ((fxOf prog w A O s₀ env).with B O' |>.all [(T, .lst (rowsD b (tmU ms guide t)))]) s' (.ref qg) [.str (S (unlines (lsOf b (ms.map (· + t))) []))] (.str (S (unlines (lsOf b (ms.map (· + (t + 1)))) []))) := by
        have h := grown_ok (prog := prog) (w := w) (A := A.deeper env) (q := []) (X.keeps (upB I').heap) (rm'.le (by decide)) I'.liveAll (FnAt.keeps hfg (upB I').heap) (lsOf_nl hb (ms.map (· + t))) (by simp) (lsOf_asc hb _) (by omega)
        rw [lsOf_bump _ hms1, hmap] at h
        exact h
      refine x_assign I' ((Ev.callFn (EvV.glob (X.keeps (upB I').heap).G hqr (by rw [fo.sc]; rfl) (fo.kind (by kernel_rfl)) fo.gl) (Evs.cons (Ev.callFn (EvV.glob (X.keeps (upB I').heap).G hqg (by rw [fo.sc]; rfl) (fo.kind (by kernel_rfl)) fo.gl)
          (Evs.cons ((Ev.join Ev.str ((Ev.name (I'.var (by walk_at "lk"))).cast (congrArg D.list (rowsD_strs b (ms.map (· + t))))) hjoin (by rw [hglu, S_len]; omega)).cast (congrArg D.str hglu)) Evs.nil) (FnAt.keeps hfg (upB I').heap) hgrown) Evs.nil) (FnAt.keeps hfr (upB I').heap)
        (rows2_ok (X.keeps (upB I').heap) (rm'.le (by decide)) I'.liveAll (FnAt.keeps hfr (upB I').heap) (lsOf_nl hb _) (by omega))).cast (d' := .list (rowsD b (ms.map (· + (t + 1))))) (by rw [rowsD_ls])) ?_ (.inl (fo.kind (by kernel_rfl)))
      intro s₅ I₅
      have hin : ((guide.map fun n : Nat => (n : Int)).any (· == (0 + (t : Int)))) = guide.contains t := by
        rw [List.any_map, Bool.eq_iff_iff, List.any_eq_true, List.contains_iff_mem]
        constructor
        · rintro ⟨n, hn, he⟩
          have : n = t := by
            have : (n : Int) = 0 + (t : Int) := by simpa using he
            omega
          exact this ▸ hn
        · intro h
          exact ⟨t, h, by simp⟩
      have next : tmU ms guide (t + 1) = tmU ms guide t ++ if guide.contains t then ms.map (· + (t + 1)) else [] := rfl
      have htl := tmU_len ms guide t
      have htl2 : t * ms.length ≤ 31 * 10 := Nat.mul_le_mul (by omega) hml
      refine x_if (b := guide.contains t) (Tr.cmp (Ev.name (I₅.varOld (by walk_at "lk"))) ((Ev.name (I₅.varOld (by walk_at "lk"))).cast (congrArg D.list (natsD_ints guide))) I₅.live (hin ▸ op_inL)) (fun s₆ g₆ hb₆ => ?_) (fun s₆ g₆ hb₆ => ?_)
      · have I₆ := I₅.gr g₆
        refine x_augList (μ₁ := []) (μ₂ := []) I₆ (I₆.raw (by walk_at "lk")) rfl (Ev.name (I₆.var (by walk_at "lk"))) (by rw [rowsD_len, rowsD_len, List.length_map]; omega) ?_ (.inl (fo.kind (by kernel_rfl)))
        intro s₇ I₇
        refine x_nil (x_nil ?_)
        rw [← rowsD_app] at I₇
        rw [next, if_pos hb₆]
        exact I₇.re ⟨by walk_at "lk", by walk_at "lk", by walk_at "lk", trivial⟩
      · have I₆ := I₅.gr g₆
        refine x_nil (x_nil ?_)
        rw [next, if_neg (by rw [hb₆]; exact Bool.false_ne_true), List.append_nil]
        exact I₆.re ⟨by walk_at "lk", by walk_at "lk", by walk_at "lk", trivial⟩
    · intro s₄ I₄
      rw [List.length_map, List.length_range] at I₄
      exact x_return (Ev.name (I₄.varOwn (by walk_at "lk") (List.mem_singleton.mpr rfl))) fun v s' g' r => ⟨(I₄.grow fun _ _ h => h).trans g', r⟩
end
end Mine

namespace Mine
open PySem PySem.Calls PySem.Flt PySem.Builtin.Str

/-- may the rows p and q be melted -/
def cnd (ms : List Nat) (p q : Nat) : Bool := p != q && (decide (ms.getD q 0 ≤ ms.getD p 0) && decide (ms.getD p 0 ≤ ms.getD q 0 + 1))
def movesN (ms : List Nat) : List (Nat × Nat) := ((List.range ms.length).map fun p => ((List.range ms.length).map fun q => if cnd ms p q = true then [(p, q)] else []).flatten).flatten
def restM (ms : List Nat) (p q : Nat) : List Nat := ((List.range ms.length).map fun k => if (k != p && k != q) = true then [ms.getD k 0] else []).flatten
def newM (np nq : Nat) : List Nat := if np = nq then [np + 1, nq - 2] else [np + 1]
def nextM (ms : List Nat) (p q : Nat) : List Nat := restM ms p q ++ newM (ms.getD p 0) (ms.getD q 0)
def mvAt (m : List Nat) (d : Nat) : Nat × Nat := (movesN m).getD (d % (movesN m).length) (0, 0)
def mst (ms : List Nat) (draw : Nat) : Nat → List Nat × Nat
  | 0 => (ms, draw)
  | i + 1 => if (movesN (mst ms draw i).1).isEmpty = true then mst ms draw i
    else (nextM (mst ms draw i).1 (mvAt (mst ms draw i).1 (mst ms draw i).2).1 (mvAt (mst ms draw i).1 (mst ms draw i).2).2, (mst ms draw i).2 / (movesN (mst ms draw i).1).length)
def meltF (ms : List Nat) (draw : Nat) : List Nat := (mst ms draw 200).1
def okM (m : List Nat) : Bool := decide (m.length ≤ 8) && m.all (fun n => decide (n ≤ 25)) && (movesN m).all fun x => decide (m.getD x.1 0 ≠ m.getD x.2 0) || decide (2 ≤ m.getD x.1 0)
structure MeltOk (ms : List Nat) (draw : Nat) : Prop where
  ok : ∀ i, okM (mst ms draw i).1 = true
  fin : ∃ i, i < 200 ∧ (movesN (mst ms draw i).1).isEmpty = true

theorem movesN_mem {m : List Nat} {x : Nat × Nat} (h : x ∈ movesN m) : x.1 < m.length ∧ x.2 < m.length ∧ cnd m x.1 x.2 = true := by
  unfold movesN at h
  obtain ⟨l, hl, hx⟩ := List.mem_flatten.mp h
  obtain ⟨p, hp, rfl⟩ := List.mem_map.mp hl
  obtain ⟨l, hl, hx⟩ := List.mem_flatten.mp hx
  obtain ⟨q, hq, rfl⟩ := List.mem_map.mp hl
  rw [List.mem_range] at hp hq
  split at hx
  · rename_i hc
    rw [List.mem_singleton.mp hx]
    exact ⟨hp, hq, hc⟩
  · cases hx
theorem flat_len {α β : Type} (f : α → List β) (k : Nat) : ∀ (l : List α), (∀ a ∈ l, (f a).length ≤ k) → (l.map f).flatten.length ≤ l.length * k
  | [], _ => by simp
  | a :: l, h => by
    have h1 := h a (List.mem_cons_self ..)
    have h2 := flat_len f k l fun x hx => h x (List.mem_cons_of_mem _ hx)
    rw [List.map_cons, List.flatten_cons, List.length_append, List.length_cons, Nat.add_mul]; omega
theorem movesN_len (m : List Nat) : (movesN m).length ≤ m.length * m.length := by
  unfold movesN
  have := flat_len (fun p => ((List.range m.length).map fun q => if cnd m p q = true then [(p, q)] else []).flatten) m.length (List.range m.length) fun p _ => by
    have := flat_len (fun q => if cnd m p q = true then [(p, q)] else []) 1 (List.range m.length) fun q _ => by
      split <;> simp
    rw [List.length_range, Nat.mul_one] at this
    exact this
  rw [List.length_range] at this
  exact this
theorem mst_stop {ms : List Nat} {draw i : Nat} (h : (movesN (mst ms draw i).1).isEmpty = true) : ∀ j, i ≤ j → mst ms draw j = mst ms draw i := by
  intro j hj
  obtain ⟨k, rfl⟩ := Nat.exists_eq_add_of_le hj
  clear hj
  induction k with
  | zero => rfl
  | succ k ih =>
    show (if (movesN (mst ms draw (i + k)).1).isEmpty = true then mst ms draw (i + k) else _) = _
    rw [ih, if_pos h]

structure OkM (m : List Nat) : Prop where
  len : m.length ≤ 8
  le : ∀ n ∈ m, n ≤ 25
  two : ∀ x ∈ movesN m, m.getD x.1 0 = m.getD x.2 0 → 2 ≤ m.getD x.1 0
theorem okM_iff {m : List Nat} (h : okM m = true) : OkM m := by
  unfold okM at h
  simp only [Bool.and_eq_true, decide_eq_true_eq, List.all_eq_true, Bool.or_eq_true] at h
  obtain ⟨⟨h1, h2⟩, h3⟩ := h
  exact ⟨h1, h2, fun x hx he => (h3 x hx).elim (fun hn => absurd he hn) id⟩

/-- two rows, written for melting -/
def hidN (b : List Nat) (np nq : Nat) : Nat := if np = nq then 2 else nq + b.length + 1
def inT (b : List Nat) (h : Nat) (np nq : Nat) : List Nat := (Row.l (np, b) ++ [10]) ++ [34] ++ (Row.l (nq, b) ++ [10]).take h ++ [34] ++ (Row.l (nq, b) ++ [10]).drop h
theorem take_two {b : List Nat} {n : Nat} (h : 2 ≤ n) : (Row.l (n, b) ++ [10]).take 2 = [46, 46] ∧ (Row.l (n, b) ++ [10]).drop 2 = Row.l (n - 2, b) ++ [10] := by
  obtain ⟨k, rfl⟩ : ∃ k, n = k + 2 := ⟨n - 2, by omega⟩
  unfold Row.l
  simp only [List.replicate_succ, Nat.add_sub_cancel]
  exact ⟨rfl, rfl⟩
theorem take_all {b : List Nat} {n : Nat} : (Row.l (n, b) ++ [10]).take (n + b.length + 1) = Row.l (n, b) ++ [10] ∧ (Row.l (n, b) ++ [10]).drop (n + b.length + 1) = [] := by
  have hl : (Row.l (n, b) ++ [10]).length = n + b.length + 1 := by rw [List.length_append, row_len]; rfl
  exact ⟨by rw [← hl, List.take_length], by rw [← hl, List.drop_length]⟩
theorem in_lines {b : List Nat} (hb : OkB b) {np nq : Nat} (h1 : 1 ≤ np) (h2 : np = nq → 2 ≤ nq) :
    ∃ ps q, inT b (hidN b np nq) np nq = unlines ps q ∧ (∀ x ∈ ps, 10 ∉ x) ∧ 10 ∉ q ∧ unlines (ps.map bump) (bump q) = inT b (hidN b np nq) (np + 1) nq := by
  have hnp := row_nl (r := (np, b)) hb
  have hbp : bump (Row.l (np, b)) = Row.l (np + 1, b) := bump_row (r := (np, b)) h1
  unfold inT hidN
  by_cases he : np = nq
  · rw [if_pos he]
    obtain ⟨t1, t2⟩ := take_two (b := b) (h2 he)
    have hn2 := row_nl (r := (nq - 2, b)) hb
    refine ⟨[Row.l (np, b), 34 :: 46 :: 46 :: 34 :: Row.l (nq - 2, b)], [], ?_, ?_, by simp, ?_⟩
    · rw [t1, t2]; simp [unlines]
    · intro x hx
      simp only [List.mem_cons, List.not_mem_nil, or_false] at hx
      rcases hx with e | e
      · rw [e]; exact hnp
      · rw [e]; simp only [List.mem_cons, not_or]
        exact ⟨by decide, by decide, by decide, by decide, hn2⟩
    · rw [t1, t2]
      show unlines [bump (Row.l (np, b)), 34 :: 46 :: 46 :: 34 :: Row.l (nq - 2, b)] [] = _
      rw [hbp]; simp [unlines]
  · rw [if_neg he]
    obtain ⟨t1, t2⟩ := take_all (b := b) (n := nq)
    have hn2 := row_nl (r := (nq, b)) hb
    refine ⟨[Row.l (np, b), 34 :: Row.l (nq, b)], [34], ?_, ?_, by decide, ?_⟩
    · rw [t1, t2]; simp [unlines]
    · intro x hx
      simp only [List.mem_cons, List.not_mem_nil, or_false] at hx
      rcases hx with e | e
      · rw [e]; exact hnp
      · rw [e]; simp only [List.mem_cons, not_or]
        exact ⟨by decide, hn2⟩
    · rw [t1, t2]
      show unlines [bump (Row.l (np, b)), 34 :: Row.l (nq, b)] [34] = _
      rw [hbp]; simp [unlines]
theorem in_strip {b : List Nat} (hb : OkB b) {np nq k : Nat} (h2 : np = nq → 2 ≤ nq) :
    stripS (S ([34, 120, 34] ++ inT b (hidN b np nq) (np + 1) nq ++ [34, 34, 92, 92, 34, 121, 34, 34] ++ loneN k)) = S (unlines (lsOf b (newM np nq)) [] ++ staysN k) := by
  have hq1 := row_quiet (r := (np + 1, b)) hb
  unfold inT hidN newM
  by_cases he : np = nq
  · rw [if_pos he, if_pos he]
    obtain ⟨t1, t2⟩ := take_two (b := b) (h2 he)
    have hq2 := row_quiet (r := (nq - 2, b)) hb
    rw [t1, t2]
    have e1 : [34, 120, 34] ++ ((Row.l (np + 1, b) ++ [10]) ++ [34] ++ [46, 46] ++ [34] ++ (Row.l (nq - 2, b) ++ [10])) ++ [34, 34, 92, 92, 34, 121, 34, 34] ++ loneN k = pairT [([], [120]), (Row.l (np + 1, b) ++ [10], [46, 46]), (Row.l (nq - 2, b) ++ [10], []), ([92, 92], [121])] ++ (34 :: loneN k) := by simp [pairT]
    rw [e1, strip_S _ _ ?_ (.inr ⟨_, rfl, lone_calm k⟩)]
    · congr 1
      simp [outT, unlines, lsOf, staysN]
    · intro p hp
      simp only [List.mem_cons, List.not_mem_nil, or_false] at hp
      rcases hp with e | e | e | e <;> rw [e]
      · exact ⟨rfl, rfl⟩
      · exact ⟨hq1, rfl⟩
      · exact ⟨hq2, rfl⟩
      · exact ⟨rfl, rfl⟩
  · rw [if_neg he, if_neg he]
    obtain ⟨t1, t2⟩ := take_all (b := b) (n := nq)
    have hq2 := row_quiet (r := (nq, b)) hb
    rw [t1, t2]
    have e1 : [34, 120, 34] ++ ((Row.l (np + 1, b) ++ [10]) ++ [34] ++ (Row.l (nq, b) ++ [10]) ++ [34] ++ []) ++ [34, 34, 92, 92, 34, 121, 34, 34] ++ loneN k = pairT [([], [120]), (Row.l (np + 1, b) ++ [10], Row.l (nq, b) ++ [10]), ([], []), ([92, 92], [121])] ++ (34 :: loneN k) := by simp [pairT]
    rw [e1, strip_S _ _ ?_ (.inr ⟨_, rfl, lone_calm k⟩)]
    · congr 1
      simp [outT, unlines, lsOf, staysN]
    · intro p hp
      simp only [List.mem_cons, List.not_mem_nil, or_false] at hp
      rcases hp with e | e | e | e <;> rw [e]
      · exact ⟨rfl, rfl⟩
      · exact ⟨hq1, hq2⟩
      · exact ⟨rfl, rfl⟩
      · exact ⟨rfl, rfl⟩
theorem ls_quiet {b : List Nat} (hb : OkB b) : ∀ ms : List Nat, quiet false (unlines (lsOf b ms) []) = true
  | [] => rfl
  | n :: ms => by
    show quiet false (unlines (Row.l (n, b) :: lsOf b ms) []) = true
    rw [unlines_cons]
    have e : Row.l (n, b) ++ 10 :: unlines (lsOf b ms) [] = (Row.l (n, b) ++ [10]) ++ unlines (lsOf b ms) [] := by simp
    rw [e]
    exact quiet_app _ _ _ (row_quiet (r := (n, b)) hb) (ls_quiet hb ms)
theorem in_asc {b : List Nat} (hb : OkB b) {h np nq : Nat} : ∀ c ∈ inT b h np nq, c < 128 := fun c hc => by
  unfold inT at hc
  have h1 : ∀ n, ∀ c ∈ Row.l (n, b) ++ [10], c < 128 := fun n c hc => by
    rcases List.mem_append.mp hc with hc | hc
    · exact row_asc (r := (n, b)) hb c hc
    · rw [List.mem_singleton.mp hc]; decide
  simp only [List.mem_append, List.mem_singleton] at hc
  rcases hc with (((h | h) | h) | h) | h
  · exact h1 np c (by simpa using h)
  · omega
  · exact h1 nq c (List.mem_of_mem_take h)
  · omega
  · exact h1 nq c (List.mem_of_mem_drop h)
theorem in_len {b : List Nat} (hb : OkB b) {h np nq : Nat} (h1 : np ≤ 30) (h2 : nq ≤ 30) : (inT b h np nq).length ≤ 82 := by
  have hl := hb.len
  unfold inT
  simp only [List.length_append, row_len, List.length_take, List.length_drop, List.length_cons, List.length_nil]
  omega
end Mine

namespace Mine
open PySem PySem.Calls PySem.Flt PySem.Builtin.Str

local macro_rules | `(tactic| walk_at "lk") => `(tactic| first | exact lk_here (by with_reducible rfl) rfl | exact lk_tail (by kernel_rfl) (by walk_at "lk"))

theorem nopylN (x : Int) {n : Nat} (h : n < 1000) : Builtin.divisionGoesByPylong x (n : Int) = false := by
  unfold Builtin.divisionGoesByPylong
  dsimp only
  rw [Bool.and_eq_false_iff]
  left
  apply decide_eq_false
  split
  · omega
  · have : (n : Int).natAbs.log2 < 30 := by
      rw [Int.natAbs_natCast]
      by_cases h0 : n = 0
      · subst h0; decide
      · exact (Nat.log2_lt h0).mpr (by omega)
    omega
theorem swaps_cell {elt : Expr} {gens : List Comprehension} {scope : Scope} {pos px : Pos} {t : Str} {line : Nat} {env : Env} (hk : env.kindOf t = some .cell) : swapsWith (.ListComp elt gens scope pos) (some (.Name t px)) line env = pure false := by
  show (pure (env.blockKind == .function && env.kindOf t == some .local && px.line == pos.line && !(scope.names.any fun x => x.1 == t && (x.2 == .local || x.2 == .cell))) : Sem Bool) = pure false
  rw [hk]
  have : ((some NameKind.cell : Option NameKind) == some NameKind.local) = false := by decide
  rw [this]; simp

def gone (ms : List Nat) (draw i : Nat) : Bool := (List.range i).all fun k => !(movesN (mst ms draw k).1).isEmpty
theorem gone_succ (ms : List Nat) (draw i : Nat) : gone ms draw (i + 1) = (gone ms draw i && !(movesN (mst ms draw i).1).isEmpty) := by
  unfold gone; rw [List.range_succ, List.all_append]; simp
def sigM (b ms : List Nat) (draw i : Nat) : List (Str × Sl) := if gone ms draw i = true then [("rows", .dat (.list (rowsD b (mst ms draw i).1))), ("draw", .dat (.int (((mst ms draw i).2 : Nat) : Int)))] else [("range", .dat .none)]
theorem sigM_pos {b ms : List Nat} {draw i : Nat} (h : gone ms draw i = true) : sigM b ms draw i = ([("rows", .dat (.list (rowsD b (mst ms draw i).1))), ("draw", .dat (.int (((mst ms draw i).2 : Nat) : Int)))] : List (Str × Sl)) := if_pos h
theorem sigM_neg {b ms : List Nat} {draw i : Nat} (h : ¬ gone ms draw i = true) : sigM b ms draw i = ([("range", .dat .none)] : List (Str × Sl)) := if_neg h
def mvD (x : Nat × Nat) : D := .tuple [.int (0 + (x.1 : Int)), .int (0 + (x.2 : Int))]
theorem outs_moves (m : List Nat) : outsTo (fun p => outsTo (fun q => if cnd m p q = true then [mvD (p, q)] else []) m.length) m.length = (movesN m).map mvD := by
  unfold movesN outsTo
  rw [List.map_flatten, List.map_map]
  congr 1
  apply List.map_congr_left
  intro p _
  show _ = (List.map (fun q => if cnd m p q = true then [(p, q)] else []) (List.range m.length)).flatten.map mvD
  rw [List.map_flatten, List.map_map]
  congr 1
  apply List.map_congr_left
  intro q _
  show _ = (if cnd m p q = true then [(p, q)] else []).map mvD
  split <;> rfl
theorem outs_rest (b m : List Nat) (p q : Nat) : outsTo (fun k => if (k != p && k != q) = true then [Row.d (m.getD k 0, b)] else []) m.length = rowsD b (restM m p q) := by
  unfold restM outsTo rowsD
  rw [List.map_flatten, List.map_map]
  congr 1
  apply List.map_congr_left
  intro k _
  show _ = (if (k != p && k != q) = true then [m.getD k 0] else []).map fun n => Row.d (n, b)
  split <;> rfl
theorem restM_len (m : List Nat) (p q : Nat) : (restM m p q).length ≤ m.length := by
  have := flat_len (fun k => if (k != p && k != q) = true then [m.getD k 0] else []) 1 (List.range m.length) fun k _ => by split <;> simp
  rw [List.length_range, Nat.mul_one] at this
  exact this
theorem rowsD_get {b m : List Nat} {j : Int} {k : Nat} (hj : j = (k : Int)) (hk : k < m.length) : (rowsD b m)[j.toNat]? = some (.str (S (Row.l (m.getD k 0, b) ++ [10]))) := by
  subst hj
  unfold rowsD
  rw [Int.toNat_natCast, List.getElem?_map, List.getElem?_eq_getElem hk, List.getD_eq_getElem?_getD, List.getElem?_eq_getElem hk]; rfl
theorem newM_le {np nq : Nat} (h1 : np ≤ 30) (h2 : nq ≤ 30) : ∀ n ∈ newM np nq, n ≤ 31 := by
  intro n hn
  unfold newM at hn
  split at hn
  · simp only [List.mem_cons, List.not_mem_nil, or_false] at hn
    rcases hn with e | e <;> omega
  · rw [List.mem_singleton.mp hn]; omega
theorem newM_len (np nq : Nat) : (newM np nq).length ≤ 2 := by unfold newM; split <;> simp

section
variable {prog : Program} {w : World} {A : Around} {env : Env} {O : List Addr} {s : Shared} {d : D}

set_option maxHeartbeats 1000000 in
theorem melted_ok {a : Addr} {b ms : List Nat} {draw : Nat} {mg : Str → Option Value} (X : Top2 mg s.heap) (rm : Rm 8 A) (lv : Live O s.heap) (hf : Fn P2 15 s.heap a) (hb : OkB b) (K : MeltOk ms draw) :
    CallTo prog w A O s (.ref a) [.list (rowsD b ms), .int (draw : Int)] (.list (rowsD b (meltF ms draw))) := by
  have hsz : sizeLine = 16777216 := sizeLine_eq
  have hl8 := hb.len
  obtain ⟨fi, hfi, hfe⟩ := K.fin
  refine fn_call ["rows", "draw"] [("rows", .dat (.list (rowsD b ms))), ("draw", .dat (.int (draw : Int)))] X.G.nolimit rm.room hf lv (by decide +kernel) rfl ?_ (by kernel_rfl) ?_
  · intro vs hv pm cd doc
    obtain ⟨u, v, rfl⟩ : ∃ u v, vs = [u, v] := by
      match vs, hv with
      | [u, v], _ => exact ⟨u, v, rfl⟩
    rfl
  · intro s₀ env L s₁ g lv₀ fo I g₁
    have rm' : Rm 7 (A.deeper env) := rm.deeper
    have up : ∀ {s' σ μ}, Inv (fxOf prog w A O s₀ env) s' σ μ → Gr s s' := fun J => g.trans (J.grow fun _ _ h => h)
    refine x_for (d := .range 0 200 1) rm'.hh I (Ev.callT (bt2 fo rfl X (up I) "range" (by decide) (by kernel_rfl) (by kernel_rfl) (by kernel_rfl) (by decide +kernel)) (Evs.cons Ev.int Evs.nil) (call_range1 I.liveAll))
      (iter_up (n := 200) (by decide) (by decide) (by decide)) (fun i => sigM b ms draw i) (fun _ => []) (by rw [sigM_pos (by rfl)]; exact ⟨lk_head, by walk_at "lk", trivial⟩) rfl (fun _ => rfl) (.inl (fo.kind (by kernel_rfl))) ?_ ?_
    · intro i B O' s' hi hB hO I'
      rw [List.length_map, List.length_range] at hi
      rw [range_getD _ _ hi] at I'
      by_cases hg : gone ms draw i = true
      · rw [sigM_pos hg] at I'
        obtain ⟨Kl, Kle, K2⟩ := okM_iff (K.ok i)
        have hnext : (movesN (mst ms draw i).1).isEmpty = false → mst ms draw (i + 1) = (nextM (mst ms draw i).1 (mvAt (mst ms draw i).1 (mst ms draw i).2).1 (mvAt (mst ms draw i).1 (mst ms draw i).2).2, (mst ms draw i).2 / (movesN (mst ms draw i).1).length) := fun h => by
          show (if (movesN (mst ms draw i).1).isEmpty = true then mst ms draw i else _) = _
          rw [h, if_neg Bool.false_ne_true]
        have hfin : (movesN (mst ms draw i).1).isEmpty = true → meltF ms draw = (mst ms draw i).1 := fun h => by
          unfold meltF
          rw [mst_stop h 200 (by omega)]
        have hgs := gone_succ ms draw i
        rw [hg, Bool.true_and] at hgs
        have hsg : (movesN (mst ms draw i).1).isEmpty = false → sigM b ms draw (i + 1) = ([("rows", .dat (.list (rowsD b (nextM (mst ms draw i).1 (mvAt (mst ms draw i).1 (mst ms draw i).2).1 (mvAt (mst ms draw i).1 (mst ms draw i).2).2)))), ("draw", .dat (.int (((mst ms draw i).2 / (movesN (mst ms draw i).1).length : Nat) : Int)))] : List (Str × Sl)) := fun h => by
          rw [sigM_pos (by rw [hgs, h]; rfl), hnext h]
        generalize hm : (mst ms draw i).1 = m at *
        generalize hdr : (mst ms draw i).2 = dr at *
        have upB : ∀ {s'' σ μ}, Inv ((fxOf prog w A O s₀ env).with B O') s'' σ μ → Gr s s'' := fun J => g.trans (J.grow fun a o h => hB a o h)
        have hle : ∀ k, m.getD k 0 ≤ 25 := fun k => by
          rw [List.getD_eq_getElem?_getD]
          cases e : m[k]? with
          | none => exact Nat.zero_le _
          | some n => exact Kle n (List.mem_of_getElem? e)
        obtain ⟨qd, hqd, hfd⟩ := X.dots
        -- the dots
        refine x_assign I' (ev_comp I' rfl fun s₂ g₂ I₂ => run_map (res := natsD m) rm'.hh I₂ (d := .list (rowsD b m)) (Ev.name (I₂.var (by walk_at "lk"))) (IterD.list _) (by rw [natsD_len, rowsD_len]) (by rw [natsD_len]; omega) (σc := [])
          (fun k hk cenv B₂ O₂ s₀' s₃ D₀ acc hcf gg I₃ => ?_) trivial (noFree (by decide +kernel)) (by decide +kernel) rfl (by decide +kernel) (by kernel_rfl)) ?_ (fo.bindC (prog := prog) (w := w) (A := A) (O := O) (s₀ := s₀) (by kernel_rfl)) (swaps_cell (fo.kind (by kernel_rfl)))
        · rw [rowsD_len] at hk
          rw [natsD_getD hk]
          have e : (rowsD b m).getD k .none = Row.d (m.getD k 0, b) := by
            unfold rowsD
            rw [map_getD _ _ _ hk, List.getD_eq_getElem?_getD, List.getElem?_eq_getElem hk]; rfl
          rw [e] at I₃
          have gs : Gr s s₃ := (upB I₂).trans gg
          exact Ev.callFn (EvV.glob (X.keeps gs.heap).G hqd (hcf.fn rfl) (hcf.kind (by kernel_rfl) (by decide)) (hcf.gl.trans fo.gl)) (Evs.cons (Ev.name (I₃.var (by walk_at "lk"))) Evs.nil) (FnAt.keeps hfd gs.heap)
            (dots_ok (r := (m.getD k 0, b)) (X.keeps gs.heap) (rm'.le (by decide)) I₃.liveAll (FnAt.keeps hfd gs.heap) hb (by have := hle k; show m.getD k 0 ≤ 1000; omega))
        intro s₂ I₂
        refine x_assign I₂ (Ev.callT (bt2 fo rfl X (upB I₂) "range" (by decide) (by kernel_rfl) (by kernel_rfl) (by kernel_rfl) (by decide +kernel)) (Evs.cons ((Ev.callB (bt2 fo rfl X (upB I₂) "len" (by decide) (by kernel_rfl) (by kernel_rfl) (by kernel_rfl) (by decide +kernel)) (Evs.cons (Ev.name (I₂.var (by walk_at "lk"))) Evs.nil) (call_len_L (by rw [rowsD_len]; omega))).cast (d' := .int ((m.length : Nat) : Int)) (by rw [rowsD_len])) Evs.nil) (call_range1 I₂.liveAll)) ?_ (fo.bindC (prog := prog) (w := w) (A := A) (O := O) (s₀ := s₀) (by kernel_rfl))
        intro s₃ I₃
        have hml2 := movesN_len m
        have hml64 : m.length * m.length ≤ 64 := Nat.mul_le_mul Kl Kl
        have hiter : IterD (.range 0 ((m.length : Nat) : Int) 1) ((List.range m.length).map fun (k : Nat) => D.int (0 + (k : Int))) := iter_up (n := m.length) (by omega) (by decide) (by omega)
        -- the moves
        refine x_assignComp (res := (movesN m).map mvD) I₃ rfl (run_head (outs := fun p => outsTo (fun q => if cnd m p q = true then [mvD (p, q)] else []) m.length) rm'.hh I₃ (d := .range 0 ((m.length : Nat) : Int) 1) (Ev.name (I₃.var (by walk_at "lk"))) hiter
          (by rw [List.length_map, List.length_range]; exact outs_moves m) (by rw [List.length_map]; omega) (fun cenv it D₀ hcf => lr_more rfl rfl rfl (fun _ => rfl)) (fun cenv D₀ => nestT_mono)
          (fun p hp cenv s₁' D₀ hcf gg => ?_) (σc := [("places", .dat (.range 0 ((m.length : Nat) : Int) 1)), ("dots", .dat (.list (natsD m)))]) ⟨⟨by walk_at "lk", fo.kind (by kernel_rfl), by kernel_rfl, fo.cell (by kernel_rfl)⟩, ⟨by walk_at "lk", fo.kind (by kernel_rfl), by kernel_rfl, fo.cell (by kernel_rfl)⟩, trivial⟩
          (freeIn ["places", "dots"] (by decide +kernel) (fun m hm => by
            rcases List.mem_cons.mp hm with e | hm
            · rw [e]; exact fo.cell (by kernel_rfl)
            · rw [List.mem_singleton.mp hm]; exact fo.cell (by kernel_rfl))) (by decide +kernel) rfl (by decide +kernel) (by kernel_rfl)) ?_ (.inl (fo.kind (by kernel_rfl))) (swaps_comp (by unfold Env.blockKind; rw [fo.sc]; rfl) (fo.kind (by kernel_rfl)) (by rfl) (by decide +kernel))
        · rw [List.length_map, List.length_range] at hp
          rw [range_getD _ _ hp]
          refine ad_nest' (d := .range 0 ((m.length : Nat) : Int) 1) (outs := fun q => if cnd m p q = true then [mvD (p, q)] else []) rfl (fun it => lr_last rfl rfl) emitT_mono rm'.hh hiter (hcf.kind (by kernel_rfl) (by decide)) (by kernel_rfl)
            (fun B₂ O₂ s₂ acc g₂ I₂ => Ev.name (I₂.var (by walk_at "lk"))) (by rw [List.length_map, List.length_range]) (fun q hq => ?_)
          rw [range_getD _ _ hq]
          refine ad_emit (b := cnd m p q) (d := mvD (p, q)) fun B₂ O₂ s₂ acc g₂ I₂ => ⟨?_, fun _ => ?_⟩
          · have hcnd : ((0 + (p : Int)) != (0 + (q : Int)) && (decide ((0 : Int) ≤ ((m.getD p 0 : Nat) : Int) - ((m.getD q 0 : Nat) : Int)) && decide (((m.getD p 0 : Nat) : Int) - ((m.getD q 0 : Nat) : Int) ≤ 1))) = cnd m p q := by
              unfold cnd
              congr 1
              · rw [Bool.eq_iff_iff, bne_iff_ne, bne_iff_ne]; omega
              · congr 1
                · rw [Bool.eq_iff_iff, decide_eq_true_eq, decide_eq_true_eq]; omega
                · rw [Bool.eq_iff_iff, decide_eq_true_eq, decide_eq_true_eq]; omega
            refine TestsTo.one ?_
            rw [← hcnd]
            exact Tr.and2 (Tr.cmp (Ev.name (I₂.var (by walk_at "lk"))) (Ev.name (I₂.var (by walk_at "lk"))) I₂.liveAll op_neI) fun _ =>
              Tr.chain2 I₂.liveAll Ev.int (Ev.bin (Ev.sub (Ev.name (I₂.var (by walk_at "lk"))) (Ev.name (I₂.var (by walk_at "lk"))) I₂.liveAll (op_itemL (by omega) (by omega) (natsD_get (n := p) (by omega) hp))) (Ev.sub (Ev.name (I₂.var (by walk_at "lk"))) (Ev.name (I₂.var (by walk_at "lk"))) I₂.liveAll (op_itemL (by omega) (by omega) (natsD_get (n := q) (by omega) hq))) I₂.liveAll op_subI) Ev.int op_leI op_leI
          · exact Ev.tuple (Evs.cons (Ev.name (I₂.var (by walk_at "lk"))) (Evs.cons (Ev.name (I₂.var (by walk_at "lk"))) Evs.nil)) I₂.liveAll (by show 2 ≤ sizeLine; omega)
        intro s₄ I₄
        have hemp : ((movesN m).map mvD).isEmpty = (movesN m).isEmpty := by cases movesN m <;> rfl
        refine x_if (b := (movesN m).isEmpty) (Tr.cmp (Ev.name (I₄.varOld (by walk_at "lk"))) (Ev.list Evs.nil I₄.live (Nat.zero_le _)) I₄.live (hemp ▸ op_eqNil rm'.units)) (fun s₅ g₅ hb₅ => ?_) (fun s₅ g₅ hb₅ => ?_)
        · have I₅ := I₄.gr g₅
          refine x_return (Ev.name (I₅.varOld (by walk_at "lk"))) fun v s'' g' r => ⟨(I₅.grow fun a o h => hB a o h).trans g', ?_⟩
          rw [hfin hb₅]
          exact r.mono fun a o x => ⟨x.1, fun hm => x.2 (hO a hm)⟩
        · have I₅ := I₄.gr g₅
          refine x_nil ?_
          rw [hsg hb₅]
          clear hsg hnext hfin hgs
          have hLpos : 0 < (movesN m).length := by
            cases h : movesN m with
            | nil => rw [h] at hb₅; cases hb₅
            | cons _ _ => simp
          have hidx : (((dr : Nat) : Int).fmod ((((movesN m).map mvD).length : Nat) : Int)) = ((dr % (movesN m).length : Nat) : Int) := by
            rw [List.length_map, Int.fmod_eq_emod_of_nonneg _ (by omega)]; omega
          have hdiv : (((dr : Nat) : Int).fdiv ((((movesN m).map mvD).length : Nat) : Int)) = ((dr / (movesN m).length : Nat) : Int) := by
            rw [List.length_map, Int.fdiv_eq_ediv_of_nonneg _ (by omega)]; omega
          have hLlt : dr % (movesN m).length < (movesN m).length := Nat.mod_lt _ hLpos
          have hxe : mvAt m dr = (movesN m)[dr % (movesN m).length] := by
            unfold mvAt
            rw [List.getD_eq_getElem?_getD, List.getElem?_eq_getElem hLlt]; rfl
          have hxm : mvAt m dr ∈ movesN m := by rw [hxe]; exact List.getElem_mem hLlt
          obtain ⟨hp, hq, hc⟩ := movesN_mem hxm
          have hget : ((movesN m).map mvD)[((dr % (movesN m).length : Nat) : Int).toNat]? = some (D.tuple [.int (0 + ((mvAt m dr).1 : Int)), .int (0 + ((mvAt m dr).2 : Int))]) := by
            rw [Int.toNat_natCast, List.getElem?_map, List.getElem?_eq_getElem hLlt, ← hxe]; rfl
          have hK2 := K2 _ hxm
          generalize (mvAt m dr).1 = p at *
          generalize (mvAt m dr).2 = q at *
          unfold cnd at hc
          simp only [Bool.and_eq_true, bne_iff_ne, decide_eq_true_eq] at hc
          obtain ⟨hpq, hc1, hc2⟩ := hc
          have hnp := hle p
          have hnq := hle q
          have hunf : nextM m p q = restM m p q ++ newM (m.getD p 0) (m.getD q 0) := rfl
          rw [hunf]
          have hgp : ∀ {j : Int}, j = 0 + (p : Int) → (rowsD b m)[j.toNat]? = some (.str (S (Row.l (m.getD p 0, b) ++ [10]))) := fun h => rowsD_get (k := p) (by omega) hp
          have hgq : ∀ {j : Int}, j = 0 + (q : Int) → (rowsD b m)[j.toNat]? = some (.str (S (Row.l (m.getD q 0, b) ++ [10]))) := fun h => rowsD_get (k := q) (by omega) hq
          have hdp : (natsD m)[(0 + (p : Int)).toNat]? = some (.int ((m.getD p 0 : Nat) : Int)) := natsD_get (n := p) (by omega) hp
          have hdq : (natsD m)[(0 + (q : Int)).toNat]? = some (.int ((m.getD q 0 : Nat) : Int)) := natsD_get (n := q) (by omega) hq
          generalize hNP : m.getD p 0 = np at *
          generalize hNQ : m.getD q 0 = nq at *
          have hLb : ((((movesN m).map mvD).length : Nat) : Int) ≠ 0 := by rw [List.length_map]; omega
          have hL1000 : ((movesN m).map mvD).length < 1000 := by rw [List.length_map]; omega
          have bB : ∀ {x : Str}, (defAt P2 15).2.2.2.names.lookup x = some .cell → Bindable (fxOf prog w A O s₀ env) x := fun h => fo.bindC h
          have lenE : ∀ {s'' : Shared} {A' : Around} {pp : Pos}, Gr s s'' → EvV prog w A' env s'' (.Name "len" pp) (.builtin "len") := fun g' => bt2 fo rfl X g' "len" (by decide) (by kernel_rfl) (by kernel_rfl) (by kernel_rfl) (by decide +kernel)
          refine x_unpack2 (d₁ := .int (0 + (p : Int))) (d₂ := .int (0 + (q : Int))) rm'.hh I₅ (Ev.sub (Ev.name (I₅.var (by walk_at "lk"))) ((Ev.bin (Ev.name (I₅.var (by walk_at "lk"))) (Ev.callB (lenE (upB I₅)) (Evs.cons (Ev.name (I₅.var (by walk_at "lk"))) Evs.nil) (call_len_L (by rw [List.length_map]; omega))) I₅.liveAll (op_modI hLb)).cast (congrArg D.int hidx)) I₅.liveAll (op_itemL (by omega) (by omega) hget)) ?_ (bB (by kernel_rfl)) (bB (by kernel_rfl))
          intro s₆ I₆
          refine x_assign I₆ ((Ev.bin (Ev.name (I₆.var (by walk_at "lk"))) (Ev.callB (lenE (upB I₆)) (Evs.cons (Ev.name (I₆.var (by walk_at "lk"))) Evs.nil) (call_len_L (by rw [List.length_map]; omega))) I₆.liveAll (op_divI hLb (nopylN _ hL1000))).cast (congrArg D.int hdiv)) ?_ (.inl (fo.kind (by kernel_rfl)))
          intro s₇ I₇
          have hrq : (Row.l (nq, b) ++ [10]).length = nq + b.length + 1 := by rw [List.length_append, row_len]; rfl
          have hrp : (Row.l (np, b) ++ [10]).length = np + b.length + 1 := by rw [List.length_append, row_len]; rfl
          have hpqb : (((np : Nat) : Int) == ((nq : Nat) : Int)) = (np == nq) := by
            rw [Bool.eq_iff_iff, beq_iff_eq, beq_iff_eq]; omega
          have hh1 : np = nq → hidN b np nq = 2 := fun h => by unfold hidN; rw [if_pos h]
          have hh2 : np ≠ nq → hidN b np nq = nq + b.length + 1 := fun h => by unfold hidN; rw [if_neg h]
          refine x_assign I₇ (Ev.ite (b := (np == nq)) (d := .int ((hidN b np nq : Nat) : Int)) (Tr.cmp (Ev.sub (Ev.name (I₇.var (by walk_at "lk"))) (Ev.name (I₇.var (by walk_at "lk"))) I₇.liveAll (op_itemL (by omega) (by omega) hdp)) (Ev.sub (Ev.name (I₇.var (by walk_at "lk"))) (Ev.name (I₇.var (by walk_at "lk"))) I₇.liveAll (op_itemL (by omega) (by omega) hdq)) I₇.liveAll (hpqb ▸ op_eqI))
            (fun h => Ev.int.cast (congrArg D.int (by rw [hh1 (by simpa using h)]; rfl)))
            (fun h => (Ev.callB (lenE (upB I₇)) (Evs.cons (Ev.sub (Ev.name (I₇.var (by walk_at "lk"))) (Ev.name (I₇.var (by walk_at "lk"))) I₇.liveAll (op_itemL (by omega) (by omega) (hgq rfl))) Evs.nil) (call_len_SS (by rw [hrq]; omega))).cast (congrArg D.int (by rw [hrq, hh2 (by simpa using h)])))) ?_ (.inl (fo.kind (by kernel_rfl)))
          intro s₈ I₈
          have hhid : hidN b np nq ≤ (Row.l (nq, b) ++ [10]).length := by
            rw [hrq]
            by_cases h : np = nq
            · rw [hh1 h]; have := hK2 h; omega
            · rw [hh2 h]; omega
          obtain ⟨qg, hqg, hfg⟩ := X.grown
          obtain ⟨qs, hqs, hfs⟩ := X.strip
          obtain ⟨ga, hga, hfga⟩ := X.esc
          obtain ⟨qr, hqr, hfr⟩ := X.rows
          have h1p : 1 ≤ np := by
            by_cases h : np = nq
            · have := hK2 h; omega
            · omega
          obtain ⟨ps, qq, hin, hps, hqq, hout⟩ := in_lines hb h1p (fun h => by have := hK2 h; omega : np = nq → 2 ≤ nq)
          have hinl := in_len hb (h := hidN b np nq) (np := np) (nq := nq) (by omega) (by omega)
          have hinl2 := in_len hb (h := hidN b np nq) (np := np + 1) (nq := nq) (by omega) (by omega)
          have hina : ∀ c ∈ unlines ps qq, c < 128 := by rw [← hin]; exact in_asc hb
          have hgrown : CallTo prog w (A.deeper env) ((fxOf prog w A O s₀ env).with B O' |>.all []) s₈ (.ref qg) [.str (S (inT b (hidN b np nq) np nq))] (.str (S (inT b (hidN b np nq) (np + 1) nq))) := by
            have h := grown_ok (prog := prog) (w := w) (A := A.deeper env) (X.keeps (upB I₈).heap) (rm'.le (by decide)) I₈.liveAll (FnAt.keeps hfg (upB I₈).heap) hps hqq hina (by rw [← hin]; omega)
            rw [hout, ← hin] at h
            exact h
          have hhidN : ∀ {s'' : Shared} {A' : Around} {p₁ : Pos}, Gr s₈ s'' → Ev prog w A' env [] s'' (.Name "hidden" p₁) (.int ((hidN b np nq : Nat) : Int)) := fun g' => (Ev.name (O := []) (Var.weaken ((I₈.gr g').varOld (by walk_at "lk")) (fun _ h => nomatch h)))
          have rowE : ∀ {s'' : Shared} {A' : Around} {p₁ p₂ p₃ : Pos}, Gr s₈ s'' → Ev prog w A' env [] s'' (.Subscript (.Name "rows" p₁) (.Name "q" p₂) p₃) (.str (S (Row.l (nq, b) ++ [10]))) := fun g' => by
            have J' := I₈.gr g'
            exact (Ev.sub (Ev.name (J'.varOld (by walk_at "lk"))) (Ev.name (J'.varOld (by walk_at "lk"))) J'.live (op_itemL (by omega) (by omega) (hgq rfl))).scalar
          have rowP : ∀ {s'' : Shared} {A' : Around} {p₁ p₂ p₃ : Pos}, Gr s₈ s'' → Ev prog w A' env [] s'' (.Subscript (.Name "rows" p₁) (.Name "p" p₂) p₃) (.str (S (Row.l (np, b) ++ [10]))) := fun g' => by
            have J' := I₈.gr g'
            exact (Ev.sub (Ev.name (J'.varOld (by walk_at "lk"))) (Ev.name (J'.varOld (by walk_at "lk"))) J'.live (op_itemL (by omega) (by omega) (hgp rfl))).scalar
          have hb1 : ((Row.l (np, b) ++ [10]) ++ [34]).length + ((Row.l (nq, b) ++ [10]).take (hidN b np nq)).length ≤ sizeLine := by
            rw [List.length_append, hrp, List.length_take, hrq]; simp only [List.length_cons, List.length_nil]; omega
          have hb2 : ((Row.l (np, b) ++ [10]) ++ [34] ++ (Row.l (nq, b) ++ [10]).take (hidN b np nq)).length + ([34] : List Nat).length ≤ sizeLine := by
            rw [List.length_append, List.length_append, hrp, List.length_take, hrq]; simp only [List.length_cons, List.length_nil]; omega
          have hb3 : ((Row.l (np, b) ++ [10]) ++ [34] ++ (Row.l (nq, b) ++ [10]).take (hidN b np nq) ++ [34]).length + ((Row.l (nq, b) ++ [10]).drop (hidN b np nq)).length ≤ sizeLine := by
            rw [List.length_append, List.length_append, List.length_append, hrp, List.length_take, hrq, List.length_drop, hrq]; simp only [List.length_cons, List.length_nil]; omega
          refine x_assign I₈ (Ev.callFn (EvV.glob (X.keeps (upB I₈).heap).G hqg (by rw [fo.sc]; rfl) (fo.kind (by kernel_rfl)) fo.gl) (Evs.cons (Ev.bin (Ev.bin (Ev.bin (Ev.bin ((rowP (.refl _)).scalar) (Ev.strS (l := [34])) I₈.liveAll (op_addSS (by rw [hrp]; simp only [List.length_cons, List.length_nil]; omega)))
              (Ev.sliceToS (n := hidN b np nq) ((rowE (.refl _)).scalar) (EvP.some (hhidN (.refl _))) hhid (by rw [hrq]; omega)) I₈.liveAll (op_addSS hb1)) (Ev.strS (l := [34])) I₈.liveAll (op_addSS hb2))
              (Ev.sliceFromS (n := hidN b np nq) ((rowE (.refl _)).scalar) (EvP.some (hhidN (.refl _))) hhid (by rw [hrq]; omega)) I₈.liveAll (op_addSS hb3)) Evs.nil) (FnAt.keeps hfg (upB I₈).heap) hgrown) ?_ (.inl (fo.kind (by kernel_rfl)))
          intro s₉ I₉
          have hm2 : i % 2 = ((0 + (i : Int)).fmod ((2 : Nat) : Int)).toNat := by
            rw [Int.fmod_eq_emod_of_nonneg _ (by decide)]; omega
          refine x_assign I₉ (Ev.bin (Ev.strS (l := [92])) (Ev.bin (Ev.name (I₉.var (by walk_at "lk"))) Ev.int I₉.liveAll (op_fmodN (b := 2) (n := i % 2) (by decide) hm2)) I₉.liveAll (op_mulSS (mulOk_small (by omega)))) ?_ (.inl (fo.kind (by kernel_rfl)))
          intro s₁₀ I₁₀
          have hlone : (List.replicate (i % 2) 92).length ≤ 1 := by rw [List.length_replicate]; omega
          refine x_assign I₁₀ (Ev.bin (Ev.strS (l := [92, 92, 34])) (Ev.name (I₁₀.var (by walk_at "lk"))) I₁₀.liveAll (op_addSS (by simp only [List.length_cons, List.length_nil]; omega))) ?_ (.inl (fo.kind (by kernel_rfl)))
          intro s₁₁ I₁₁
          generalize hIT : inT b (hidN b np nq) (np + 1) nq = it at *
          have hst : stripS (S ([34, 120, 34] ++ it ++ [34, 34, 92, 92, 34, 121, 34, 34] ++ List.replicate (i % 2) 92)) = S (unlines (lsOf b (newM np nq)) [] ++ staysN i) := by
            rw [← hIT]; exact in_strip (k := i) hb (fun h => by have := hK2 h; omega)
          have hita : ∀ c ∈ it, c < 128 := by rw [← hIT]; exact in_asc hb
          have hx : Asc (S ([34, 120, 34] ++ it ++ [34, 34, 92, 92, 34, 121, 34, 34] ++ List.replicate (i % 2) 92)) := by
            intro c hc
            have hc : c ∈ [34, 120, 34] ++ it ++ [34, 34, 92, 92, 34, 121, 34, 34] ++ List.replicate (i % 2) 92 := hc
            simp only [List.mem_append, List.mem_cons, List.not_mem_nil, or_false] at hc
            rcases hc with ((h | h) | h) | h
            · omega
            · exact hita c h
            · omega
            · rw [(List.mem_replicate.mp h).2]; decide
          have hc1 : ([34, 120, 34] : List Nat).length = 3 := rfl
          have hc2 : ([34, 34, 92, 92, 34, 121, 34, 34] : List Nat).length = 8 := rfl
          refine x_assign I₁₁ ((Ev.callFn (EvV.glob (X.keeps (upB I₁₁).heap).G hqs (by rw [fo.sc]; rfl) (fo.kind (by kernel_rfl)) fo.gl)
            (Evs.cons (Ev.bin (Ev.bin (Ev.bin (Ev.strS (l := [34, 120, 34])) (Ev.name (I₁₁.var (by walk_at "lk"))) I₁₁.liveAll (op_addSS (by omega))) (Ev.strS (l := [34, 34, 92, 92, 34, 121, 34, 34])) I₁₁.liveAll (op_addSS (by rw [List.length_append]; omega))) (Ev.name (I₁₁.var (by walk_at "lk"))) I₁₁.liveAll (op_addSS (by rw [List.length_append, List.length_append]; omega))) Evs.nil) (FnAt.keeps hfs (upB I₁₁).heap)
            (strip2_ok (X.keeps (upB I₁₁).heap).G (X.free "enumerate" (by decide)) (X.free "len" (by decide)) hga (FnAt.keeps hfga (upB I₁₁).heap) (rm'.le (by decide)) I₁₁.liveAll (FnAt.keeps hfs (upB I₁₁).heap) hx (by rw [S_len, List.length_append, List.length_append, List.length_append]; omega))).cast (congrArg D.str hst)) ?_ (.inl (fo.kind (by kernel_rfl)))
          intro s₁₂ I₁₂
          have hnl := newM_len np nq
          have hnle := newM_le (np := np) (nq := nq) (by omega) (by omega)
          have hTl := lsOf_len hb (k := 31) (newM np nq) hnle
          have hTl2 : (newM np nq).length * (31 + 9) ≤ 80 := by omega
          have hquiet := ls_quiet hb (newM np nq)
          have hTasc := lsOf_asc hb (newM np nq)
          have hTnl := lsOf_nl hb (newM np nq)
          generalize hT : unlines (lsOf b (newM np nq)) [] = T at *
          have hsl : (staysN i).length = 3 + (List.replicate (i % 2) 92).length := by
            show (([92, 92, 34] : List Nat) ++ List.replicate (i % 2) 92).length = _
            rw [List.length_append]; rfl
          have hyl : (([92, 92, 34] : List Nat) ++ List.replicate (i % 2) 92).length = 3 + (List.replicate (i % 2) 92).length := by rw [List.length_append]; rfl
          have hTs : (T ++ staysN i).length = T.length + (staysN i).length := List.length_append
          have idx : ∀ {s'' : Shared} {A' : Around} {p₁ p₂ p₃ p₄ p₅ p₆ p₇ : Pos}, Gr s₁₂ s'' → Ev prog w A' env [] s'' (.BinOp (.Call (.Name "len" p₁) [.Name "left" p₂] [] p₃) .Sub (.Call (.Name "len" p₄) [.Name "stays" p₅] [] p₆) p₇) (.int ((T.length : Nat) : Int)) := fun g' => by
            have J' := I₁₂.gr g'
            refine ((Ev.bin (Ev.callB (lenE (upB J')) (Evs.cons (Ev.name (J'.varOld (by walk_at "lk"))) Evs.nil) (call_len_SS (l := T ++ staysN i) (by omega))) (Ev.callB (lenE (upB J')) (Evs.cons (Ev.name (J'.varOld (by walk_at "lk"))) Evs.nil) (call_len_SS (l := [92, 92, 34] ++ List.replicate (i % 2) 92) (by omega))) J'.live op_subI).cast (d' := .int ((T.length : Nat) : Int)) (congrArg D.int ?_)).scalar
            omega
          have hcmp : (S ((T ++ staysN i).drop T.length) != S ([92, 92, 34] ++ List.replicate (i % 2) 92)) = false := by
            rw [List.drop_left, S_ne]
            exact bne_self_eq_false _
          refine x_if (b := false) (Tr.cmp (Ev.sliceFromS (n := T.length) (Ev.name (I₁₂.varOld (by walk_at "lk"))) (EvP.some (idx (.refl _))) (by omega) (by omega)) (Ev.name (I₁₂.varOld (by walk_at "lk"))) I₁₂.live (hcmp ▸ op_neS)) (fun s₁₃ g₁₃ hb₁₃ => by cases hb₁₃) (fun s₁₃ g₁₃ _ => ?_)
          have I₁₃ := I₁₂.gr g₁₃
          have hT' : stripS (S ((T ++ staysN i).take T.length)) = S T := by
            rw [List.take_left]
            exact strip_quiet _ hquiet
          have hTa : Asc (S ((T ++ staysN i).take T.length)) := by
            rw [List.take_left]
            exact fun c hc => hTasc c hc
          refine x_nil (x_assign I₁₃ ((Ev.callFn (EvV.glob (X.keeps (upB I₁₃).heap).G hqs (by rw [fo.sc]; rfl) (fo.kind (by kernel_rfl)) fo.gl)
            (Evs.cons (Ev.sliceToS (n := T.length) (Ev.name (I₁₃.var (by walk_at "lk"))) (EvP.some (idx g₁₃)) (by omega) (by omega)) Evs.nil) (FnAt.keeps hfs (upB I₁₃).heap)
            (strip2_ok (X.keeps (upB I₁₃).heap).G (X.free "enumerate" (by decide)) (X.free "len" (by decide)) hga (FnAt.keeps hfga (upB I₁₃).heap) (rm'.le (by decide)) I₁₃.liveAll (FnAt.keeps hfs (upB I₁₃).heap) hTa (by rw [S_len, List.take_left]; omega))).cast (congrArg D.str hT')) ?_ (.inl (fo.kind (by kernel_rfl))))
          intro s₁₄ I₁₄
          have hrl := restM_len m p q
          have hrowsF : CallTo prog w (A.deeper env) ((fxOf prog w A O s₀ env).with B O' |>.all []) s₁₄ (.ref qr) [.str (S T)] (.list (rowsD b (newM np nq))) := by
            have h := rows2_ok (prog := prog) (w := w) (A := A.deeper env) (ls := lsOf b (newM np nq)) (X.keeps (upB I₁₄).heap) (rm'.le (by decide)) I₁₄.liveAll (FnAt.keeps hfr (upB I₁₄).heap) hTnl (by rw [hT]; omega)
            rw [hT, ← rowsD_ls] at h
            exact h
          rw [rowsD_app]
          refine x_assign I₁₄ (Ev.bin (ev_comp I₁₄ rfl fun s₂ g₂ I₂ => run_filter (keep := fun k => k != p && k != q) (item := fun k => Row.d (m.getD k 0, b)) (res := rowsD b (restM m p q)) rm'.hh I₂ (d := .range 0 ((m.length : Nat) : Int) 1) (Ev.name (I₂.var (by walk_at "lk"))) hiter
            (by rw [List.length_map, List.length_range]; exact outs_rest b m p q) (by rw [rowsD_len]; omega) (σc := [("rows", .dat (.list (rowsD b m))), ("p", .dat (.int (0 + (p : Int)))), ("q", .dat (.int (0 + (q : Int))))])
            (fun k hk cenv s₃ D₀ hcf gg B₂ O₂ s₄' acc g₄ I₄' => ?_) ⟨⟨by walk_at "lk", fo.kind (by kernel_rfl), by kernel_rfl, fo.cell (by kernel_rfl)⟩, ⟨by walk_at "lk", fo.kind (by kernel_rfl), by kernel_rfl, fo.cell (by kernel_rfl)⟩, ⟨by walk_at "lk", fo.kind (by kernel_rfl), by kernel_rfl, fo.cell (by kernel_rfl)⟩, trivial⟩
            (freeIn ["rows", "p", "q"] (by decide +kernel) (fun m hm => by
              rcases List.mem_cons.mp hm with e | hm
              · rw [e]; exact fo.cell (by kernel_rfl)
              · rcases List.mem_cons.mp hm with e | hm
                · rw [e]; exact fo.cell (by kernel_rfl)
                · rw [List.mem_singleton.mp hm]; exact fo.cell (by kernel_rfl))) (by decide +kernel) rfl (by decide +kernel) (by kernel_rfl))
            (Ev.callFn (EvV.glob (X.keeps (upB I₁₄).heap).G hqr (by rw [fo.sc]; rfl) (fo.kind (by kernel_rfl)) fo.gl) (Evs.cons (Ev.name (I₁₄.var (by walk_at "lk"))) Evs.nil) (FnAt.keeps hfr (upB I₁₄).heap) hrowsF)
            I₁₄.liveAll (op_addL (by rw [rowsD_len, rowsD_len]; omega))) ?_ (bB (by kernel_rfl)) rfl
          · rw [List.length_map, List.length_range] at hk
            rw [range_getD _ _ hk] at I₄'
            have hkp : ((0 + (k : Int)) != (0 + (p : Int))) = (k != p) := by rw [Bool.eq_iff_iff, bne_iff_ne, bne_iff_ne]; omega
            have hkq : ((0 + (k : Int)) != (0 + (q : Int))) = (k != q) := by rw [Bool.eq_iff_iff, bne_iff_ne, bne_iff_ne]; omega
            refine ⟨?_, fun _ => Ev.sub (Ev.name (I₄'.var (by walk_at "lk"))) (Ev.name (I₄'.var (by walk_at "lk"))) I₄'.liveAll (op_itemL (by omega) (by omega) (rowsD_get (k := k) (by omega) hk))⟩
            exact Tr.and2 (Tr.cmp (Ev.name (I₄'.var (by walk_at "lk"))) (Ev.name (I₄'.var (by walk_at "lk"))) I₄'.liveAll (hkp ▸ op_neI)) fun _ => Tr.cmp (Ev.name (I₄'.var (by walk_at "lk"))) (Ev.name (I₄'.var (by walk_at "lk"))) I₄'.liveAll (hkq ▸ op_neI)
          intro s₁₅ I₁₅
          exact x_nil (I₁₅.re ⟨by walk_at "lk", by walk_at "lk", trivial⟩)
      · rw [sigM_neg hg] at I'
        have I'' : Inv _ s' ([("range", .dat .none)] : List (Str × Sl)) [] := I'.re ⟨by walk_at "lk", trivial⟩
        exact (I''.absurdName (fo.kind (by kernel_rfl))).elim
    · intro s' I'
      rw [List.length_map, List.length_range] at I'
      have hn : ¬ gone ms draw 200 = true := fun h => by
        have := List.all_eq_true.mp h fi (List.mem_range.mpr hfi)
        rw [hfe] at this
        cases this
      rw [sigM_neg hn] at I'
      exact (I'.absurdName (fo.kind (by kernel_rfl))).elim
end
end Mine

namespace Mine
open PySem

def tbB (ms guide : List Nat) : Bool := ms.all (fun n => decide (1 ≤ n) && decide (n ≤ 30)) && decide (ms.length ≤ 10) && guide.all (fun n => decide (n ≤ 30)) && decide (guide.length ≤ 100)
structure TB (ms guide : List Nat) : Prop where
  h1 : ∀ n ∈ ms, 1 ≤ n ∧ n ≤ 30
  hl : ms.length ≤ 10
  hg : ∀ x ∈ guide, x ≤ 30
  hgl : guide.length ≤ 100
theorem tb_iff {ms guide : List Nat} (h : tbB ms guide = true) : TB ms guide := by
  unfold tbB at h
  simp only [Bool.and_eq_true, decide_eq_true_eq, List.all_eq_true] at h
  obtain ⟨⟨⟨h1, h2⟩, h3⟩, h4⟩ := h
  exact ⟨h1, h2, h3, h4⟩

/-- all ways of melting end well, and in rows that k takes: layer by layer -/
def nextsM (m : List Nat) : List (List Nat) := (movesN m).map fun y => nextM m y.1 y.2
def onceL : List (List Nat) → List (List Nat) → List (List Nat)
  | [], r => r
  | x :: l, r => onceL l (if r.contains x = true then r else x :: r)
theorem onceL_mem : ∀ (l r : List (List Nat)) (x : List Nat), (x ∈ l ∨ x ∈ r) → x ∈ onceL l r
  | [], r, x, h => by
    rcases h with h | h
    · cases h
    · exact h
  | y :: l, r, x, h => by
    rw [onceL]
    refine onceL_mem l _ x ?_
    rcases h with h | h
    · rcases List.mem_cons.mp h with e | h
      · right
        rw [e]
        split
        · rename_i hc
          exact List.contains_iff_mem.mp hc
        · exact List.mem_cons_self ..
      · exact .inl h
    · right
      split
      · exact h
      · exact List.mem_cons_of_mem _ h
def chkL (k : List Nat → Bool) : Nat → List (List Nat) → Bool
  | 0, L => L.isEmpty
  | f + 1, L => (L.all fun m => okM m && (!(movesN m).isEmpty || k m)) && chkL k f (onceL (L.map nextsM).flatten [])
def chkK (k : List Nat → Bool) (f : Nat) (m : List Nat) : Bool := chkL k f [m]
theorem mst_shift {m : List Nat} {draw : Nat} (h : (movesN m).isEmpty = false) : ∀ i, mst m draw (i + 1) = mst (nextM m (mvAt m draw).1 (mvAt m draw).2) (draw / (movesN m).length) i
  | 0 => by
    show (if (movesN m).isEmpty = true then (m, draw) else _) = _
    rw [h]; rfl
  | i + 1 => by
    have ih := mst_shift (draw := draw) h i
    show (if (movesN (mst m draw (i + 1)).1).isEmpty = true then mst m draw (i + 1) else _) = _
    rw [ih]; rfl
theorem chkL_run {k : List Nat → Bool} : ∀ (f : Nat) (L : List (List Nat)), chkL k f L = true → ∀ m ∈ L, ∀ draw, (∀ i, okM (mst m draw i).1 = true) ∧ ∃ i, i < f ∧ (movesN (mst m draw i).1).isEmpty = true ∧ k (mst m draw i).1 = true
  | 0, L, h, m, hm, draw => by
    rw [chkL, List.isEmpty_iff] at h
    rw [h] at hm; cases hm
  | f + 1, L, h, m, hm, draw => by
    rw [chkL, Bool.and_eq_true] at h
    obtain ⟨h1, h2⟩ := h
    have h1 := List.all_eq_true.mp h1 m hm
    rw [Bool.and_eq_true] at h1
    obtain ⟨h1, h3⟩ := h1
    cases hb : (movesN m).isEmpty with
    | true =>
      rw [hb] at h3
      have he : (movesN (mst m draw 0).1).isEmpty = true := hb
      refine ⟨fun i => ?_, 0, Nat.succ_pos _, he, h3⟩
      rw [mst_stop he i (Nat.zero_le _)]; exact h1
    | false =>
      have hpos : 0 < (movesN m).length := by
        cases hx : movesN m with
        | nil => rw [hx] at hb; cases hb
        | cons _ _ => simp
      have hmem : mvAt m draw ∈ movesN m := by
        have hlt : draw % (movesN m).length < (movesN m).length := Nat.mod_lt _ hpos
        have : mvAt m draw = (movesN m)[draw % (movesN m).length] := by
          unfold mvAt
          rw [List.getD_eq_getElem?_getD, List.getElem?_eq_getElem hlt]; rfl
        rw [this]; exact List.getElem_mem hlt
      have hn : nextM m (mvAt m draw).1 (mvAt m draw).2 ∈ onceL (L.map nextsM).flatten [] :=
        onceL_mem _ _ _ (.inl (List.mem_flatten.mpr ⟨nextsM m, List.mem_map.mpr ⟨m, hm, rfl⟩, List.mem_map.mpr ⟨_, hmem, rfl⟩⟩))
      obtain ⟨g1, i, g2, g3, g4⟩ := chkL_run f _ h2 _ hn (draw / (movesN m).length)
      refine ⟨fun j => ?_, i + 1, Nat.succ_lt_succ g2, ?_, ?_⟩
      · cases j with
        | zero => exact h1
        | succ j => rw [mst_shift hb]; exact g1 j
      · rw [mst_shift hb]; exact g3
      · rw [mst_shift hb]; exact g4
theorem chkK_melt {k : List Nat → Bool} {f : Nat} {m : List Nat} (draw : Nat) (hf : f ≤ 200) (h : chkK k f m = true) : MeltOk m draw ∧ k (meltF m draw) = true := by
  obtain ⟨h1, i, h2, h3, h4⟩ := chkL_run f [m] h m (List.mem_singleton.mpr rfl) draw
  refine ⟨⟨h1, i, by omega, h3⟩, ?_⟩
  unfold meltF
  rw [mst_stop h3 200 (by omega)]; exact h4

def wholeN (a b c : List Nat) : Nat := ((a.map fun x => (b.map fun y => (c.map fun z => worthsL.getD (x + y + z + 1) 0)).flatten).flatten).sum
structure LawOk (a b c : List Nat) (draw : Nat) : Prop where
  w : ∀ x ∈ a, ∀ y ∈ b, ∀ z ∈ c, x + y + z + 1 < 20
  t1 : TB b a
  k1 : MeltOk (timesM b a) draw
  t2 : TB (meltF (timesM b a) draw) c
  k2 : MeltOk (timesM (meltF (timesM b a) draw) c) draw
  p2 : (meltF (timesM (meltF (timesM b a) draw) c) draw).Perm (writN (wholeN a b c))
  t3 : TB a c
  k3 : MeltOk (timesM a c) draw
  t4 : TB b (meltF (timesM a c) draw)
  k4 : MeltOk (timesM b (meltF (timesM a c) draw)) draw
  p4 : (meltF (timesM b (meltF (timesM a c) draw)) draw).Perm (writN (wholeN a b c))
def lawB1 (a b c : List Nat) : Bool := tbB b a && chkK (fun m1 => tbB m1 c && chkK (fun m => m.isPerm (writN (wholeN a b c))) 12 (timesM m1 c)) 12 (timesM b a)
def lawB2 (a b c : List Nat) : Bool := tbB a c && chkK (fun f => tbB b f && chkK (fun m => m.isPerm (writN (wholeN a b c))) 12 (timesM b f)) 12 (timesM a c)
def lawB0 (a b c : List Nat) : Bool := a.all fun x => b.all fun y => c.all fun z => decide (x + y + z + 1 < 20)
theorem lawOk_of {a b c : List Nat} (draw : Nat) (h0 : lawB0 a b c = true) (h1 : lawB1 a b c = true) (h2 : lawB2 a b c = true) : LawOk a b c draw := by
  unfold lawB0 at h0
  unfold lawB1 at h1
  unfold lawB2 at h2
  rw [Bool.and_eq_true] at h1 h2
  simp only [List.all_eq_true, decide_eq_true_eq] at h0
  obtain ⟨a1, a2⟩ := chkK_melt draw (by decide) h1.2
  rw [Bool.and_eq_true] at a2
  obtain ⟨b1, b2⟩ := chkK_melt draw (by decide) a2.2
  obtain ⟨c1, c2⟩ := chkK_melt draw (by decide) h2.2
  rw [Bool.and_eq_true] at c2
  obtain ⟨d1, d2⟩ := chkK_melt draw (by decide) c2.2
  exact ⟨h0, tb_iff h1.1, a1, tb_iff a2.1, b1, List.isPerm_iff.mp b2, tb_iff h2.1, c1, tb_iff c2.1, d1, List.isPerm_iff.mp d2⟩
def asL : List Nat := [4, 6, 7]
def bsL : List Nat := [4, 7, 6]
def csL : List Nat := [1, 4, 2, 6, 3]
def lawB (a b c : List Nat) : Bool := lawB0 a b c && lawB1 a b c && lawB2 a b c
end Mine

namespace Mine
open PySem PySem.Calls PySem.Flt PySem.Builtin.Str

local macro_rules | `(tactic| walk_at "lk") => `(tactic| first | exact lk_here (by with_reducible rfl) rfl | exact lk_tail (by kernel_rfl) (by walk_at "lk"))

def kinds2 : List (List Nat) := [[], [97, 46], [92, 34], [92, 92], [13, 46], [92, 92, 92, 34]]
def ends2 : List (List Nat) := [[], [13]]
def restB2 (e : Int) : List Nat := kinds2.getD (e.fmod 6).toNat [] ++ ends2.getD ((e.fdiv 6).fmod 2).toNat []
theorem restB2_ok (e : Int) : OkB (restB2 e) := by
  have h1 := fmod_lt (a := e) (b := 6) (by decide)
  have h2 := fmod_lt (a := e.fdiv 6) (b := 2) (by decide)
  unfold restB2
  generalize hi : (e.fmod 6).toNat = i
  generalize hj : ((e.fdiv 6).fmod 2).toNat = j
  have key : ∀ i < 6, ∀ j < 2, okB (kinds2.getD i [] ++ ends2.getD j []) = true := by decide +kernel
  exact okB_iff (key i (by omega) j (by omega))

theorem worthsL_get {n : Nat} (h : n < 20) : n < worthsL.length := by rw [worthsL_len]; exact h
theorem row_at (n : Nat) (b : List Nat) : D.str (S (List.replicate n 46 ++ (b ++ [10]))) = Row.d (n, b) := by
  unfold Row.d rowS Row.l
  rw [List.append_assoc]
theorem rowsD_getD {b ms : List Nat} {k : Nat} (hk : k < ms.length) : (rowsD b ms).getD k .none = Row.d (ms.getD k 0, b) := by
  unfold rowsD
  rw [map_getD _ _ _ hk, List.getD_eq_getElem?_getD, List.getElem?_eq_getElem hk]; rfl
theorem outs_list {α : Type} (f : Nat → α) (g : α → List D) : ∀ (l : List Nat), outsTo (fun i => g (f (l.getD i 0))) l.length = ((l.map fun x => g (f x))).flatten := by
  intro l
  unfold outsTo
  congr 1
  apply List.ext_getElem
  · simp
  · intro i h1 h2
    rw [List.length_map, List.length_range] at h1
    rw [List.getElem_map, List.getElem_map, List.getElem_range, List.getD_eq_getElem?_getD, List.getElem?_eq_getElem h1]; rfl
def wholeL (a b c : List Nat) : List Nat := (a.map fun x => (b.map fun y => (c.map fun z => worthsL.getD (x + y + z + 1) 0)).flatten).flatten
theorem flat_nats {f : Nat → List Nat} : ∀ (l : List Nat), (l.map fun x => natsD (f x)).flatten = natsD (l.map f).flatten
  | [] => rfl
  | x :: l => by rw [List.map_cons, List.flatten_cons, List.map_cons, List.flatten_cons, natsD_app, flat_nats l]
theorem flat_one {f : Nat → Nat} : ∀ (l : List Nat), (l.map fun x => [D.int ((f x : Nat) : Int)]).flatten = natsD (l.map f)
  | [] => rfl
  | x :: l => by
    rw [List.map_cons, List.flatten_cons, List.map_cons, flat_one l]; rfl
theorem outs_whole (a b c : List Nat) : outsTo (fun i => outsTo (fun j => outsTo (fun k => [D.int ((worthsL.getD (a.getD i 0 + b.getD j 0 + c.getD k 0 + 1) 0 : Nat) : Int)]) c.length) b.length) a.length = natsD (wholeL a b c) := by
  have h1 : ∀ x y, outsTo (fun k => [D.int ((worthsL.getD (x + y + c.getD k 0 + 1) 0 : Nat) : Int)]) c.length = natsD (c.map fun z => worthsL.getD (x + y + z + 1) 0) := fun x y => by
    rw [outs_list (fun z => z) (fun z => [D.int ((worthsL.getD (x + y + z + 1) 0 : Nat) : Int)]) c]
    exact flat_one c
  have h2 : ∀ x, outsTo (fun j => outsTo (fun k => [D.int ((worthsL.getD (x + b.getD j 0 + c.getD k 0 + 1) 0 : Nat) : Int)]) c.length) b.length = natsD (b.map fun y => c.map fun z => worthsL.getD (x + y + z + 1) 0).flatten := fun x => by
    rw [outs_list (fun y => y) (fun y => outsTo (fun k => [D.int ((worthsL.getD (x + y + c.getD k 0 + 1) 0 : Nat) : Int)]) c.length) b]
    rw [show (fun y => outsTo (fun k => [D.int ((worthsL.getD (x + y + c.getD k 0 + 1) 0 : Nat) : Int)]) c.length) = fun y => natsD (c.map fun z => worthsL.getD (x + y + z + 1) 0) from funext fun y => h1 x y]
    exact flat_nats b
  rw [outs_list (fun x => x) (fun x => outsTo (fun j => outsTo (fun k => [D.int ((worthsL.getD (x + b.getD j 0 + c.getD k 0 + 1) 0 : Nat) : Int)]) c.length) b.length) a]
  rw [show (fun x => outsTo (fun j => outsTo (fun k => [D.int ((worthsL.getD (x + b.getD j 0 + c.getD k 0 + 1) 0 : Nat) : Int)]) c.length) b.length) = fun x => natsD (b.map fun y => c.map fun z => worthsL.getD (x + y + z + 1) 0).flatten from funext fun x => h2 x]
  exact flat_nats a
theorem flat_le {α β : Type} (f : α → List β) (k : Nat) (l : List α) (h : ∀ a ∈ l, (f a).length ≤ k) : (l.map f).flatten.length ≤ l.length * k := flat_len f k l h
theorem wholeL_len (a b c : List Nat) : (wholeL a b c).length ≤ a.length * (b.length * c.length) := by
  unfold wholeL
  refine flat_le _ _ _ fun x _ => flat_le _ _ _ fun y _ => ?_
  rw [List.length_map]; exact Nat.le_refl _

theorem writS_le (n : Nat) : ∀ k, ∀ x ∈ (writS n k).2, x ≤ 20
  | 0, x, h => by cases h
  | k + 1, x, h => by
    rw [writS] at h
    split at h
    · rcases List.mem_append.mp h with h | h
      · exact writS_le n k x h
      · rw [List.mem_singleton.mp h]; omega
    · exact writS_le n k x h
theorem writN_le (n : Nat) : ∀ x ∈ writN n, x ≤ 20 := writS_le n 20
theorem dep_strs (l : List Str) : (D.list (l.map D.str)).dep (0 + 1) = true := by
  show (l.map D.str).all (D.dep 0) = true
  rw [List.all_map]
  exact List.all_eq_true.mpr fun _ _ => rfl

section
variable {prog : Program} {w : World} {A : Around} {env : Env} {O : List Addr} {s : Shared}
theorem ev_list3 {e₁ e₂ e₃ : Expr} {d₁ d₂ d₃ : D} {p : Pos} (lv : Live O s.heap) (h₁ : Ev prog w A env O s e₁ d₁) (h₂ : Ev prog w A env O s e₂ d₂) (h₃ : Ev prog w A env O s e₃ d₃)
    (n₁ : notStar e₁ = true) (n₂ : notStar e₂ = true) (n₃ : notStar e₃ = true) : Ev prog w A env O s (.List [e₁, e₂, e₃] p) (.list [d₁, d₂, d₃]) :=
  Ev.list (Evs.cons' h₁ (Evs.cons' h₂ (Evs.cons' h₃ Evs.nil n₃) n₂) n₁) lv (by show 3 ≤ sizeLine; rw [sizeLine_eq]; decide)
theorem ev_list5 {e₁ e₂ e₃ e₄ e₅ : Expr} {d₁ d₂ d₃ d₄ d₅ : D} {p : Pos} (lv : Live O s.heap) (h₁ : Ev prog w A env O s e₁ d₁) (h₂ : Ev prog w A env O s e₂ d₂) (h₃ : Ev prog w A env O s e₃ d₃) (h₄ : Ev prog w A env O s e₄ d₄) (h₅ : Ev prog w A env O s e₅ d₅)
    (n₁ : notStar e₁ = true) (n₂ : notStar e₂ = true) (n₃ : notStar e₃ = true) (n₄ : notStar e₄ = true) (n₅ : notStar e₅ = true) : Ev prog w A env O s (.List [e₁, e₂, e₃, e₄, e₅] p) (.list [d₁, d₂, d₃, d₄, d₅]) :=
  Ev.list (Evs.cons' h₁ (Evs.cons' h₂ (Evs.cons' h₃ (Evs.cons' h₄ (Evs.cons' h₅ Evs.nil n₅) n₄) n₃) n₂) n₁) lv (by show 5 ≤ sizeLine; rw [sizeLine_eq]; decide)
theorem ev_list6 {e₁ e₂ e₃ e₄ e₅ e₆ : Expr} {d₁ d₂ d₃ d₄ d₅ d₆ : D} {p : Pos} (lv : Live O s.heap) (h₁ : Ev prog w A env O s e₁ d₁) (h₂ : Ev prog w A env O s e₂ d₂) (h₃ : Ev prog w A env O s e₃ d₃) (h₄ : Ev prog w A env O s e₄ d₄) (h₅ : Ev prog w A env O s e₅ d₅) (h₆ : Ev prog w A env O s e₆ d₆)
    (n₁ : notStar e₁ = true) (n₂ : notStar e₂ = true) (n₃ : notStar e₃ = true) (n₄ : notStar e₄ = true) (n₅ : notStar e₅ = true) (n₆ : notStar e₆ = true) : Ev prog w A env O s (.List [e₁, e₂, e₃, e₄, e₅, e₆] p) (.list [d₁, d₂, d₃, d₄, d₅, d₆]) :=
  Ev.list (Evs.cons' h₁ (Evs.cons' h₂ (Evs.cons' h₃ (Evs.cons' h₄ (Evs.cons' h₅ (Evs.cons' h₆ Evs.nil n₆) n₅) n₄) n₃) n₂) n₁) lv (by show 6 ≤ sizeLine; rw [sizeLine_eq]; decide)
theorem ev_list2 {e₁ e₂ : Expr} {d₁ d₂ : D} {p : Pos} (lv : Live O s.heap) (h₁ : Ev prog w A env O s e₁ d₁) (h₂ : Ev prog w A env O s e₂ d₂)
    (n₁ : notStar e₁ = true) (n₂ : notStar e₂ = true) : Ev prog w A env O s (.List [e₁, e₂] p) (.list [d₁, d₂]) :=
  Ev.list (Evs.cons' h₁ (Evs.cons' h₂ Evs.nil n₂) n₁) lv (by show 2 ≤ sizeLine; rw [sizeLine_eq]; decide)

theorem nopyl6' (x : Int) : Builtin.divisionGoesByPylong x 6 = false := rfl

set_option maxHeartbeats 2000000 in
theorem law2_ok {a : Addr} {ns : List Int} {ca cb cc cd ce : Int} {mg : Str → Option Value} (X : Top2 mg s.heap) (rm : Rm 12 A) (lv : Live O s.heap) (hf : Fn P2 16 s.heap a) (hc : cells2F ns = [ca, cb, cc, cd, ce])
    (K : LawOk (writN (asL.getD (ca.fmod 3).toNat 0)) (writN (bsL.getD (cb.fmod 3).toNat 0)) (writN (csL.getD (cc.fmod 5).toNat 0)) (cd.fmod 1000000).toNat) :
    CallTo prog w A O s (.ref a) [.list (ns.map D.int)] (.bool true) := by
  have hsz : sizeLine = 16777216 := sizeLine_eq
  refine fn_call ["script"] [("script", .dat (.list (ns.map D.int)))] X.G.nolimit rm.room hf lv (by decide +kernel) rfl ?_ (by kernel_rfl) ?_
  · intro vs hv pm cd doc
    obtain ⟨u, rfl⟩ : ∃ u, vs = [u] := by
      match vs, hv with
      | [u], _ => exact ⟨u, rfl⟩
    rfl
  · intro s₀ env L s₁ g lv₀ fo I g₁
    have rm' : Rm 11 (A.deeper env) := rm.deeper
    have up : ∀ {s' σ μ}, Inv (fxOf prog w A O s₀ env) s' σ μ → Gr s s' := fun J => g.trans (J.grow fun _ _ h => h)
    have bB : ∀ {x : Str}, (defAt P2 16).2.2.2.names.lookup x = some .cell → Bindable (fxOf prog w A O s₀ env) x := fun h => fo.bindC h
    have bL : ∀ {x : Str}, (defAt P2 16).2.2.2.names.lookup x = some .local → Bindable (fxOf prog w A O s₀ env) x := fun h => .inl (fo.kind h)
    obtain ⟨qc, hqc, hfc⟩ := X.cells
    obtain ⟨qw, hqw, hfw⟩ := X.written
    obtain ⟨qm, hqm, hfm⟩ := X.melted
    obtain ⟨qt, hqt, hft⟩ := X.times
    obtain ⟨qd, hqd, hfd⟩ := X.dots
    obtain ⟨qo, hqo, hfo⟩ := X.worths
    refine x_assign I ((Ev.callFn (EvV.glob (X.keeps (up I).heap).G hqc (by rw [fo.sc]; rfl) (fo.kind (by kernel_rfl)) fo.gl) (Evs.cons' (Ev.name (I.var (by walk_at "lk"))) Evs.nil) (FnAt.keeps hfc (up I).heap)
      (cells2_ok (X.keeps (up I).heap) (rm'.le (by decide)) I.liveAll (FnAt.keeps hfc (up I).heap))).cast (d' := .list [.int ca, .int cb, .int cc, .int cd, .int ce]) (by rw [hc]; rfl)) ?_ (bL (by kernel_rfl))
    intro s₂ I₂
    have hA3 := fmod_lt (a := ca) (b := 3) (by decide)
    have hB3 := fmod_lt (a := cb) (b := 3) (by decide)
    have hC5 := fmod_lt (a := cc) (b := 5) (by decide)
    have hasD : asL.map (fun n : Nat => D.int (n : Int)) = [D.int 4, D.int 6, D.int 7] := rfl
    have hbsD : bsL.map (fun n : Nat => D.int (n : Int)) = [D.int 4, D.int 7, D.int 6] := rfl
    have hcsD : csL.map (fun n : Nat => D.int (n : Int)) = [D.int 1, D.int 4, D.int 2, D.int 6, D.int 3] := rfl
    have hia := getD_map (fun n : Nat => D.int (n : Int)) asL (ca.fmod 3).toNat 0 (by show _ < 3; omega)
    have hib := getD_map (fun n : Nat => D.int (n : Int)) bsL (cb.fmod 3).toNat 0 (by show _ < 3; omega)
    have hic := getD_map (fun n : Nat => D.int (n : Int)) csL (cc.fmod 5).toNat 0 (by show _ < 5; omega)
    rw [hasD] at hia
    rw [hbsD] at hib
    rw [hcsD] at hic
    generalize asL.getD (ca.fmod 3).toNat 0 = na at *
    generalize bsL.getD (cb.fmod 3).toNat 0 = nb at *
    generalize csL.getD (cc.fmod 5).toNat 0 = nc at *
    refine @x_assign _ _ _ _ _ _ _ _ _ _ (D.list (natsD (writN na))) I₂ ?h1_1 ?h2_1 (bL (by kernel_rfl)) (swaps_no rfl)
    case h1_1 =>
      refine Ev.callFn (ds := [D.int (na : Int)]) (EvV.glob (X.keeps (up I₂).heap).G hqw (by rw [fo.sc]; rfl) (fo.kind (by kernel_rfl)) fo.gl) (Evs.cons' ?h4_1 Evs.nil) (FnAt.keeps hfw (up I₂).heap) (written_ok (X.keeps (up I₂).heap) (rm'.le (by decide)) I₂.liveAll (FnAt.keeps hfw (up I₂).heap))
      refine Ev.sub (dl := .list [D.int 4, D.int 6, D.int 7]) (dr := .int (ca.fmod 3)) ?a_1 ?b_1 I₂.liveAll (op_itemL hA3.1 (by omega) hia)
      case a_1 => exact ev_list3 I₂.liveAll Ev.int Ev.int Ev.int rfl rfl rfl
      case b_1 => exact Ev.bin (Ev.sub (Ev.name (I₂.var (by walk_at "lk"))) Ev.int I₂.liveAll (op_itemL (d := .int ca) (by decide) (by decide) rfl)) Ev.int I₂.liveAll (op_modI (by decide))
    intro s₃ I₃
    refine @x_assign _ _ _ _ _ _ _ _ _ _ (D.list (natsD (writN nb))) I₃ ?h1_2 ?h2_2 (bB (by kernel_rfl)) (swaps_no rfl)
    case h1_2 =>
      refine Ev.callFn (ds := [D.int (nb : Int)]) (EvV.glob (X.keeps (up I₃).heap).G hqw (by rw [fo.sc]; rfl) (fo.kind (by kernel_rfl)) fo.gl) (Evs.cons' ?h4_2 Evs.nil) (FnAt.keeps hfw (up I₃).heap) (written_ok (X.keeps (up I₃).heap) (rm'.le (by decide)) I₃.liveAll (FnAt.keeps hfw (up I₃).heap))
      refine Ev.sub (dl := .list [D.int 4, D.int 7, D.int 6]) (dr := .int (cb.fmod 3)) ?a_2 ?b_2 I₃.liveAll (op_itemL hB3.1 (by omega) hib)
      case a_2 => exact ev_list3 I₃.liveAll Ev.int Ev.int Ev.int rfl rfl rfl
      case b_2 => exact Ev.bin (Ev.sub (Ev.name (I₃.var (by walk_at "lk"))) Ev.int I₃.liveAll (op_itemL (d := .int cb) (by decide) (by decide) rfl)) Ev.int I₃.liveAll (op_modI (by decide))
    intro s₄ I₄
    refine @x_assign _ _ _ _ _ _ _ _ _ _ (D.list (natsD (writN nc))) I₄ ?h1_3 ?h2_3 (bB (by kernel_rfl)) (swaps_no rfl)
    case h1_3 =>
      refine Ev.callFn (ds := [D.int (nc : Int)]) (EvV.glob (X.keeps (up I₄).heap).G hqw (by rw [fo.sc]; rfl) (fo.kind (by kernel_rfl)) fo.gl) (Evs.cons' ?h4_3 Evs.nil) (FnAt.keeps hfw (up I₄).heap) (written_ok (X.keeps (up I₄).heap) (rm'.le (by decide)) I₄.liveAll (FnAt.keeps hfw (up I₄).heap))
      refine Ev.sub (dl := .list [D.int 1, D.int 4, D.int 2, D.int 6, D.int 3]) (dr := .int (cc.fmod 5)) ?a_3 ?b_3 I₄.liveAll (op_itemL hC5.1 (by omega) hic)
      case a_3 => exact ev_list5 I₄.liveAll Ev.int Ev.int Ev.int Ev.int Ev.int rfl rfl rfl rfl rfl
      case b_3 => exact Ev.bin (Ev.sub (Ev.name (I₄.var (by walk_at "lk"))) Ev.int I₄.liveAll (op_itemL (d := .int cc) (by decide) (by decide) rfl)) Ev.int I₄.liveAll (op_modI (by decide))
    intro s₅ I₅
    have hal := writS_len na 20
    have hbl := writS_len nb 20
    have hcl := writS_len nc 20
    rw [show (writS na 20).2 = writN na from rfl] at hal
    rw [show (writS nb 20).2 = writN nb from rfl] at hbl
    rw [show (writS nc 20).2 = writN nc from rfl] at hcl
    generalize writN na = as at *
    generalize writN nb = bs at *
    generalize writN nc = cs at *
    generalize hdr : (cd.fmod 1000000).toNat = dr at *
    refine @x_assign _ _ _ _ _ _ _ _ _ _ (D.int (dr : Int)) I₅ ?h1_4 ?h2_4 (bL (by kernel_rfl)) (swaps_no rfl)
    case h1_4 => exact Ev.bin (dr := .int 1000000) (Ev.sub (Ev.name (I₅.var (by walk_at "lk"))) Ev.int I₅.liveAll (op_itemL (d := .int cd) (by decide) (by decide) rfl)) (Ev.bin Ev.int Ev.int I₅.liveAll op_pow6) I₅.liveAll (op_fmodN (b := 1000000) (n := dr) (by decide) hdr.symm)
    intro s₆ I₆
    have hE6 := fmod_lt (a := ce) (b := 6) (by decide)
    have hE2 := fmod_lt (a := ce.fdiv 6) (b := 2) (by decide)
    have hik := getD_map (fun l => D.str (S l)) kinds2 (ce.fmod 6).toNat [] (by show _ < 6; omega)
    have hie := getD_map (fun l => D.str (S (l ++ [10]))) ends2 ((ce.fdiv 6).fmod 2).toNat [] (by show _ < 2; omega)
    have hkD : kinds2.map (fun l => D.str (S l)) = [D.str (S []), D.str (S [97, 46]), D.str (S [92, 34]), D.str (S [92, 92]), D.str (S [13, 46]), D.str (S [92, 92, 92, 34])] := rfl
    have heD : ends2.map (fun l => D.str (S (l ++ [10]))) = [D.str (S [10]), D.str (S [13, 10])] := rfl
    rw [hkD] at hik
    rw [heD] at hie
    have hB := restB2_ok ce
    have hBe : restB2 ce = kinds2.getD (ce.fmod 6).toNat [] ++ ends2.getD ((ce.fdiv 6).fmod 2).toNat [] := rfl
    generalize kinds2.getD (ce.fmod 6).toNat [] = B1 at *
    generalize ends2.getD ((ce.fdiv 6).fmod 2).toNat [] = B2 at *
    generalize restB2 ce = B at *
    have hBl := hB.len
    have hBl2 : B.length = B1.length + B2.length := by rw [hBe, List.length_append]
    refine @x_assign _ _ _ _ _ _ _ _ _ _ (D.str (S (B ++ [10]))) I₆ ?h1_5 ?h2_5 (bB (by kernel_rfl)) (swaps_no rfl)
    case h1_5 =>
      refine (Ev.bin (dl := .str (S B1)) (dr := .str (S (B2 ++ [10]))) ?a_5 ?b_5 I₆.liveAll (op_addSS (by rw [List.length_append]; simp only [List.length_cons, List.length_nil]; omega))).cast (by rw [hBe, List.append_assoc])
      case a_5 =>
        refine Ev.sub (dl := .list [D.str (S []), D.str (S [97, 46]), D.str (S [92, 34]), D.str (S [92, 92]), D.str (S [13, 46]), D.str (S [92, 92, 92, 34])]) (dr := .int (ce.fmod 6)) ?c_5 ?d_5 I₆.liveAll (op_itemL hE6.1 (by omega) hik)
        case c_5 => exact ev_list6 I₆.liveAll Ev.strS Ev.strS Ev.strS Ev.strS Ev.strS Ev.strS rfl rfl rfl rfl rfl rfl
        case d_5 => exact Ev.bin (Ev.sub (Ev.name (I₆.var (by walk_at "lk"))) Ev.int I₆.liveAll (op_itemL (d := .int ce) (by decide) (by decide) rfl)) Ev.int I₆.liveAll (op_modI (by decide))
      case b_5 =>
        refine Ev.sub (dl := .list [D.str (S [10]), D.str (S [13, 10])]) (dr := .int ((ce.fdiv 6).fmod 2)) ?c_5 ?d_5 I₆.liveAll (op_itemL hE2.1 (by omega) hie)
        case c_5 => exact ev_list2 I₆.liveAll Ev.strS Ev.strS rfl rfl
        case d_5 => exact Ev.bin (Ev.bin (Ev.sub (Ev.name (I₆.var (by walk_at "lk"))) Ev.int I₆.liveAll (op_itemL (d := .int ce) (by decide) (by decide) rfl)) Ev.int I₆.liveAll (op_divI (by decide) (nopyl6' _))) Ev.int I₆.liveAll (op_modI (by decide))
    intro s₇ I₇
    have hgle : ∀ {l : List Nat} {n : Nat}, (∀ x ∈ l, x ≤ n) → ∀ k, l.getD k 0 ≤ n := @fun l n h k => by
      rw [List.getD_eq_getElem?_getD]
      cases e : l[k]? with
      | none => exact Nat.zero_le _
      | some x => exact h x (List.mem_of_getElem? e)
    have hbs30 : ∀ k, bs.getD k 0 ≤ 30 := hgle fun x hx => (K.t1.h1 x hx).2
    have has30 : ∀ k, as.getD k 0 ≤ 30 := hgle fun x hx => (K.t3.h1 x hx).2
    refine x_assignComp (res := rowsD B bs) I₇ rfl (run_map (res := rowsD B bs) rm'.hh I₇ (d := .list (natsD bs)) (Ev.name (I₇.var (by walk_at "lk"))) (IterD.list _) (by rw [natsD_len, rowsD_len]) (by rw [rowsD_len]; omega) (σc := [("rest", .dat (.str (S (B ++ [10]))))])
      (fun k hk cenv B₂ O₂ s₀' s' D₀ acc hcf gg I' => by
        rw [natsD_len] at hk
        rw [natsD_getD hk] at I'
        rw [rowsD_getD hk, ← row_at]
        have hle := hbs30 k
        exact Ev.bin (Ev.bin (Ev.strS (l := [46])) (Ev.name (I'.var (by walk_at "lk"))) I'.liveAll (op_mulSS (mulOk_small (by omega)))) (Ev.name (I'.var (by walk_at "lk"))) I'.liveAll (op_addSS (by rw [List.length_replicate, List.length_append]; simp only [List.length_cons, List.length_nil]; omega)))
      ⟨⟨by walk_at "lk", fo.kind (by kernel_rfl), by kernel_rfl, fo.cell (by kernel_rfl)⟩, trivial⟩ (freeIn ["rest"] (by decide +kernel) (fun m hm => by rw [List.mem_singleton.mp hm]; exact fo.cell (by kernel_rfl))) (by decide +kernel) rfl (by decide +kernel) (by kernel_rfl)) ?_ (bL (by kernel_rfl)) (swaps_comp (by unfold Env.blockKind; rw [fo.sc]; rfl) (fo.kind (by kernel_rfl)) (by rfl) (by decide +kernel))
    intro s₈ I₈
    obtain ⟨hKw, t1, k1, t2, k2, hp2, t3, k3, t4, k4, hp4⟩ := K
    have cT : ∀ {ms gs : List Nat}, TB ms gs → ∀ {A' : Around} {O' : List Addr} {s' : Shared}, Top2 mg s'.heap → Rm 6 A' → Live O' s'.heap → Fn P2 14 s'.heap qt → CallTo prog w A' O' s' (.ref qt) [.list (rowsD B ms), .list (natsD gs)] (.list (rowsD B (timesM ms gs))) :=
      fun t _ _ _ X' r l f => times_ok X' r l f hB t.h1 t.hl t.hg t.hgl
    have cM : ∀ {ms : List Nat}, MeltOk ms dr → ∀ {A' : Around} {O' : List Addr} {s' : Shared}, Top2 mg s'.heap → Rm 8 A' → Live O' s'.heap → Fn P2 15 s'.heap qm → CallTo prog w A' O' s' (.ref qm) [.list (rowsD B ms), .int (dr : Int)] (.list (rowsD B (meltF ms dr))) :=
      fun k _ _ _ X' r l f => melted_ok X' r l f hB k
    have cT1 : ∀ {A' : Around} {O' : List Addr} {s' : Shared}, Top2 mg s'.heap → Rm 6 A' → Live O' s'.heap → Fn P2 14 s'.heap qt → CallTo prog w A' O' s' (.ref qt) [.list (rowsD B bs), .list (natsD as)] (.list (rowsD B (timesM bs as))) := fun X' r l f => cT t1 X' r l f
    have cM1 : ∀ {A' : Around} {O' : List Addr} {s' : Shared}, Top2 mg s'.heap → Rm 8 A' → Live O' s'.heap → Fn P2 15 s'.heap qm → CallTo prog w A' O' s' (.ref qm) [.list (rowsD B (timesM bs as)), .int (dr : Int)] (.list (rowsD B (meltF (timesM bs as) dr))) := fun X' r l f => cM k1 X' r l f
    have cT2 : ∀ {A' : Around} {O' : List Addr} {s' : Shared}, Top2 mg s'.heap → Rm 6 A' → Live O' s'.heap → Fn P2 14 s'.heap qt → CallTo prog w A' O' s' (.ref qt) [.list (rowsD B (meltF (timesM bs as) dr)), .list (natsD cs)] (.list (rowsD B (timesM (meltF (timesM bs as) dr) cs))) := fun X' r l f => cT t2 X' r l f
    have cM2 : ∀ {A' : Around} {O' : List Addr} {s' : Shared}, Top2 mg s'.heap → Rm 8 A' → Live O' s'.heap → Fn P2 15 s'.heap qm → CallTo prog w A' O' s' (.ref qm) [.list (rowsD B (timesM (meltF (timesM bs as) dr) cs)), .int (dr : Int)] (.list (rowsD B (meltF (timesM (meltF (timesM bs as) dr) cs) dr))) := fun X' r l f => cM k2 X' r l f
    have cT3 : ∀ {A' : Around} {O' : List Addr} {s' : Shared}, Top2 mg s'.heap → Rm 6 A' → Live O' s'.heap → Fn P2 14 s'.heap qt → CallTo prog w A' O' s' (.ref qt) [.list (rowsD B as), .list (natsD cs)] (.list (rowsD B (timesM as cs))) := fun X' r l f => cT t3 X' r l f
    have cM3 : ∀ {A' : Around} {O' : List Addr} {s' : Shared}, Top2 mg s'.heap → Rm 8 A' → Live O' s'.heap → Fn P2 15 s'.heap qm → CallTo prog w A' O' s' (.ref qm) [.list (rowsD B (timesM as cs)), .int (dr : Int)] (.list (rowsD B (meltF (timesM as cs) dr))) := fun X' r l f => cM k3 X' r l f
    have cT4 : ∀ {A' : Around} {O' : List Addr} {s' : Shared}, Top2 mg s'.heap → Rm 6 A' → Live O' s'.heap → Fn P2 14 s'.heap qt → CallTo prog w A' O' s' (.ref qt) [.list (rowsD B bs), .list (natsD (meltF (timesM as cs) dr))] (.list (rowsD B (timesM bs (meltF (timesM as cs) dr)))) := fun X' r l f => cT t4 X' r l f
    have cM4 : ∀ {A' : Around} {O' : List Addr} {s' : Shared}, Top2 mg s'.heap → Rm 8 A' → Live O' s'.heap → Fn P2 15 s'.heap qm → CallTo prog w A' O' s' (.ref qm) [.list (rowsD B (timesM bs (meltF (timesM as cs) dr))), .int (dr : Int)] (.list (rowsD B (meltF (timesM bs (meltF (timesM as cs) dr)) dr))) := fun X' r l f => cM k4 X' r l f
    have hFle : ∀ k, (meltF (timesM as cs) dr).getD k 0 ≤ 30 := hgle t4.hg
    have hFl := t4.hgl
    clear cT cM t1 k1 t2 k2 t3 k3 t4 k4
    generalize timesM bs as = T₁ at *
    generalize meltF T₁ dr = M₁ at *
    generalize timesM M₁ cs = T₂ at *
    generalize meltF T₂ dr = one at *
    generalize timesM as cs = T₃ at *
    generalize meltF T₃ dr = fs at *
    generalize timesM bs fs = T₄ at *
    generalize meltF T₄ dr = two at *
    refine x_assign I₈ (d := .list (rowsD B one)) ?e8 ?n8 (bL (by kernel_rfl)) (swaps_no rfl)
    case e8 =>
      have gX := X.keeps (up I₈).heap
      refine Ev.callFn (ds := [.list (rowsD B T₂), .int (dr : Int)]) (EvV.glob (X.keeps (up I₈).heap).G hqm (by rw [fo.sc]; rfl) (fo.kind (by kernel_rfl)) fo.gl) (Evs.cons' ?f8 (Evs.cons' (Ev.name (I₈.var (by walk_at "lk"))) Evs.nil)) (FnAt.keeps hfm (up I₈).heap) (cM2 gX (rm'.le (by decide)) I₈.liveAll (FnAt.keeps hfm (up I₈).heap))
      refine Ev.callFn (ds := [.list (rowsD B M₁), .list (natsD cs)]) (EvV.glob (X.keeps (up I₈).heap).G hqt (by rw [fo.sc]; rfl) (fo.kind (by kernel_rfl)) fo.gl) (Evs.cons' ?g8 (Evs.cons' (Ev.name (I₈.var (by walk_at "lk"))) Evs.nil)) (FnAt.keeps hft (up I₈).heap) (cT2 gX (rm'.le (by decide)) I₈.liveAll (FnAt.keeps hft (up I₈).heap))
      refine Ev.callFn (ds := [.list (rowsD B T₁), .int (dr : Int)]) (EvV.glob (X.keeps (up I₈).heap).G hqm (by rw [fo.sc]; rfl) (fo.kind (by kernel_rfl)) fo.gl) (Evs.cons' ?i8 (Evs.cons' (Ev.name (I₈.var (by walk_at "lk"))) Evs.nil)) (FnAt.keeps hfm (up I₈).heap) (cM1 gX (rm'.le (by decide)) I₈.liveAll (FnAt.keeps hfm (up I₈).heap))
      exact Ev.callFn (ds := [.list (rowsD B bs), .list (natsD as)]) (EvV.glob (X.keeps (up I₈).heap).G hqt (by rw [fo.sc]; rfl) (fo.kind (by kernel_rfl)) fo.gl) (Evs.cons' (Ev.name (I₈.var (by walk_at "lk"))) (Evs.cons' (Ev.name (I₈.var (by walk_at "lk"))) Evs.nil)) (FnAt.keeps hft (up I₈).heap) (cT1 gX (rm'.le (by decide)) I₈.liveAll (FnAt.keeps hft (up I₈).heap))
    intro s₉ I₉
    refine x_assign I₉ (d := .list (rowsD B fs)) ?e9 ?n9 (bL (by kernel_rfl)) (swaps_no rfl)
    case e9 =>
      have gX := X.keeps (up I₉).heap
      refine Ev.callFn (ds := [.list (rowsD B T₃), .int (dr : Int)]) (EvV.glob (X.keeps (up I₉).heap).G hqm (by rw [fo.sc]; rfl) (fo.kind (by kernel_rfl)) fo.gl) (Evs.cons' ?f9 (Evs.cons' (Ev.name (I₉.var (by walk_at "lk"))) Evs.nil)) (FnAt.keeps hfm (up I₉).heap) (cM3 gX (rm'.le (by decide)) I₉.liveAll (FnAt.keeps hfm (up I₉).heap))
      refine Ev.callFn (ds := [.list (rowsD B as), .list (natsD cs)]) (EvV.glob (X.keeps (up I₉).heap).G hqt (by rw [fo.sc]; rfl) (fo.kind (by kernel_rfl)) fo.gl) (Evs.cons' ?g9 (Evs.cons' (Ev.name (I₉.var (by walk_at "lk"))) Evs.nil)) (FnAt.keeps hft (up I₉).heap) (cT3 gX (rm'.le (by decide)) I₉.liveAll (FnAt.keeps hft (up I₉).heap))
      exact (ev_comp I₉ rfl fun s₂ g₂ I₂ => run_map (res := rowsD B as) rm'.hh I₂ (d := .list (natsD as)) (Ev.name (I₂.var (by walk_at "lk"))) (IterD.list _) (by rw [natsD_len, rowsD_len]) (by rw [rowsD_len]; omega) (σc := [("rest", .dat (.str (S (B ++ [10]))))])
      (fun k hk cenv B₂ O₂ s₀' s' D₀ acc hcf gg I' => by
        rw [natsD_len] at hk
        rw [natsD_getD hk] at I'
        rw [rowsD_getD hk, ← row_at]
        have hle := has30 k
        exact Ev.bin (Ev.bin (Ev.strS (l := [46])) (Ev.name (I'.var (by walk_at "lk"))) I'.liveAll (op_mulSS (mulOk_small (by omega)))) (Ev.name (I'.var (by walk_at "lk"))) I'.liveAll (op_addSS (by rw [List.length_replicate, List.length_append]; simp only [List.length_cons, List.length_nil]; omega)))
      ⟨⟨by walk_at "lk", fo.kind (by kernel_rfl), by kernel_rfl, fo.cell (by kernel_rfl)⟩, trivial⟩ (freeIn ["rest"] (by decide +kernel) (fun m hm => by rw [List.mem_singleton.mp hm]; exact fo.cell (by kernel_rfl))) (by decide +kernel) rfl (by decide +kernel) (by kernel_rfl))
    intro s₁₀ I₁₀
    refine x_assign I₁₀ (d := .list (rowsD B two)) ?e10 ?n10 (bL (by kernel_rfl)) (swaps_no rfl)
    case e10 =>
      have gX := X.keeps (up I₁₀).heap
      refine Ev.callFn (ds := [.list (rowsD B T₄), .int (dr : Int)]) (EvV.glob (X.keeps (up I₁₀).heap).G hqm (by rw [fo.sc]; rfl) (fo.kind (by kernel_rfl)) fo.gl) (Evs.cons' ?f10 (Evs.cons' (Ev.name (I₁₀.var (by walk_at "lk"))) Evs.nil)) (FnAt.keeps hfm (up I₁₀).heap) (cM4 gX (rm'.le (by decide)) I₁₀.liveAll (FnAt.keeps hfm (up I₁₀).heap))
      refine Ev.callFn (ds := [.list (rowsD B bs), .list (natsD fs)]) (EvV.glob (X.keeps (up I₁₀).heap).G hqt (by rw [fo.sc]; rfl) (fo.kind (by kernel_rfl)) fo.gl) (Evs.cons' (Ev.name (I₁₀.var (by walk_at "lk"))) (Evs.cons' ?g10 Evs.nil)) (FnAt.keeps hft (up I₁₀).heap) (cT4 gX (rm'.le (by decide)) I₁₀.liveAll (FnAt.keeps hft (up I₁₀).heap))
      exact (ev_comp I₁₀ rfl fun s₂ g₂ I₂ => run_map (res := natsD fs) rm'.hh I₂ (d := .list (rowsD B fs)) (Ev.name (I₂.var (by walk_at "lk"))) (IterD.list _) (by rw [natsD_len, rowsD_len]) (by rw [natsD_len]; omega) (σc := [])
        (fun k hk cenv B₂ O₂ s₀' s₃ D₀ acc hcf gg I₃ => by
          rw [rowsD_len] at hk
          rw [natsD_getD hk]
          rw [rowsD_getD hk] at I₃
          have gs : Gr s s₃ := (up I₂).trans gg
          have hle := hFle k
          exact Ev.callFn (EvV.glob (X.keeps gs.heap).G hqd (hcf.fn rfl) (hcf.kind (by kernel_rfl) (by decide)) (hcf.gl.trans fo.gl)) (Evs.cons (Ev.name (I₃.var (by walk_at "lk"))) Evs.nil) (FnAt.keeps hfd gs.heap)
            (dots_ok (r := (fs.getD k 0, B)) (X.keeps gs.heap) (rm'.le (by decide)) I₃.liveAll (FnAt.keeps hfd gs.heap) hB (by show fs.getD k 0 ≤ 1000; omega)))
        trivial (noFree (by decide +kernel)) (by decide +kernel) rfl (by decide +kernel) (by kernel_rfl))
    intro s₁₁ I₁₁
    refine x_assign I₁₁ (Ev.callFn0 (EvV.glob (X.keeps (up I₁₁).heap).G hqo (by rw [fo.sc]; rfl) (fo.kind (by kernel_rfl)) fo.gl) (FnAt.keeps hfo (up I₁₁).heap) (worths_ok (X.keeps (up I₁₁).heap) (rm'.le (by decide)) I₁₁.liveAll (FnAt.keeps hfo (up I₁₁).heap))) ?_ (bB (by kernel_rfl))
    intro s₁₂ I₁₂
    have hWl := wholeL_len as bs cs
    have hWl2 : as.length * (bs.length * cs.length) ≤ 20 * (20 * 20) := Nat.mul_le_mul hal (Nat.mul_le_mul hbl hcl)
    have hWe : (wholeL as bs cs).sum = wholeN as bs cs := rfl
    have hmem : ∀ {l : List Nat} {k : Nat}, k < l.length → l.getD k 0 ∈ l := fun h => by
      rw [List.getD_eq_getElem?_getD, List.getElem?_eq_getElem h]
      exact List.getElem_mem h
    refine x_assign I₁₂ ((Ev.callB (bt2 fo rfl X (up I₁₂) "sum" (by decide) (by kernel_rfl) (by kernel_rfl) (by kernel_rfl) (by decide +kernel)) (Evs.cons' (ev_comp I₁₂ rfl fun s₂ g₂ I₂ =>
      run_head (outs := fun i => outsTo (fun j => outsTo (fun k => [D.int ((worthsL.getD (as.getD i 0 + bs.getD j 0 + cs.getD k 0 + 1) 0 : Nat) : Int)]) cs.length) bs.length) (res := natsD (wholeL as bs cs)) rm'.hh I₂ (d := .list (natsD as)) (Ev.name (I₂.var (by walk_at "lk"))) (IterD.list _)
        (by rw [natsD_len]; exact outs_whole as bs cs) (by rw [natsD_len]; omega) (fun cenv it D₀ hcf => lr_more rfl rfl rfl (fun _ => rfl)) (fun cenv D₀ => nestT_mono)
        (fun i hi cenv s₁' D₀ hcf gg => ?turn) (σc := [("b", .dat (.list (natsD bs))), ("c", .dat (.list (natsD cs))), ("worths", .dat (.list (natsD worthsL)))])
        ⟨⟨by walk_at "lk", fo.kind (by kernel_rfl), by kernel_rfl, fo.cell (by kernel_rfl)⟩, ⟨by walk_at "lk", fo.kind (by kernel_rfl), by kernel_rfl, fo.cell (by kernel_rfl)⟩, ⟨by walk_at "lk", fo.kind (by kernel_rfl), by kernel_rfl, fo.cell (by kernel_rfl)⟩, trivial⟩
        (freeIn ["b", "c", "worths"] (by decide +kernel) (fun m hm => by
          rcases List.mem_cons.mp hm with e | hm
          · rw [e]; exact fo.cell (by kernel_rfl)
          · rcases List.mem_cons.mp hm with e | hm
            · rw [e]; exact fo.cell (by kernel_rfl)
            · rw [List.mem_singleton.mp hm]; exact fo.cell (by kernel_rfl))) (by decide +kernel) rfl (by decide +kernel) (by kernel_rfl)) Evs.nil) (call_sum_N (l := wholeL as bs cs) rm'.hh)).cast (d' := .int ((wholeN as bs cs : Nat) : Int)) (congrArg (fun n : Nat => D.int (n : Int)) hWe)) ?rest13 (bL (by kernel_rfl))
    case turn =>
      rw [natsD_len] at hi
      rw [natsD_getD hi]
      refine ad_nest' (d := .list (natsD bs)) (outs := fun j => outsTo (fun k => [D.int ((worthsL.getD (as.getD i 0 + bs.getD j 0 + cs.getD k 0 + 1) 0 : Nat) : Int)]) cs.length)
        rfl (fun it => lr_more rfl rfl rfl (fun _ => rfl)) nestT_mono rm'.hh (IterD.list _) (hcf.kind (by kernel_rfl) (by decide)) (by kernel_rfl)
        (fun B₂ O₂ s₂ acc g₂ I₂ => Ev.name (I₂.var (by walk_at "lk"))) (natsD_len _) (fun j hj => ?_)
      rw [natsD_getD hj]
      refine ad_nest' (d := .list (natsD cs)) (outs := fun k => [D.int ((worthsL.getD (as.getD i 0 + bs.getD j 0 + cs.getD k 0 + 1) 0 : Nat) : Int)])
        rfl (fun it => lr_last rfl rfl) emitT_mono rm'.hh (IterD.list _) (hcf.kind (by kernel_rfl) (by decide)) (by kernel_rfl)
        (fun B₂ O₂ s₂ acc g₂ I₂ => Ev.name (I₂.var (by walk_at "lk"))) (natsD_len _) (fun k hk => ?_)
      rw [natsD_getD hk]
      have h20 := hKw _ (hmem hi) _ (hmem hj) _ (hmem hk)
      have hval : ((as.getD i 0 : Nat) : Int) + ((bs.getD j 0 : Nat) : Int) + ((cs.getD k 0 : Nat) : Int) + 1 = ((as.getD i 0 + bs.getD j 0 + cs.getD k 0 + 1 : Nat) : Int) := by omega
      generalize as.getD i 0 = vx at *
      generalize bs.getD j 0 = vy at *
      generalize cs.getD k 0 = vz at *
      exact ad_emit (b := true) (d := D.int ((worthsL.getD (vx + vy + vz + 1) 0 : Nat) : Int)) fun B₂ O₂ s₂ acc g₂ I₂ => ⟨TestsTo.nil, fun _ => Ev.sub (Ev.name (I₂.var (by walk_at "lk"))) (Ev.bin (Ev.bin (Ev.bin (Ev.name (I₂.var (by walk_at "lk"))) (Ev.name (I₂.var (by walk_at "lk"))) I₂.liveAll op_addI) (Ev.name (I₂.var (by walk_at "lk"))) I₂.liveAll op_addI) Ev.int I₂.liveAll op_addI) I₂.liveAll
        (op_itemL (by omega) (by omega) (natsD_get (n := vx + vy + vz + 1) hval (worthsL_get h20)))⟩
    case rest13 =>
    intro s₁₃ I₁₃
    have hdl := writS_len (wholeN as bs cs) 20
    rw [show (writS (wholeN as bs cs) 20).2 = writN (wholeN as bs cs) from rfl] at hdl
    have hd20 : ∀ k, (writN (wholeN as bs cs)).getD k 0 ≤ 20 := hgle (writN_le _)
    have cW : ∀ {A' : Around} {O' : List Addr} {s' : Shared}, Top2 mg s'.heap → Rm 4 A' → Live O' s'.heap → Fn P2 10 s'.heap qw → CallTo prog w A' O' s' (.ref qw) [.int ((wholeN as bs cs : Nat) : Int)] (.list (natsD (writN (wholeN as bs cs)))) := fun X' r l f => written_ok X' r l f
    generalize writN (wholeN as bs cs) = due at *
    generalize wholeN as bs cs = whole at *
    refine x_assign I₁₃ (d := .list ((sortF ((lsOf B due).map rowS)).map D.str)) ?e13 ?n13 (bL (by kernel_rfl)) (swaps_no rfl)
    case e13 =>
      refine Ev.callB (ds := [.list (((lsOf B due).map rowS).map D.str)]) (bt2 fo rfl X (up I₁₃) "sorted" (by decide) (by kernel_rfl) (by kernel_rfl) (by kernel_rfl) (by decide +kernel)) (Evs.cons' ?f13 Evs.nil) (call_sorted_S I₁₃.liveAll (by rw [List.length_map]; show (due.map _).length < 64; rw [List.length_map]; omega))
      refine Ev.cast (d := .list (rowsD B due)) ?g13 (congrArg D.list (rowsD_strs B due))
      exact (ev_comp I₁₃ rfl fun s₂ g₂ I₂ => run_map (res := rowsD B due) rm'.hh I₂ (d := .list (natsD due)) (Ev.callFn (ds := [D.int (whole : Int)]) (EvV.glob (X.keeps (up I₂).heap).G hqw (by rw [fo.sc]; rfl) (fo.kind (by kernel_rfl)) fo.gl) (Evs.cons' (Ev.name (I₂.var (by walk_at "lk"))) Evs.nil) (FnAt.keeps hfw (up I₂).heap) (cW (X.keeps (up I₂).heap) (rm'.le (by decide)) I₂.liveAll (FnAt.keeps hfw (up I₂).heap))) (IterD.list _) (by rw [natsD_len, rowsD_len]) (by rw [rowsD_len]; omega) (σc := [("rest", .dat (.str (S (B ++ [10]))))])
      (fun k hk cenv B₂ O₂ s₀' s' D₀ acc hcf gg I' => by
        rw [natsD_len] at hk
        rw [natsD_getD hk] at I'
        rw [rowsD_getD hk, ← row_at]
        have hle := hd20 k
        exact Ev.bin (Ev.bin (Ev.strS (l := [46])) (Ev.name (I'.var (by walk_at "lk"))) I'.liveAll (op_mulSS (mulOk_small (by omega)))) (Ev.name (I'.var (by walk_at "lk"))) I'.liveAll (op_addSS (by rw [List.length_replicate, List.length_append]; simp only [List.length_cons, List.length_nil]; omega)))
      ⟨⟨by walk_at "lk", fo.kind (by kernel_rfl), by kernel_rfl, fo.cell (by kernel_rfl)⟩, trivial⟩ (freeIn ["rest"] (by decide +kernel) (fun m hm => by rw [List.mem_singleton.mp hm]; exact fo.cell (by kernel_rfl))) (by decide +kernel) rfl (by decide +kernel) (by kernel_rfl))
    intro s₁₄ I₁₄
    have hl2 := hp2.length_eq
    have hl4 := hp4.length_eq
    have hs : ∀ {l : List Nat}, l.Perm due → sortF ((lsOf B l).map rowS) = sortF ((lsOf B due).map rowS) := fun h => sortF_perm ((h.map _).map _)
    have hll : ∀ {l : List Nat}, ((lsOf B l).map rowS).length = l.length := fun {l} => by
      rw [List.length_map]; exact List.length_map ..
    have hun : (fxOf prog w A O s₀ env).A.units + 20 * 11 < cLine := rm'.un
    have srt : ∀ {A' : Around} {p : Pos}, EvV prog w A' env s₁₄ (.Name "sorted" p) (.builtin "sorted") := bt2 fo rfl X (up I₁₄) "sorted" (by decide) (by kernel_rfl) (by kernel_rfl) (by kernel_rfl) (by decide +kernel)
    refine x_return (Ev.cast (d := .bool (true && true)) (Ev.and2
      (Ev.cmp ((Ev.callB srt (Evs.cons' ((Ev.name (I₁₄.varOld (by walk_at "lk"))).cast (congrArg D.list (rowsD_strs B one))) Evs.nil) (call_sorted_S I₁₄.live (by rw [hll]; omega))).cast (congrArg (fun l => D.list (l.map D.str)) (hs hp2))) (Ev.name (I₁₄.varOld (by walk_at "lk"))) I₁₄.live (op_eqSame (n := 0) (dep_strs _) (by omega)))
      (Ev.cmp ((Ev.callB srt (Evs.cons' ((Ev.name (I₁₄.varOld (by walk_at "lk"))).cast (congrArg D.list (rowsD_strs B two))) Evs.nil) (call_sorted_S I₁₄.live (by rw [hll]; omega))).cast (congrArg (fun l => D.list (l.map D.str)) (hs hp4))) (Ev.name (I₁₄.varOld (by walk_at "lk"))) I₁₄.live (op_eqSame (n := 0) (dep_strs _) (by omega)))) rfl) fun v s' g' r => ⟨(I₁₄.grow fun _ _ h => h).trans g', r⟩
end
end Mine

namespace Mine
open PySem

theorem lb_000 : lawB (writN (asL.getD 0 0)) (writN (bsL.getD 0 0)) (writN (csL.getD 0 0)) = true := by decide +kernel
theorem lb_001 : lawB (writN (asL.getD 0 0)) (writN (bsL.getD 0 0)) (writN (csL.getD 1 0)) = true := by decide +kernel
theorem lb_002 : lawB (writN (asL.getD 0 0)) (writN (bsL.getD 0 0)) (writN (csL.getD 2 0)) = true := by decide +kernel
theorem lb_003 : lawB (writN (asL.getD 0 0)) (writN (bsL.getD 0 0)) (writN (csL.getD 3 0)) = true := by decide +kernel
theorem lb_004 : lawB (writN (asL.getD 0 0)) (writN (bsL.getD 0 0)) (writN (csL.getD 4 0)) = true := by decide +kernel
theorem lb_010 : lawB (writN (asL.getD 0 0)) (writN (bsL.getD 1 0)) (writN (csL.getD 0 0)) = true := by decide +kernel
theorem lb_011 : lawB (writN (asL.getD 0 0)) (writN (bsL.getD 1 0)) (writN (csL.getD 1 0)) = true := by decide +kernel
theorem lb_012 : lawB (writN (asL.getD 0 0)) (writN (bsL.getD 1 0)) (writN (csL.getD 2 0)) = true := by decide +kernel
theorem lb_013 : lawB (writN (asL.getD 0 0)) (writN (bsL.getD 1 0)) (writN (csL.getD 3 0)) = true := by decide +kernel
theorem lb_014 : lawB (writN (asL.getD 0 0)) (writN (bsL.getD 1 0)) (writN (csL.getD 4 0)) = true := by decide +kernel
theorem lb_020 : lawB (writN (asL.getD 0 0)) (writN (bsL.getD 2 0)) (writN (csL.getD 0 0)) = true := by decide +kernel
theorem lb_021 : lawB (writN (asL.getD 0 0)) (writN (bsL.getD 2 0)) (writN (csL.getD 1 0)) = true := by decide +kernel
theorem lb_022 : lawB (writN (asL.getD 0 0)) (writN (bsL.getD 2 0)) (writN (csL.getD 2 0)) = true := by decide +kernel
theorem lb_023 : lawB (writN (asL.getD 0 0)) (writN (bsL.getD 2 0)) (writN (csL.getD 3 0)) = true := by decide +kernel
theorem lb_024 : lawB (writN (asL.getD 0 0)) (writN (bsL.getD 2 0)) (writN (csL.getD 4 0)) = true := by decide +kernel
theorem lb_100 : lawB (writN (asL.getD 1 0)) (writN (bsL.getD 0 0)) (writN (csL.getD 0 0)) = true := by decide +kernel
theorem lb_101 : lawB (writN (asL.getD 1 0)) (writN (bsL.getD 0 0)) (writN (csL.getD 1 0)) = true := by decide +kernel
theorem lb_102 : lawB (writN (asL.getD 1 0)) (writN (bsL.getD 0 0)) (writN (csL.getD 2 0)) = true := by decide +kernel
theorem lb_103 : lawB (writN (asL.getD 1 0)) (writN (bsL.getD 0 0)) (writN (csL.getD 3 0)) = true := by decide +kernel
theorem lb_104 : lawB (writN (asL.getD 1 0)) (writN (bsL.getD 0 0)) (writN (csL.getD 4 0)) = true := by decide +kernel
theorem lb_110 : lawB (writN (asL.getD 1 0)) (writN (bsL.getD 1 0)) (writN (csL.getD 0 0)) = true := by decide +kernel
theorem lb_111 : lawB (writN (asL.getD 1 0)) (writN (bsL.getD 1 0)) (writN (csL.getD 1 0)) = true := by decide +kernel
theorem lb_112 : lawB (writN (asL.getD 1 0)) (writN (bsL.getD 1 0)) (writN (csL.getD 2 0)) = true := by decide +kernel
theorem lb_113 : lawB (writN (asL.getD 1 0)) (writN (bsL.getD 1 0)) (writN (csL.getD 3 0)) = true := by decide +kernel
theorem lb_114 : lawB (writN (asL.getD 1 0)) (writN (bsL.getD 1 0)) (writN (csL.getD 4 0)) = true := by decide +kernel
theorem lb_120 : lawB (writN (asL.getD 1 0)) (writN (bsL.getD 2 0)) (writN (csL.getD 0 0)) = true := by decide +kernel
theorem lb_121 : lawB (writN (asL.getD 1 0)) (writN (bsL.getD 2 0)) (writN (csL.getD 1 0)) = true := by decide +kernel
theorem lb_122 : lawB (writN (asL.getD 1 0)) (writN (bsL.getD 2 0)) (writN (csL.getD 2 0)) = true := by decide +kernel
theorem lb_123 : lawB (writN (asL.getD 1 0)) (writN (bsL.getD 2 0)) (writN (csL.getD 3 0)) = true := by decide +kernel
theorem lb_124 : lawB (writN (asL.getD 1 0)) (writN (bsL.getD 2 0)) (writN (csL.getD 4 0)) = true := by decide +kernel
theorem lb_200 : lawB (writN (asL.getD 2 0)) (writN (bsL.getD 0 0)) (writN (csL.getD 0 0)) = true := by decide +kernel
theorem lb_201 : lawB (writN (asL.getD 2 0)) (writN (bsL.getD 0 0)) (writN (csL.getD 1 0)) = true := by decide +kernel
theorem lb_202 : lawB (writN (asL.getD 2 0)) (writN (bsL.getD 0 0)) (writN (csL.getD 2 0)) = true := by decide +kernel
theorem lb_203 : lawB (writN (asL.getD 2 0)) (writN (bsL.getD 0 0)) (writN (csL.getD 3 0)) = true := by decide +kernel
theorem lb_204 : lawB (writN (asL.getD 2 0)) (writN (bsL.getD 0 0)) (writN (csL.getD 4 0)) = true := by decide +kernel
theorem lb_210 : lawB (writN (asL.getD 2 0)) (writN (bsL.getD 1 0)) (writN (csL.getD 0 0)) = true := by decide +kernel
theorem lb_211 : lawB (writN (asL.getD 2 0)) (writN (bsL.getD 1 0)) (writN (csL.getD 1 0)) = true := by decide +kernel
theorem lb_212 : lawB (writN (asL.getD 2 0)) (writN (bsL.getD 1 0)) (writN (csL.getD 2 0)) = true := by decide +kernel
theorem lb_213 : lawB (writN (asL.getD 2 0)) (writN (bsL.getD 1 0)) (writN (csL.getD 3 0)) = true := by decide +kernel
theorem lb_214 : lawB (writN (asL.getD 2 0)) (writN (bsL.getD 1 0)) (writN (csL.getD 4 0)) = true := by decide +kernel
theorem lb_220 : lawB (writN (asL.getD 2 0)) (writN (bsL.getD 2 0)) (writN (csL.getD 0 0)) = true := by decide +kernel
theorem lb_221 : lawB (writN (asL.getD 2 0)) (writN (bsL.getD 2 0)) (writN (csL.getD 1 0)) = true := by decide +kernel
theorem lb_222 : lawB (writN (asL.getD 2 0)) (writN (bsL.getD 2 0)) (writN (csL.getD 2 0)) = true := by decide +kernel
theorem lb_223 : lawB (writN (asL.getD 2 0)) (writN (bsL.getD 2 0)) (writN (csL.getD 3 0)) = true := by decide +kernel
theorem lb_224 : lawB (writN (asL.getD 2 0)) (writN (bsL.getD 2 0)) (writN (csL.getD 4 0)) = true := by decide +kernel
theorem lawB_all {i j k : Nat} (hi : i < 3) (hj : j < 3) (hk : k < 5) : lawB (writN (asL.getD i 0)) (writN (bsL.getD j 0)) (writN (csL.getD k 0)) = true :=
  match i, j, k, hi, hj, hk with
  | 0, 0, 0, _, _, _ => lb_000
  | 0, 0, 1, _, _, _ => lb_001
  | 0, 0, 2, _, _, _ => lb_002
  | 0, 0, 3, _, _, _ => lb_003
  | 0, 0, 4, _, _, _ => lb_004
  | 0, 1, 0, _, _, _ => lb_010
  | 0, 1, 1, _, _, _ => lb_011
  | 0, 1, 2, _, _, _ => lb_012
  | 0, 1, 3, _, _, _ => lb_013
  | 0, 1, 4, _, _, _ => lb_014
  | 0, 2, 0, _, _, _ => lb_020
  | 0, 2, 1, _, _, _ => lb_021
  | 0, 2, 2, _, _, _ => lb_022
  | 0, 2, 3, _, _, _ => lb_023
  | 0, 2, 4, _, _, _ => lb_024
  | 1, 0, 0, _, _, _ => lb_100
  | 1, 0, 1, _, _, _ => lb_101
  | 1, 0, 2, _, _, _ => lb_102
  | 1, 0, 3, _, _, _ => lb_103
  | 1, 0, 4, _, _, _ => lb_104
  | 1, 1, 0, _, _, _ => lb_110
  | 1, 1, 1, _, _, _ => lb_111
  | 1, 1, 2, _, _, _ => lb_112
  | 1, 1, 3, _, _, _ => lb_113
  | 1, 1, 4, _, _, _ => lb_114
  | 1, 2, 0, _, _, _ => lb_120
  | 1, 2, 1, _, _, _ => lb_121
  | 1, 2, 2, _, _, _ => lb_122
  | 1, 2, 3, _, _, _ => lb_123
  | 1, 2, 4, _, _, _ => lb_124
  | 2, 0, 0, _, _, _ => lb_200
  | 2, 0, 1, _, _, _ => lb_201
  | 2, 0, 2, _, _, _ => lb_202
  | 2, 0, 3, _, _, _ => lb_203
  | 2, 0, 4, _, _, _ => lb_204
  | 2, 1, 0, _, _, _ => lb_210
  | 2, 1, 1, _, _, _ => lb_211
  | 2, 1, 2, _, _, _ => lb_212
  | 2, 1, 3, _, _, _ => lb_213
  | 2, 1, 4, _, _, _ => lb_214
  | 2, 2, 0, _, _, _ => lb_220
  | 2, 2, 1, _, _, _ => lb_221
  | 2, 2, 2, _, _, _ => lb_222
  | 2, 2, 3, _, _, _ => lb_223
  | 2, 2, 4, _, _, _ => lb_224
theorem lawOk_all {i j k : Nat} (hi : i < 3) (hj : j < 3) (hk : k < 5) (draw : Nat) : LawOk (writN (asL.getD i 0)) (writN (bsL.getD j 0)) (writN (csL.getD k 0)) draw := by
  have h := lawB_all hi hj hk
  unfold lawB at h
  rw [Bool.and_eq_true, Bool.and_eq_true] at h
  exact lawOk_of draw h.1.1 h.1.2 h.2
end Mine

namespace Mine
open PySem PySem.Calls PySem.Flt PyProof.Rows

def ix2 : List Nat := [3, 5, 6, 8, 9, 10, 11, 12, 13, 14, 15, 16]
theorem top2_of {p : Program} {loose : List Str} {mean : ExcName → Option Value} {mg mb : Str → Option Value} {h : Heap} (T : Top p loose mean mg mb h) (X : MathXP p mg h) (hrec : (recsOf p).map recT = ix2.map (defAt P2)) (hpat : dotRec "_twin_re_1" ∈ patsOf p) (hf : freeOk p loose freeNames2 = true) : Top2 mg h where
  G := glb_of_top T
  free := free_of_top T hf
  esc := fn_of_top T hrec (by decide) (by kernel_rfl)
  strip := fn_of_top T hrec (by decide) (by kernel_rfl)
  pat := let ⟨a, h1, h2⟩ := X.pats _ hpat; ⟨a, _, h1, h2⟩
  quote := fn_of_top T hrec (by decide) (by kernel_rfl)
  cells := fn_of_top T hrec (by decide) (by kernel_rfl)
  worths := fn_of_top T hrec (by decide) (by kernel_rfl)
  written := fn_of_top T hrec (by decide) (by kernel_rfl)
  dots := fn_of_top T hrec (by decide) (by kernel_rfl)
  rows := fn_of_top T hrec (by decide) (by kernel_rfl)
  grown := fn_of_top T hrec (by decide) (by kernel_rfl)
  times := fn_of_top T hrec (by decide) (by kernel_rfl)
  melted := fn_of_top T hrec (by decide) (by kernel_rfl)

theorem cells5 (ns : List Int) : ∃ a b c d e, cells2F ns = [a, b, c, d, e] := by
  have h := cells2At_len ns ns.length
  unfold cells2F
  match cells2At ns ns.length, h with
  | [a, b, c, d, e], _ => exact ⟨a, b, c, d, e, rfl⟩

theorem law2 {prog : Program} {w : World} {s₁ : Shared} {mg : Str → Option Value} {fa : Addr} {L : Addr} {vs : List Value} {ns : List Int} (X : Top2 mg s₁.heap) (hf : Fn P2 16 s₁.heap fa) (hL : s₁.heap.IsList L vs.toArray) (hI : IntsAre vs ns) (hcls : ∃ n, s₁.heap.get? L = some { cls := .type "list", data := .seq vs.toArray n })
    {Q : Value → Shared → Prop} {E : Value → Shared → Prop} (hQ : ∀ s', Gr s₁ s' → Q (.bool true) s') : wpAny (model prog w) callerA (call (.ref fa) [.ref L]) Q E s₁ := by
  obtain ⟨a, b, c, d, e, hc⟩ := cells5 ns
  obtain ⟨n, hn⟩ := hcls
  have lv : Live [] s₁.heap := fun a h => nomatch h
  have h1 := fmod_lt (a := a) (b := 3) (by decide)
  have h2 := fmod_lt (a := b) (b := 3) (by decide)
  have h3 := fmod_lt (a := c) (b := 5) (by decide)
  have := law2_ok (prog := prog) (w := w) X (rm_caller (by decide)) lv hf hc (lawOk_all (by omega) (by omega) (by omega) _) s₁ (.refl _) [.ref L] (.one (.list ⟨hn, fun h => nomatch h⟩ (ints_reps hI)))
  refine this.run fun v s' g r => ?_
  cases r
  exact hQ s' g
end Mine

open PySem PySem.W PyProof.Rows
set_option maxRecDepth 100000 in
set_option maxHeartbeats 8000000 in
theorem PySem.Challenge.cw_wo0002_02_holds : PySem.Challenge.rw_wo0002_02.Holds := by
  w_on; o_law; k_head; (case hw => w_witness2)
  w_strict (
    intro w s₀ s₁ mg mb G Y fa o pm cd doc dV kV ho hd hcd hD hmg hg args vals as hpre hlay hrd hwl hlo
    have X := (Ground.X G).1
    refine Ground.open G ?_
    intro T B D TE TW
    have X1 := Mine.top2_of T X (by kernel_rfl) (by first | exact List.mem_cons_self .. | decide +kernel) (by kernel_rfl)
    obtain ⟨a, ha, hfn⟩ := Mine.fn_of_top T (P := Mine.P2) (ix := Mine.ix2) (by kernel_rfl) (i := 16) (by decide) (x := "law") (by kernel_rfl)
    have hfa : a = fa := by
      have h2 : mg "law" = some (.ref fa) := hmg
      rw [h2] at ha
      cases ha; rfl
    subst hfa
    wrow_args hpre hlay hrd hwl hlo
    refine Mine.law2 X1 hfn (by assumption) (by assumption) (Mine.plain_of_well (by assumption) rfl (by assumption)) (fun s' g => Mine.good_true g hg (raisesW_false ?_) ?_)
    · wrow_none_raised
    · wrow_post)
