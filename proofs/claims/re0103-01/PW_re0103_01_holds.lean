import PyProof.Rows.All
import Wide.All
import OpenK.AllK
import Wide.FinOn
import PySem.Challenge.RW_re0103_01
set_option Elab.async false

-- H1
section
open PySem PySem.W PyProof.Rows
set_option maxRecDepth 100000
set_option maxHeartbeats 8000000
namespace Mine
open_top hd for PySem.Challenge.rw_re0103_01
end Mine
end

-- F1
section
open PySem PySem.W PyProof.Rows
namespace Mine

noncomputable abbrev Sub (h h' : Heap) : Prop := ∀ b o, h.get? b = some o → h'.get? b = some o
theorem Sub.refl (h : Heap) : Sub h h := fun _ _ e => e
theorem Sub.trans {a b c : Heap} (x : Sub a b) (y : Sub b c) : Sub a c := fun p o e => y p o (x p o e)

theorem Kp.refl (s : Shared) : Keeps s s := ⟨s.heap, s.toks, rfl, fun _ _ e => e⟩
theorem Kp.toks (s : Shared) (tk : Nat) : Keeps s { s with toks := tk } := ⟨s.heap, tk, rfl, fun _ _ e => e⟩
theorem Kp.sub {s s' : Shared} (k : Keeps s s') : Sub s.heap s'.heap := by obtain ⟨h, tk, rfl, q⟩ := k; exact q
theorem Kp.trans {a b c : Shared} (x : Keeps a b) (y : Keeps b c) : Keeps a c := by
  obtain ⟨h, tk, rfl, q⟩ := x
  obtain ⟨h', tk', rfl, q'⟩ := y
  exact ⟨h', tk', rfl, fun b o e => q' b o (q b o e)⟩
theorem Kp.heap {s : Shared} {h' : Heap} (tk : Nat) (q : Sub s.heap h') : Keeps s { s with heap := h', toks := tk } := ⟨h', tk, rfl, q⟩
theorem Kp.heap0 {s : Shared} {h' : Heap} (q : Sub s.heap h') : Keeps s { s with heap := h' } := ⟨h', s.toks, rfl, q⟩
theorem Sub.push (h : Heap) (o : Obj) : Sub h (h.push o) := fun _ _ e => Heap.get?_push_of_some _ e

inductive T where
  | none
  | bool (b : Bool)
  | int (i : Int)
  | str (s : Str)
  | list (l : List T)
  | tup (l : List T)

mutual
inductive Rep (X : List Addr) (h : Heap) : Value → T → Prop where
  | none : Rep X h .none .none
  | bool (b : Bool) : Rep X h (.bool b) (.bool b)
  | int (i : Int) (t : Tok) : Rep X h (.int i t) (.int i)
  | str (x : Str) (t : Tok) : Rep X h (.str x t) (.str x)
  | list {a : Addr} {vs : List Value} {ts : List T} : a ∉ X → h.PlainList a vs.toArray → Reps X h vs ts → Rep X h (.ref a) (.list ts)
  | tup {a : Addr} {vs : List Value} {ts : List T} : a ∉ X → IsTup h a vs.toArray → Reps X h vs ts → Rep X h (.ref a) (.tup ts)
inductive Reps (X : List Addr) (h : Heap) : List Value → List T → Prop where
  | nil : Reps X h [] []
  | cons {v : Value} {t : T} {vs : List Value} {ts : List T} : Rep X h v t → Reps X h vs ts → Reps X h (v :: vs) (t :: ts)
end

theorem isList_sub {h h' : Heap} {a : Addr} {its : Array Value} (x : h.IsList a its) (q : Sub h h') : h'.IsList a its := x.at fun o e => q a o e

mutual
theorem Rep.mono {X : List Addr} {h h' : Heap} {v : Value} {t : T} (q : Sub h h') : Rep X h v t → Rep X h' v t
  | .none => .none
  | .bool b => .bool b
  | .int i t => .int i t
  | .str x t => .str x t
  | .list n l r => .list n (l.at fun o e => q _ o e) (Reps.mono q r)
  | .tup n l r => .tup n (IsTup.keeps l q) (Reps.mono q r)
theorem Reps.mono {X : List Addr} {h h' : Heap} {vs : List Value} {ts : List T} (q : Sub h h') : Reps X h vs ts → Reps X h' vs ts
  | .nil => .nil
  | .cons a r => .cons (Rep.mono q a) (Reps.mono q r)
end
mutual
theorem Rep.weaken {X Y : List Addr} {h : Heap} {v : Value} {t : T} (q : ∀ a, a ∈ Y → a ∈ X ∨ h.get? a = none) : Rep X h v t → Rep Y h v t
  | .none => .none
  | .bool b => .bool b
  | .int i t => .int i t
  | .str x t => .str x t
  | .list n l r => .list (fun m => (q _ m).elim n (fun e => by obtain ⟨o, ho⟩ := l; rw [e] at ho; cases ho)) l (Reps.weaken q r)
  | .tup n l r => .tup (fun m => (q _ m).elim n (fun e => by obtain ⟨o, ho, _⟩ := l; rw [e] at ho; cases ho)) l (Reps.weaken q r)
theorem Reps.weaken {X Y : List Addr} {h : Heap} {vs : List Value} {ts : List T} (q : ∀ a, a ∈ Y → a ∈ X ∨ h.get? a = none) : Reps X h vs ts → Reps Y h vs ts
  | .nil => .nil
  | .cons a r => .cons (Rep.weaken q a) (Reps.weaken q r)
end
mutual
/-- what changes an object of X alone keeps the rest -/
theorem Rep.apart {X : List Addr} {h h' : Heap} {v : Value} {t : T} (q : ∀ b o, b ∉ X → h.get? b = some o → h'.get? b = some o) : Rep X h v t → Rep X h' v t
  | .none => .none
  | .bool b => .bool b
  | .int i t => .int i t
  | .str x t => .str x t
  | .list n l r => .list n (l.at fun o e => q _ o n e) (Reps.apart q r)
  | .tup n l r => .tup n (by obtain ⟨o, ho, x⟩ := l; exact ⟨o, q _ o n ho, x⟩) (Reps.apart q r)
theorem Reps.apart {X : List Addr} {h h' : Heap} {vs : List Value} {ts : List T} (q : ∀ b o, b ∉ X → h.get? b = some o → h'.get? b = some o) : Reps X h vs ts → Reps X h' vs ts
  | .nil => .nil
  | .cons a r => .cons (Rep.apart q a) (Reps.apart q r)
end

theorem Reps.length {X : List Addr} {h : Heap} : ∀ {vs : List Value} {ts : List T}, Reps X h vs ts → vs.length = ts.length
  | _, _, .nil => rfl
  | _, _, .cons _ r => by rw [List.length_cons, List.length_cons, Reps.length r]
theorem Reps.get {X : List Addr} {h : Heap} : ∀ {vs : List Value} {ts : List T}, Reps X h vs ts → ∀ {i : Nat} {t : T}, ts[i]? = some t → ∃ v, vs[i]? = some v ∧ Rep X h v t
  | _, _, .nil, i, t, e => by simp at e
  | _, _, .cons (v := v) a r, 0, t, e => ⟨v, rfl, by simp at e; subst e; exact a⟩
  | _, _, .cons a r, i + 1, t, e => by
    have := Reps.get r (i := i) (t := t) (by simpa using e)
    simpa using this
theorem Reps.append {X : List Addr} {h : Heap} : ∀ {vs ws : List Value} {ts us : List T}, Reps X h vs ts → Reps X h ws us → Reps X h (vs ++ ws) (ts ++ us)
  | _, _, _, _, .nil, r => r
  | _, _, _, _, .cons a r, q => .cons a (Reps.append r q)
theorem Reps.ints {X : List Addr} {h : Heap} : ∀ {vs : List Value} {ns : List Int}, Reps X h vs (ns.map T.int) → IntsAre vs ns
  | [], [], _ => .nil
  | _ :: _, [], r => by cases r
  | [], _ :: _, r => by cases r
  | v :: vs, n :: ns, r => by
    simp only [List.map_cons] at r
    cases r with
    | cons a r => cases a with | int i t => exact .cons _ _ (Reps.ints r)
theorem ints_reps {X : List Addr} {h : Heap} : ∀ {vs : List Value} {ns : List Int}, IntsAre vs ns → Reps X h vs (ns.map T.int)
  | _, _, .nil => .nil
  | _, _, .cons n t r => .cons (.int n t) (ints_reps r)

theorem rep_int {X : List Addr} {h : Heap} {v : Value} {i : Int} (r : Rep X h v (.int i)) : ∃ t, v = .int i t := by
  cases r; exact ⟨_, rfl⟩
theorem rep_str {X : List Addr} {h : Heap} {v : Value} {x : Str} (r : Rep X h v (.str x)) : ∃ t, v = .str x t := by
  cases r; exact ⟨_, rfl⟩
theorem rep_bool {X : List Addr} {h : Heap} {v : Value} {b : Bool} (r : Rep X h v (.bool b)) : v = .bool b := by
  cases r; rfl
theorem rep_none {X : List Addr} {h : Heap} {v : Value} (r : Rep X h v .none) : v = .none := by
  cases r; rfl
inductive RepL (X : List Addr) (h : Heap) (v : Value) (ts : List T) : Prop
  | mk (a : Addr) (vs : List Value) (e : v = .ref a) (n : a ∉ X) (il : h.PlainList a vs.toArray) (r : Reps X h vs ts)
theorem rep_list {X : List Addr} {h : Heap} {v : Value} {ts : List T} (r : Rep X h v (.list ts)) : RepL X h v ts := by
  cases r with | list n il r => exact ⟨_, _, rfl, n, il, r⟩
inductive RepU (X : List Addr) (h : Heap) (v : Value) (ts : List T) : Prop
  | mk (a : Addr) (vs : List Value) (e : v = .ref a) (n : a ∉ X) (il : IsTup h a vs.toArray) (r : Reps X h vs ts)
theorem rep_tup {X : List Addr} {h : Heap} {v : Value} {ts : List T} (r : Rep X h v (.tup ts)) : RepU X h v ts := by
  cases r with | tup n il r => exact ⟨_, _, rfl, n, il, r⟩
noncomputable abbrev Live (X : List Addr) (h : Heap) : Prop := ∀ a ∈ X, ∃ o, h.get? a = some o
theorem Live.mono {X : List Addr} {h h' : Heap} (x : Live X h) (q : Sub h h') : Live X h' := fun a ha => let ⟨o, e⟩ := x a ha; ⟨o, q a o e⟩
theorem Live.fresh {X : List Addr} {h : Heap} (x : Live X h) : h.objs.size ∉ X := fun m => by
  obtain ⟨o, e⟩ := x _ m
  exact absurd (Heap.lt_size e) (Nat.lt_irrefl _)

section
variable {prog : Program} {w : World} {A : Around} {env : Env} {X : List Addr} {h : Heap}

/-- e's value is the tree t, in every heap that extends h; all that stood is kept -/
noncomputable def Ev (prog : Program) (w : World) (A : Around) (env : Env) (X : List Addr) (h : Heap) (e : Expr) (t : T) : Prop :=
  ∀ (s : Shared) (E : Value → Shared → Prop), Sub h s.heap → Live X s.heap → wpAny (model prog w) A (eval e env) (fun v s' => Rep X s'.heap v t ∧ Keeps s s') E s

/-- the same for a test -/
noncomputable def Tr (prog : Program) (w : World) (A : Around) (env : Env) (X : List Addr) (h : Heap) (e : Expr) (b : Bool) : Prop :=
  ∀ (s : Shared) (E : Value → Shared → Prop), Sub h s.heap → Live X s.heap → wpAny (model prog w) A (isTrue e env (eval e env)) (fun r s' => r = b ∧ Keeps s s') E s

theorem Ev.mono {h' : Heap} {e : Expr} {t : T} (x : Ev prog w A env X h e t) (q : Sub h h') : Ev prog w A env X h' e t := fun s E a b => x s E (q.trans a) b

theorem Ev.int {i : Int} {k : Nat} {pos : Pos} : Ev prog w A env X h (.Constant (.int i) k pos) (.int i) :=
  fun s _ _ _ => wpAny_Constant_int ⟨.int _ _, Kp.toks s _⟩
theorem Ev.str {i : Str} {k : Nat} {pos : Pos} : Ev prog w A env X h (.Constant (.str i) k pos) (.str i) :=
  fun s _ _ _ => wpAny_Constant_str ⟨.str _ _, Kp.toks s _⟩
theorem Ev.none {k : Nat} {pos : Pos} : Ev prog w A env X h (.Constant .none k pos) .none :=
  fun s _ _ _ => wpAny_Constant_none ⟨.none, Kp.refl s⟩

/-- a name whose value is v in every heap that extends h -/
noncomputable def Loads (env : Env) (h : Heap) (x : Str) (v : Value) : Prop :=
  ∀ (M : Model) (A : Around) (s : Shared) (pos : Pos) (Q : Value → Shared → Prop) (E : Value → Shared → Prop), Sub h s.heap → Q v s → wpAny M A (eval (.Name x pos) env) Q E s
theorem Loads.mono {h' : Heap} {x : Str} {v : Value} (l : Loads env h x v) (q : Sub h h') : Loads env h' x v := fun M A s pos Q E a b => l M A s pos Q E (q.trans a) b
theorem Ev.name {x : Str} {v : Value} {t : T} {pos : Pos} (l : Loads env h x v) (r : Rep X h v t) : Ev prog w A env X h (.Name x pos) t :=
  fun s E q _ => l _ _ _ _ _ _ q ⟨r.mono q, Kp.refl s⟩

theorem loads_local {x : Str} {m : Str → Option Value} {v : Value} (n : h.Ns env.locals m) (e : m x = some v) (hk : env.scope.kind = .function) (hl : env.kindOf x = some .local)
    (hd : (x == ("__debug__" : Str)) = false) : Loads env h x v :=
  fun _ _ _ _ _ _ q k => wpAny_Name (wpAny_loadName_local hk hl (n.keeps q) e k) hd
theorem loads_cell {x : Str} {c : Addr} {v : Value} (hc : env.cells.lookup x = some c) (e : h.IsCell c (some v)) (hk : env.scope.kind = .function) (hl : env.kindOf x = some .cell)
    (hd : (x == ("__debug__" : Str)) = false) : Loads env h x v :=
  fun _ _ _ _ _ _ q k => wpAny_Name (wpAny_loadName_cell hk hl hc (e.keeps q) k) hd
theorem loads_free {x : Str} {c : Addr} {v : Value} (hc : env.cells.lookup x = some c) (e : h.IsCell c (some v)) (hk : env.scope.kind = .function) (hl : env.kindOf x = some .free)
    (hd : (x == ("__debug__" : Str)) = false) (hn : (x == ("__classdict__" : Str)) = false) : Loads env h x v :=
  fun _ _ _ _ _ _ q k => wpAny_Name (wpAny_loadName_free hk hl hc (e.keeps q) k hn) hd

/-- two operands -/
theorem Ev.bin {l r : Expr} {op : Operator} {pos : Pos} {a b t : T} (ha : Ev prog w A env X h l a) (hb : Ev prog w A env X h r b)
    (hop : ∀ (s : Shared) (E : Value → Shared → Prop) (u v : Value), Sub h s.heap → Live X s.heap → Rep X s.heap u a → Rep X s.heap v b → wpAny (model prog w) A (binaryOp op u v) (fun v s' => Rep X s'.heap v t ∧ Keeps s s') E s) :
    Ev prog w A env X h (.BinOp l op r pos) t := fun s E q lv => by
  refine wpAny_BinOp (wpAny_mono (ha s E q lv) (fun u s₁ h₁ => wpAny_mono (hb s₁ E (q.trans (Kp.sub h₁.2)) (lv.mono (Kp.sub h₁.2))) (fun v s₂ h₂ => ?_) fun _ _ e => e) fun _ _ e => e)
  refine wpAny_mono (hop s₂ E u v ((q.trans (Kp.sub h₁.2)).trans (Kp.sub h₂.2)) ((lv.mono (Kp.sub h₁.2)).mono (Kp.sub h₂.2)) (h₁.1.mono (Kp.sub h₂.2)) h₂.1) (fun z s₃ h₃ => ⟨h₃.1, ?_⟩) fun _ _ e => e
  exact Kp.trans h₁.2 (Kp.trans h₂.2 h₃.2)
end
end Mine
end

-- F2
section
open PySem PySem.W PyProof.Rows
set_option linter.unusedVariables false
namespace Mine
section
variable {prog : Program} {w : World} {A : Around} {env : Env} {X : List Addr} {h : Heap}

theorem Ev.add {l r : Expr} {pos : Pos} {a b : Int} (ha : Ev prog w A env X h l (.int a)) (hb : Ev prog w A env X h r (.int b)) : Ev prog w A env X h (.BinOp l .Add r pos) (.int (a + b)) :=
  Ev.bin ha hb fun s E u v _ _ ru rv => by obtain ⟨_, rfl⟩ := rep_int ru; obtain ⟨_, rfl⟩ := rep_int rv; exact PyProof.Rows.add_int ⟨.int _ _, Kp.toks s _⟩
theorem Ev.sub {l r : Expr} {pos : Pos} {a b : Int} (ha : Ev prog w A env X h l (.int a)) (hb : Ev prog w A env X h r (.int b)) : Ev prog w A env X h (.BinOp l .Sub r pos) (.int (a - b)) :=
  Ev.bin ha hb fun s E u v _ _ ru rv => by obtain ⟨_, rfl⟩ := rep_int ru; obtain ⟨_, rfl⟩ := rep_int rv; exact PyProof.Rows.sub_int ⟨.int _ _, Kp.toks s _⟩
theorem Ev.mul {l r : Expr} {pos : Pos} {a b : Int} (ha : Ev prog w A env X h l (.int a)) (hb : Ev prog w A env X h r (.int b)) (hm : IntMulOk a b) : Ev prog w A env X h (.BinOp l .Mult r pos) (.int (a * b)) :=
  Ev.bin ha hb fun s E u v _ _ ru rv => by obtain ⟨_, rfl⟩ := rep_int ru; obtain ⟨_, rfl⟩ := rep_int rv; exact PyProof.Rows.mul_int ⟨.int _ _, Kp.toks s _⟩ hm
theorem Ev.fdiv {l r : Expr} {pos : Pos} {a b : Int} (ha : Ev prog w A env X h l (.int a)) (hb : Ev prog w A env X h r (.int b)) (h0 : 0 < b) (h1 : b < 1073741824) : Ev prog w A env X h (.BinOp l .FloorDiv r pos) (.int (a / b)) :=
  Ev.bin ha hb fun s E u v _ _ ru rv => by
    obtain ⟨_, rfl⟩ := rep_int ru; obtain ⟨_, rfl⟩ := rep_int rv
    refine PyProof.Rows.floordiv_int (by lia) ?_ (Or.inl (PyProof.noPylong_small (by lia)))
    rw [Int.fdiv_eq_ediv_of_nonneg _ (by lia)]
    exact ⟨.int _ _, Kp.toks s _⟩
theorem Ev.mod {l r : Expr} {pos : Pos} {a b : Int} (ha : Ev prog w A env X h l (.int a)) (hb : Ev prog w A env X h r (.int b)) (h0 : 0 < b) : Ev prog w A env X h (.BinOp l .Mod r pos) (.int (a % b)) :=
  Ev.bin ha hb fun s E u v _ _ ru rv => by
    obtain ⟨_, rfl⟩ := rep_int ru; obtain ⟨_, rfl⟩ := rep_int rv
    refine PyProof.Rows.mod_int (by lia) ?_
    rw [Int.fmod_eq_emod_of_nonneg _ (by lia)]
    exact ⟨.int _ _, Kp.toks s _⟩
theorem Ev.pow {l r : Expr} {pos : Pos} {b : Int} (ha : Ev prog w A env X h l (.int 2)) (hb : Ev prog w A env X h r (.int b)) (h0 : 0 ≤ b) (h1 : b < 1000) : Ev prog w A env X h (.BinOp l .Pow r pos) (.int (2 ^ b.toNat)) :=
  Ev.bin ha hb fun s E u v _ _ ru rv => by
    obtain ⟨_, rfl⟩ := rep_int ru; obtain ⟨_, rfl⟩ := rep_int rv
    have e2 : (Builtin.Int.intBits 2 : Int) = 2 := by decide +kernel
    have e3 : (Builtin.Int.intBits 2 : Int) * b ≤ 2 ^ 27 := by rw [e2]; lia
    exact PyProof.Rows.pow_int h0 e3 ⟨.int _ _, Kp.toks s _⟩
theorem Ev.shr {l r : Expr} {pos : Pos} {a b : Int} (ha : Ev prog w A env X h l (.int a)) (hb : Ev prog w A env X h r (.int b)) (h0 : 0 ≤ b) : Ev prog w A env X h (.BinOp l .RShift r pos) (.int (a / 2 ^ b.toNat)) :=
  Ev.bin ha hb fun s E u v _ _ ru rv => by
    obtain ⟨_, rfl⟩ := rep_int ru; obtain ⟨_, rfl⟩ := rep_int rv
    refine PyProof.Rows.rshift_int h0 ?_
    rw [Int.fdiv_eq_ediv_of_nonneg _ (by exact Int.le_of_lt (Int.pow_pos (by lia)))]
    exact ⟨.int _ _, Kp.toks s _⟩
theorem Ev.shl {l r : Expr} {pos : Pos} {a b : Int} (ha : Ev prog w A env X h l (.int a)) (hb : Ev prog w A env X h r (.int b)) (h0 : 0 ≤ b) (h1 : b ≤ 1000000) (h2 : a.natAbs < 2 ^ 64) : Ev prog w A env X h (.BinOp l .LShift r pos) (.int (a * 2 ^ b.toNat)) :=
  Ev.bin ha hb fun s E u v _ _ ru rv => by
    obtain ⟨_, rfl⟩ := rep_int ru; obtain ⟨_, rfl⟩ := rep_int rv
    exact PyProof.Rows.lshift_int_small h0 h1 h2 ⟨.int _ _, Kp.toks s _⟩
theorem Ev.xor {l r : Expr} {pos : Pos} {a b : Int} (ha : Ev prog w A env X h l (.int a)) (hb : Ev prog w A env X h r (.int b)) : Ev prog w A env X h (.BinOp l .BitXor r pos) (.int (Builtin.bitXor a b)) :=
  Ev.bin ha hb fun s E u v _ _ ru rv => by obtain ⟨_, rfl⟩ := rep_int ru; obtain ⟨_, rfl⟩ := rep_int rv; exact PyProof.Rows.xor_int ⟨.int _ _, Kp.toks s _⟩
theorem Ev.cat {l r : Expr} {pos : Pos} {a b : Str} (ha : Ev prog w A env X h l (.str a)) (hb : Ev prog w A env X h r (.str b)) (hs : a.length + b.length ≤ 1000) : Ev prog w A env X h (.BinOp l .Add r pos) (.str (a ++ b)) :=
  Ev.bin ha hb fun s E u v _ _ ru rv => by
    obtain ⟨_, rfl⟩ := rep_str ru; obtain ⟨_, rfl⟩ := rep_str rv
    exact PyProof.Rows.add_str (fun t tk => ⟨.str _ _, Kp.toks s _⟩) (Nat.le_trans hs (by decide))

/-- a comparison of two -/
theorem Ev.cmp {l r : Expr} {op : CmpOp} {pos : Pos} {a b : T} {c : Bool} (ha : Ev prog w A env X h l a) (hb : Ev prog w A env X h r b) (hm : behindInMarks op r = false)
    (hop : ∀ (s : Shared) (E : Value → Shared → Prop) (u v : Value), Sub h s.heap → Live X s.heap → Rep X s.heap u a → Rep X s.heap v b → wpAny (model prog w) A (compareOp op u v) (fun v s' => v = .bool c ∧ Keeps s s') E s) :
    Ev prog w A env X h (.Compare l [op] [r] pos) (.bool c) := fun s E q lv => by
  refine wpAny_Compare1 (wpAny_mono (ha s E q lv) (fun u s₁ h₁ => wpAny_mono (hb s₁ E (q.trans (Kp.sub h₁.2)) (lv.mono (Kp.sub h₁.2))) (fun v s₂ h₂ => ?_) fun _ _ e => e) fun _ _ e => e) hm
  refine wpAny_mono (hop s₂ E u v ((q.trans (Kp.sub h₁.2)).trans (Kp.sub h₂.2)) ((lv.mono (Kp.sub h₁.2)).mono (Kp.sub h₂.2)) (h₁.1.mono (Kp.sub h₂.2)) h₂.1) (fun z s₃ h₃ => ⟨?_, ?_⟩) fun _ _ e => e
  · rw [h₃.1]; exact .bool _
  · exact Kp.trans h₁.2 (Kp.trans h₂.2 h₃.2)
theorem Tr.cmp {l r : Expr} {op : CmpOp} {pos : Pos} {a b : T} {c : Bool} (ha : Ev prog w A env X h l a) (hb : Ev prog w A env X h r b) (hm : behindInMarks op r = false)
    (hop : ∀ (s : Shared) (E : Value → Shared → Prop) (u v : Value), Sub h s.heap → Live X s.heap → Rep X s.heap u a → Rep X s.heap v b → wpAny (model prog w) A (compareOp op u v) (fun v s' => v = .bool c ∧ Keeps s s') E s) :
    Tr prog w A env X h (.Compare l [op] [r] pos) c := fun s E q lv => by
  refine wpAny_isTrue_Compare1 (wpAny_mono (ha s E q lv) (fun u s₁ h₁ => wpAny_mono (hb s₁ E (q.trans (Kp.sub h₁.2)) (lv.mono (Kp.sub h₁.2))) (fun v s₂ h₂ => ?_) fun _ _ e => e) fun _ _ e => e) hm
  refine wpAny_mono (hop s₂ E u v ((q.trans (Kp.sub h₁.2)).trans (Kp.sub h₂.2)) ((lv.mono (Kp.sub h₁.2)).mono (Kp.sub h₂.2)) (h₁.1.mono (Kp.sub h₂.2)) h₂.1) (fun z s₃ h₃ => ?_) fun _ _ e => e
  rw [h₃.1]
  exact wpAny_truthy_bool ⟨rfl, Kp.trans h₁.2 (Kp.trans h₂.2 h₃.2)⟩
theorem op_eq {a b : Int} (s : Shared) (E : Value → Shared → Prop) (u v : Value) (_ : Sub h s.heap) (_ : Live X s.heap) (ru : Rep X s.heap u (.int a)) (rv : Rep X s.heap v (.int b)) :
    wpAny (model prog w) A (compareOp .Eq u v) (fun v s' => v = .bool (a == b) ∧ Keeps s s') E s := by obtain ⟨_, rfl⟩ := rep_int ru; obtain ⟨_, rfl⟩ := rep_int rv; exact PyProof.Rows.eq_int ⟨rfl, Kp.refl s⟩
theorem op_ne {a b : Int} (s : Shared) (E : Value → Shared → Prop) (u v : Value) (_ : Sub h s.heap) (_ : Live X s.heap) (ru : Rep X s.heap u (.int a)) (rv : Rep X s.heap v (.int b)) :
    wpAny (model prog w) A (compareOp .NotEq u v) (fun v s' => v = .bool (a != b) ∧ Keeps s s') E s := by obtain ⟨_, rfl⟩ := rep_int ru; obtain ⟨_, rfl⟩ := rep_int rv; exact PyProof.Rows.ne_int ⟨rfl, Kp.refl s⟩
theorem op_lt {a b : Int} (s : Shared) (E : Value → Shared → Prop) (u v : Value) (_ : Sub h s.heap) (_ : Live X s.heap) (ru : Rep X s.heap u (.int a)) (rv : Rep X s.heap v (.int b)) :
    wpAny (model prog w) A (compareOp .Lt u v) (fun v s' => v = .bool (decide (a < b)) ∧ Keeps s s') E s := by obtain ⟨_, rfl⟩ := rep_int ru; obtain ⟨_, rfl⟩ := rep_int rv; exact PyProof.Rows.lt_int ⟨rfl, Kp.refl s⟩
theorem op_gt {a b : Int} (s : Shared) (E : Value → Shared → Prop) (u v : Value) (_ : Sub h s.heap) (_ : Live X s.heap) (ru : Rep X s.heap u (.int a)) (rv : Rep X s.heap v (.int b)) :
    wpAny (model prog w) A (compareOp .Gt u v) (fun v s' => v = .bool (decide (b < a)) ∧ Keeps s s') E s := by obtain ⟨_, rfl⟩ := rep_int ru; obtain ⟨_, rfl⟩ := rep_int rv; exact PyProof.Rows.gt_int ⟨rfl, Kp.refl s⟩
theorem op_eqS {a b : Str} (s : Shared) (E : Value → Shared → Prop) (u v : Value) (_ : Sub h s.heap) (_ : Live X s.heap) (ru : Rep X s.heap u (.str a)) (rv : Rep X s.heap v (.str b)) :
    wpAny (model prog w) A (compareOp .Eq u v) (fun v s' => v = .bool (a == b) ∧ Keeps s s') E s := by obtain ⟨_, rfl⟩ := rep_str ru; obtain ⟨_, rfl⟩ := rep_str rv; exact PyProof.Rows.eq_str ⟨rfl, Kp.refl s⟩

/-- the truth of a value -/
noncomputable def truth : T → Bool
  | .none => false
  | .bool b => b
  | .int i => i != 0
  | .str x => (x.length : Int) != 0
  | .list l => !l.isEmpty
  | .tup l => !l.isEmpty
noncomputable def TFit : T → Prop
  | .str x => x.length ≤ 1000
  | .list l => l.length ≤ 1000
  | .tup _ => False
  | _ => True
theorem truthy_rep {t : T} {v : Value} {s : Shared} {E : Value → Shared → Prop} (r : Rep X s.heap v t) (hs : TFit t) :
    wpAny (model prog w) A (truthy v) (fun b s' => b = truth t ∧ Keeps s s') E s := by
  cases r with
  | none => exact wpAny_pure ⟨rfl, Kp.refl s⟩
  | bool b => exact wpAny_truthy_bool ⟨rfl, Kp.refl s⟩
  | int i t => exact PyProof.Rows.truthy_int ⟨rfl, Kp.refl s⟩
  | str x t => exact P.truthy_str (by simp only [TFit] at hs; lia) ⟨rfl, Kp.toks s _⟩
  | @list a vs ts n l r =>
    have hl := r.length
    simp only [TFit] at hs
    refine wpAny_truthy_list l.isList (by simp; lia) ?_
    refine ⟨?_, by first | exact Kp.refl s | exact Kp.toks s _⟩
    cases vs <;> cases ts <;> simp_all [truth]
  | tup => exact hs.elim
end
end Mine
end

-- F3
section
open PySem PySem.W PyProof.Rows
set_option linter.unusedVariables false
namespace Mine
section
variable {prog : Program} {w : World} {A : Around} {env : Env} {X : List Addr} {h : Heap}

/-- arguments in order -/
noncomputable def Evs (prog : Program) (w : World) (A : Around) (env : Env) (X : List Addr) (h : Heap) (es : List Expr) (ts : List T) : Prop :=
  ∀ (pos : Pos) (s : Shared) (E : Value → Shared → Prop), Sub h s.heap → Live X s.heap →
    wpAny (model prog w) A (spliced (backTo pos (starEach es env))) (fun vs s' => Reps X s'.heap vs ts ∧ Keeps s s') E s
theorem Evs.nil : Evs prog w A env X h [] [] := fun pos s E _ _ => args_nil ⟨.nil, Kp.refl s⟩
theorem Evs.cons {e : Expr} {es : List Expr} {t : T} {ts : List T} (he : Ev prog w A env X h e t) (hes : Evs prog w A env X h es ts)
    (hst : starEach (e :: es) env = (false, eval e env) :: starEach es env) : Evs prog w A env X h (e :: es) (t :: ts) := fun pos s E q lv => by
  refine args_cons (wpAny_mono (he s E q lv) (fun v s₁ h₁ => wpAny_mono (hes pos s₁ E (q.trans (Kp.sub h₁.2)) (lv.mono (Kp.sub h₁.2))) (fun vs s₂ h₂ => ?_) fun _ _ e => e) fun _ _ e => e) hst
  exact ⟨.cons (h₁.1.mono (Kp.sub h₂.2)) h₂.1, Kp.trans h₁.2 h₂.2⟩

theorem Ev.callB {f : Str} {np pos : Pos} {id : String} {e : Expr} {es : List Expr} {ts : List T} {t : T} (l : Loads env h f (.builtin id)) (ha : Evs prog w A env X h (e :: es) ts)
    (hst : starEach (e :: es) env = (false, eval e env) :: starEach es env) (hpl : ∀ pos, (backTo pos (starEach es env)).any (·.1) = false)
    (hc : ∀ (s : Shared) (E : Value → Shared → Prop) (vs : List Value), Sub h s.heap → Live X s.heap → Reps X s.heap vs ts → wpAny (model prog w) A (call (.builtin id) vs) (fun v s' => Rep X s'.heap v t ∧ Keeps s s') E s) :
    Ev prog w A env X h (.Call (.Name f np) (e :: es) [] pos) t := fun s E q lv => by
  refine wpAny_Call_NameR (l _ _ _ _ _ _ q ?_)
  refine PyProof.Rows.callWith_builtin1 (wpAny_mono (ha pos s E q lv) (fun vs s₁ h₁ => ?_) fun _ _ e => e) hst (hpl pos)
  exact wpAny_mono (hc s₁ E vs (q.trans (Kp.sub h₁.2)) (lv.mono (Kp.sub h₁.2)) h₁.1) (fun v s₂ h₂ => ⟨h₂.1, Kp.trans h₁.2 h₂.2⟩) fun _ _ e => e

/-- a def of the text's own -/
theorem Ev.callF {f : Str} {np pos : Pos} {a : Addr} {o : Obj} {fd : FuncData} {e : Expr} {es : List Expr} {ts : List T} {t : T} (l : Loads env h f (.ref a)) (ho : h.get? a = some o) (hd : o.data = .func fd)
    (ha : Evs prog w A env X h (e :: es) ts)
    (hst : starEach (e :: es) env = (false, eval e env) :: starEach es env)
    (hc : ∀ (s : Shared) (E : Value → Shared → Prop) (vs : List Value), Sub h s.heap → Live X s.heap → Reps X s.heap vs ts → wpAny (model prog w) A (call (.ref a) vs) (fun v s' => Rep X s'.heap v t ∧ Keeps s s') E s) :
    Ev prog w A env X h (.Call (.Name f np) (e :: es) [] pos) t := fun s E q lv => by
  refine wpAny_Call_NameR (l _ _ _ _ _ _ q ?_)
  refine PyProof.Rows.callWith_def (o := o) (fd := fd) hd (wpAny_mono (ha pos s E q lv) (fun vs s₁ h₁ => ⟨(q.trans (Kp.sub h₁.2)) _ _ ho, ?_⟩) fun _ _ e => e) hst
  exact wpAny_mono (hc s₁ E vs (q.trans (Kp.sub h₁.2)) (lv.mono (Kp.sub h₁.2)) h₁.1) (fun v s₂ h₂ => ⟨h₂.1, Kp.trans h₁.2 h₂.2⟩) fun _ _ e => e

inductive Reps1 (X : List Addr) (h : Heap) (vs : List Value) (t : T) : Prop
  | mk (v : Value) (e : vs = [v]) (r : Rep X h v t)
inductive Reps2 (X : List Addr) (h : Heap) (vs : List Value) (t u : T) : Prop
  | mk (v v' : Value) (e : vs = [v, v']) (r : Rep X h v t) (r' : Rep X h v' u)
inductive Reps3 (X : List Addr) (h : Heap) (vs : List Value) (t u x : T) : Prop
  | mk (v v' v'' : Value) (e : vs = [v, v', v'']) (r : Rep X h v t) (r' : Rep X h v' u) (r'' : Rep X h v'' x)
theorem reps1 {vs : List Value} {t : T} (r : Reps X h vs [t]) : Reps1 X h vs t := by
  cases r with
  | cons a r => cases r; exact ⟨_, rfl, a⟩
theorem reps2 {vs : List Value} {t u : T} (r : Reps X h vs [t, u]) : Reps2 X h vs t u := by
  cases r with
  | cons a r => obtain ⟨v, rfl, b⟩ := reps1 r; exact ⟨_, _, rfl, a, b⟩
theorem reps3 {vs : List Value} {t u x : T} (r : Reps X h vs [t, u, x]) : Reps3 X h vs t u x := by
  cases r with
  | cons a r => obtain ⟨v, v', rfl, b, c⟩ := reps2 r; exact ⟨_, _, _, rfl, a, b, c⟩

/-- what len, sum, max, sorted, chr, min give -/
theorem c_len {l : List T} (hl : l.length ≤ 100000) (s : Shared) (E : Value → Shared → Prop) (vs : List Value) (r : Reps X s.heap vs [.list l]) :
    wpAny (model prog w) A (call (.builtin "len") vs) (fun v s' => Rep X s'.heap v (.int l.length) ∧ Keeps s s') E s := by
  obtain ⟨v, rfl, rq⟩ := reps1 r
  clear r
  obtain ⟨_, _, rfl, n, il, r⟩ := rep_list rq
  have := r.length
  refine len_list il.isList (by simp; lia) ?_
  simp only [List.size_toArray, this]
  exact ⟨.int _ _, Kp.toks s _⟩
theorem c_lenS {x : Str} (hl : x.length ≤ 100000) (s : Shared) (E : Value → Shared → Prop) (vs : List Value) (r : Reps X s.heap vs [.str x]) :
    wpAny (model prog w) A (call (.builtin "len") vs) (fun v s' => Rep X s'.heap v (.int x.length) ∧ Keeps s s') E s := by
  obtain ⟨v, rfl, rq⟩ := reps1 r
  clear r
  obtain ⟨t, rfl⟩ := rep_str rq
  exact len_str (by lia) ⟨.int _ _, Kp.toks s _⟩
theorem c_sum {l : List Int} (hh : A.handled = none) (s : Shared) (E : Value → Shared → Prop) (vs : List Value) (r : Reps X s.heap vs [.list (l.map .int)]) :
    wpAny (model prog w) A (call (.builtin "sum") vs) (fun v s' => Rep X s'.heap v (.int l.sum) ∧ Keeps s s') E s := by
  obtain ⟨v, rfl, rq⟩ := reps1 r
  clear r
  obtain ⟨a, vs, rfl, n, il, r⟩ := rep_list rq
  have hi := Reps.ints r
  obtain ⟨xs, e⟩ := hi.allInts.items
  have hns : l = xs.toList.map (·.1) := by rw [← hi.numsOf, ← nums_intItems, ← e]
  have il' := il.isList
  rw [e] at il'
  refine sum_intListG hh il' fun h' tk t' hk => ?_
  rw [preSum_eq, List.take_of_length_le (by simp), ← hns]
  exact ⟨.int _ _, Kp.heap _ hk⟩
theorem c_max {l : List Int} (hh : A.handled = none) (hne : 0 < l.length) (s : Shared) (E : Value → Shared → Prop) (vs : List Value) (r : Reps X s.heap vs [.list (l.map .int)]) {M : Int} (hm : M ∈ l) (hM : ∀ a, a ∈ l → a ≤ M) :
    wpAny (model prog w) A (call (.builtin "max") vs) (fun v s' => Rep X s'.heap v (.int M) ∧ Keeps s s') E s := by
  obtain ⟨v, rfl, rq⟩ := reps1 r
  clear r
  obtain ⟨a, vs, rfl, n, il, r⟩ := rep_list rq
  have hi := Reps.ints r
  obtain ⟨xs, e⟩ := hi.allInts.items
  have hns : l = xs.toList.map (·.1) := by rw [← hi.numsOf, ← nums_intItems, ← e]
  have hsz : 0 < xs.size := by
    have h3 := hne; rw [hns, List.length_map, Array.length_toList] at h3; exact h3
  have il' := il.isList
  rw [e] at il'
  refine max_intList hh il' hsz fun v h' tk hv hk => ?_
  obtain ⟨t, rfl⟩ := intItems_at hv
  obtain ⟨h1, h2⟩ := argBest_gt (numAt xs) (xs.size - 1)
  have hmem : numAt xs (argBest (fun i j => decide (numAt xs i > numAt xs j)) (xs.size - 1)) ∈ l := by
    rw [hns, numAt_eq]; exact getD_mem (by rw [List.length_map, Array.length_toList]; lia)
  have hge : M ≤ numAt xs (argBest (fun i j => decide (numAt xs i > numAt xs j)) (xs.size - 1)) := by
    have ha := hm
    rw [hns] at ha
    obtain ⟨j, hj, rfl⟩ := mem_getD ha
    rw [List.length_map, Array.length_toList] at hj
    rw [← numAt_eq]; exact h2 j (by lia)
  have := hM _ hmem
  have e3 : numAt xs (argBest (fun i j => decide (numAt xs i > numAt xs j)) (xs.size - 1)) = M := by lia
  rw [e3]
  exact ⟨.int _ _, Kp.heap _ hk⟩
theorem c_min {a b : Int} (hh : A.handled = none) (s : Shared) (E : Value → Shared → Prop) (vs : List Value) (r : Reps X s.heap vs [.int a, .int b]) :
    wpAny (model prog w) A (call (.builtin "min") vs) (fun v s' => Rep X s'.heap v (.int (min a b)) ∧ Keeps s s') E s := by
  obtain ⟨v, v', rfl, rq, r'⟩ := reps2 r
  clear r
  obtain ⟨_, rfl⟩ := rep_int rq; obtain ⟨_, rfl⟩ := rep_int r'
  refine min_two_ints hh fun h' tk hk => ?_
  by_cases c : b < a
  · rw [if_pos c, show min a b = b by lia]; exact ⟨.int _ _, Kp.heap _ hk⟩
  · rw [if_neg c, show min a b = a by lia]; exact ⟨.int _ _, Kp.heap _ hk⟩
theorem c_chr {i : Int} (h0 : 0 ≤ i) (h1 : i ≤ 1114111) (s : Shared) (E : Value → Shared → Prop) (vs : List Value) (r : Reps X s.heap vs [.int i]) :
    wpAny (model prog w) A (call (.builtin "chr") vs) (fun v s' => Rep X s'.heap v (.str ⟨#[i.toNat]⟩) ∧ Keeps s s') E s := by
  obtain ⟨v, rfl, rq⟩ := reps1 r
  clear r
  obtain ⟨_, rfl⟩ := rep_int rq
  exact chr_of_range h0 h1 ⟨.str _ _, Kp.toks s _⟩
end
end Mine
end

-- F4
section
open PySem PySem.W PyProof.Rows
set_option linter.unusedVariables false
namespace Mine
theorem subscripted_false (slice : Expr) (o i : Value) : ∃ ops, subscripted slice false o i = operate ops (getItem o i) := by
  cases slice with
  | Slice lo hi st p => cases st <;> exact ⟨_, rfl⟩
  | _ => exact ⟨_, rfl⟩
/-- a slice's items -/
noncomputable def sliceT {α : Type} (ts : List α) (lo hi st : Option Int) : List α :=
  (sliceRange (sliceBounds lo hi st ts.length).1 (sliceBounds lo hi st ts.length).2.1 (sliceBounds lo hi st ts.length).2.2).filterMap (ts[·]?)
theorem Reps.pick {X : List Addr} {h : Heap} {vs : List Value} {ts : List T} (r : Reps X h vs ts) : ∀ idx : List Nat, Reps X h (idx.filterMap (vs[·]?)) (idx.filterMap (ts[·]?))
  | [] => .nil
  | i :: idx => by
    have ih := Reps.pick r idx
    simp only [List.filterMap_cons]
    cases e : ts[i]? with
    | some t =>
      obtain ⟨v, ev, rv⟩ := r.get e
      rw [ev]
      exact .cons rv ih
    | none =>
      have e1 : ts.length ≤ i := List.getElem?_eq_none_iff.mp e
      have e2 : vs[i]? = none := List.getElem?_eq_none_iff.mpr (by rw [r.length]; exact e1)
      rw [e2]
      exact ih
section
variable {prog : Program} {w : World} {A : Around} {env : Env} {X : List Addr} {h : Heap}

theorem Ev.item {value slice : Expr} {pos : Pos} {a b t : T} {Ty id : String} (ha : Ev prog w A env X h value a) (hb : Ev prog w A env X h slice b) (hl : typeLookup (.type Ty) "__getitem__" = pure (some (.builtin id)))
    (hop : ∀ (s : Shared) (E : Value → Shared → Prop) (u v : Value), Sub h s.heap → Live X s.heap → Rep X s.heap u a → Rep X s.heap v b → s.TypeIs u Ty ∧ wpAny (model prog w) A (getItem u v) (fun v s' => Rep X s'.heap v t ∧ Keeps s s') E s) :
    Ev prog w A env X h (.Subscript value slice pos) t := fun s E q lv => by
  refine Subscript_ (wpAny_mono (ha s E q lv) (fun u s₁ h₁ => wpAny_mono (hb s₁ E (q.trans (Kp.sub h₁.2)) (lv.mono (Kp.sub h₁.2))) (fun v s₂ h₂ => ?_) fun _ _ e => e) fun _ _ e => e)
  obtain ⟨hT, hg⟩ := hop s₂ E u v ((q.trans (Kp.sub h₁.2)).trans (Kp.sub h₂.2)) ((lv.mono (Kp.sub h₁.2)).mono (Kp.sub h₂.2)) (h₁.1.mono (Kp.sub h₂.2)) h₂.1
  obtain ⟨ops, hs⟩ := subscripted_false slice u v
  refine tail_any hT hl (wpAny_mono hg (fun z s₃ h₃ => ⟨h₃.1, Kp.trans h₁.2 (Kp.trans h₂.2 h₃.2)⟩) fun _ _ e => e) hs

theorem Ev.itemL {value slice : Expr} {pos : Pos} {l : List T} {k : Int} {t : T} (ha : Ev prog w A env X h value (.list l)) (hb : Ev prog w A env X h slice (.int k)) (h0 : 0 ≤ k) (h1 : k < 2 ^ 63) (e : l[k.toNat]? = some t) :
    Ev prog w A env X h (.Subscript value slice pos) t := Ev.item ha hb list_getitem_lookup fun s E u v q lv ru rv => by
  obtain ⟨_, _, rfl, n, il, r⟩ := rep_list ru
  obtain ⟨_, rfl⟩ := rep_int rv
  obtain ⟨y, ey, ry⟩ := r.get e
  exact ⟨il.isList.typeIs, wpAny_getItem_list il.isList h0 h1 (by simpa using ey) ⟨ry, Kp.refl s⟩⟩
theorem Ev.itemT {value slice : Expr} {pos : Pos} {l : List T} {k : Nat} {t : T} (ha : Ev prog w A env X h value (.tup l)) (hb : Ev prog w A env X h slice (.int k)) (h1 : k < 100) (e : l[k]? = some t) :
    Ev prog w A env X h (.Subscript value slice pos) t := Ev.item ha hb slot_tuple_getitem.lookup fun s E u v q lv ru rv => by
  obtain ⟨_, _, rfl, n, il, r⟩ := rep_tup ru
  obtain ⟨_, rfl⟩ := rep_int rv
  have hl := r.length
  obtain ⟨y, ey, ry⟩ := r.get e
  have hlt : k < l.length := (List.getElem?_eq_some_iff.mp e).1
  refine ⟨il.typeIs, PyProof.Rows.getItem_tuple (j := k) il (by lia) (by lia) ?_ (by simpa using ey) ⟨ry, Kp.refl s⟩⟩
  have h2 : ¬ ((k : Int) < 0) := by lia
  simp [seqIndex?, hl, h2, hlt]
theorem Ev.itemS {value slice : Expr} {pos : Pos} {x : Str} {k : Int} (ha : Ev prog w A env X h value (.str x)) (hb : Ev prog w A env X h slice (.int k)) (hf : fitsSsize k = true) (hin : (Txt.charAt x k).isSome = true) :
    Ev prog w A env X h (.Subscript value slice pos) (.str (Txt.item x k)) := Ev.item ha hb F.slot_str_getitem.lookup fun s E u v q lv ru rv => by
  obtain ⟨_, rfl⟩ := rep_str ru; obtain ⟨_, rfl⟩ := rep_int rv
  exact ⟨typeIs_str _ _ _, SB.getItem hf hin ⟨.str _ _, Kp.toks s _⟩⟩

/-- a part of a slice -/
inductive EvP (prog : Program) (w : World) (A : Around) (env : Env) (X : List Addr) (h : Heap) : Option Expr → Option Int → Prop where
  | none : EvP prog w A env X h none none
  | int {e : Expr} {i : Int} : Ev prog w A env X h e (.int i) → EvP prog w A env X h (some e) (some i)
  | non {e : Expr} : Ev prog w A env X h e .none → EvP prog w A env X h (some e) none
theorem EvP.ev {e : Option Expr} {i : Option Int} (p : EvP prog w A env X h e i) (s : Shared) (E : Value → Shared → Prop) (q : Sub h s.heap) (lv : Live X s.heap) :
    wpAny (model prog w) A (evalPart e env) (fun v s' => IsPart v i ∧ Keeps s s') E s := by
  cases p with
  | none => exact wpAny_evalPart_none ⟨.none, Kp.refl s⟩
  | int x => exact wpAny_evalPart_some (wpAny_mono (x s E q lv) (fun v s' r => ⟨by obtain ⟨_, rfl⟩ := rep_int r.1; exact .int _ _, r.2⟩) fun _ _ e => e)
  | non x => exact wpAny_evalPart_some (wpAny_mono (x s E q lv) (fun v s' r => ⟨by rw [rep_none r.1]; exact .none, r.2⟩) fun _ _ e => e)

theorem Ev.slice {value : Expr} {lo hi st : Option Expr} {p pos : Pos} {l : List T} {i j k : Option Int} (ha : Ev prog w A env X h value (.list l)) (hlo : EvP prog w A env X h lo i) (hhi : EvP prog w A env X h hi j) (hst : EvP prog w A env X h st k)
    (hk : k ≠ some 0) (hsz : l.length ≤ 100000) : Ev prog w A env X h (.Subscript value (.Slice lo hi st p) pos) (.list (sliceT l i j k)) := fun s E q lv => by
  refine Subscript_ (wpAny_mono (ha s E q lv) (fun u s₁ h₁ => ?_) fun _ _ e => e)
  have q₁ := q.trans (Kp.sub h₁.2)
  have l₁ := lv.mono (Kp.sub h₁.2)
  refine wpAny_Slice (wpAny_mono (hlo.ev s₁ E q₁ l₁) (fun v₁ s₂ h₂ => ?_) fun _ _ e => e)
  have q₂ := q₁.trans (Kp.sub h₂.2)
  have l₂ := l₁.mono (Kp.sub h₂.2)
  refine wpAny_mono (hhi.ev s₂ E q₂ l₂) (fun v₂ s₃ h₃ => ?_) fun _ _ e => e
  have q₃ := q₂.trans (Kp.sub h₃.2)
  have l₃ := l₂.mono (Kp.sub h₃.2)
  refine wpAny_mono (hst.ev s₃ E q₃ l₃) (fun v₃ s₄ h₄ => ?_) fun _ _ e => e
  have q₄ := q₃.trans (Kp.sub h₄.2)
  have l₄ := l₃.mono (Kp.sub h₄.2)
  have k₄ := Kp.trans h₁.2 (Kp.trans h₂.2 (Kp.trans h₃.2 h₄.2))
  have hu := h₁.1.mono (Sub.trans (Kp.sub h₂.2) (Sub.trans (Kp.sub h₃.2) (Kp.sub h₄.2)))
  obtain ⟨a, vs, rfl, n, il, r⟩ := rep_list hu
  obtain ⟨ops, hs⟩ := subscripted_false (.Slice lo hi st p) (.ref a) (.ref s₄.heap.objs.size)
  have il' := il.isList.push { cls := .type "slice", data := .fields #[v₁, v₂, v₃] }
  refine tail_any il'.typeIs list_getitem_lookup (wpAny_getItem_list_slice il' (Heap.IsSliceOf.new ..) h₂.1 h₃.1 h₄.1 hk ?_ (by have := r.length; simp only [List.size_toArray]; rw [this]; exact Nat.le_trans hsz (by decide))) hs
  refine ⟨?_, ?_⟩
  · have r' := (r.mono (Sub.push s₄.heap { cls := .type "slice", data := .fields #[v₁, v₂, v₃] })).mono (Sub.push _ { cls := .type "list", data := .seq (slicePick vs.toArray i j k) })
    refine .list (vs := (slicePick vs.toArray i j k).toList) ?_ ?_ ?_
    · exact Live.fresh (l₄.mono (Sub.push _ _))
    · exact ⟨0, by rw [Array.toArray_toList]; exact Heap.get?_push_size _ rfl⟩
    · have e1 : (slicePick vs.toArray i j k).toList = (sliceRange (sliceBounds i j k l.length).1 (sliceBounds i j k l.length).2.1 (sliceBounds i j k l.length).2.2).filterMap (vs[·]?) := by
        unfold slicePick
        rw [← r.length]
        simp
      rw [e1]
      exact r'.pick _
  · exact Kp.trans k₄ (Kp.heap0 (Sub.trans (Sub.push _ _) (Sub.push _ _)))

theorem Ev.sliceS {value : Expr} {lo hi : Option Expr} {p pos : Pos} {x : Str} {i j : Option Int} (ha : Ev prog w A env X h value (.str x)) (hlo : EvP prog w A env X h lo i) (hhi : EvP prog w A env X h hi j)
    (hsz : x.length ≤ 1000) : Ev prog w A env X h (.Subscript value (.Slice lo hi Option.none p) pos) (.str (Txt.slice x i j)) := fun s E q lv => by
  refine Subscript_ (wpAny_mono (ha s E q lv) (fun u s₁ h₁ => ?_) fun _ _ e => e)
  have q₁ := q.trans (Kp.sub h₁.2)
  have l₁ := lv.mono (Kp.sub h₁.2)
  refine wpAny_Slice (wpAny_mono (hlo.ev s₁ E q₁ l₁) (fun v₁ s₂ h₂ => ?_) fun _ _ e => e)
  have q₂ := q₁.trans (Kp.sub h₂.2)
  have l₂ := l₁.mono (Kp.sub h₂.2)
  refine wpAny_mono (hhi.ev s₂ E q₂ l₂) (fun v₂ s₃ h₃ => ?_) fun _ _ e => e
  have k₃ := Kp.trans h₁.2 (Kp.trans h₂.2 h₃.2)
  refine wpAny_evalPart_none ?_
  have hu := h₁.1
  obtain ⟨t, rfl⟩ := rep_str hu
  have hx : x.length ≤ sizeLine := Nat.le_trans hsz (by decide)
  have fin : ∀ h' t' tk, Sub s₃.heap h' → (Rep X h' (.str (Txt.slice x i j) t') (.str (Txt.slice x i j)) ∧ Keeps s { s₃ with heap := h', toks := tk }) := fun h' t' tk sb => ⟨.str _ _, Kp.trans k₃ (Kp.heap _ sb)⟩
  have kH : KeptH (fun h' => Sub s₃.heap h') := fun h ob p => Sub.trans p (Sub.push _ _)
  have it : ItemOn (model prog w) A E (.str x t) (.ref s₃.heap.objs.size) (fun v s' => Rep X s'.heap v (.str (Txt.slice x i j)) ∧ Keeps s s') { s₃ with heap := s₃.heap.push { cls := .type "slice", data := .fields #[v₁, v₂, .none] } } := by
    have p₁ := h₂.1
    have p₂ := h₃.1
    cases p₁ <;> cases p₂
    · exact SBH.sliceItem_nn (P := fun h' => Sub s₃.heap h') kH (Sub.refl _) (fun h' t' k sb => fin h' t' k sb) hx
    · exact SBH.sliceItem_ns (P := fun h' => Sub s₃.heap h') kH (Sub.refl _) (fun h' t' k sb => fin h' t' k sb) hx
    · exact SBH.sliceItem_sn (P := fun h' => Sub s₃.heap h') kH (Sub.refl _) (fun h' t' k sb => fin h' t' k sb) hx
    · exact SBH.sliceItem_ss (P := fun h' => Sub s₃.heap h') kH (Sub.refl _) (fun h' t' k sb => fin h' t' k sb) hx
  obtain ⟨Ty, id, hl, hT, hg⟩ := it
  obtain ⟨ops, hs⟩ := subscripted_false (.Slice lo hi Option.none p) (.str x t) (.ref s₃.heap.objs.size)
  exact tail_any hT hl hg hs

/-- a list display, a tuple display -/
theorem Ev.disp {es : List Expr} {pos : Pos} {ts : List T} (he : Evs prog w A env X h es ts) (hsz : ts.length ≤ 1000) : Ev prog w A env X h (.List es pos) (.list ts) := fun s E q lv => by
  refine wpAny_List (wpAny_mono (he pos s E q lv) (fun vs s₁ h₁ => ⟨?_, ?_, ?_⟩) fun _ _ e => e)
  · have := h₁.1.length; rw [this]; exact Nat.le_trans hsz (by decide)
  · exact .list (Live.fresh (lv.mono (Kp.sub h₁.2))) ⟨0, Heap.get?_push_size _ rfl⟩ (h₁.1.mono (Sub.push _ _))
  · exact Kp.trans h₁.2 (Kp.heap0 (Sub.push _ _))
theorem c_sorted {Y : List Addr} {l l' : List Int} (h64 : l.length < 64) (hp : l'.Perm l) (hs : l'.Pairwise (· ≤ ·)) (s : Shared) (E : Value → Shared → Prop) (vs : List Value) (lv : Live X s.heap) (r : Reps Y s.heap vs [.list (l.map .int)]) :
    wpAny (model prog w) A (call (.builtin "sorted") vs) (fun v s' => Rep X s'.heap v (.list (l'.map .int)) ∧ Keeps s s') E s := by
  obtain ⟨v, rfl, rq⟩ := reps1 r
  clear r
  obtain ⟨a, vs, rfl, n, il, r⟩ := rep_list rq
  have hl := r.length
  refine sorted_ints il.isList (Reps.ints r) (by rw [hl]; simpa using h64) fun out ns' hi hp' hs' => ?_
  have e : ns' = l' := List.Perm.eq_of_pairwise (le := (· ≤ ·)) (fun a b _ _ h1 h2 => Int.le_antisymm h1 h2) hs' hs (hp'.trans hp.symm)
  subst e
  obtain ⟨ep, he⟩ := sortedAll_at s.heap vs out
  refine ⟨.list (vs := out.toList) ?_ ⟨ep, by simpa using he⟩ (ints_reps hi), Kp.heap0 fun b o e => sortedAll_old e⟩
  intro m
  obtain ⟨o, ho⟩ := lv _ m
  exact absurd (Heap.lt_size ho) (Nat.not_lt.mpr (Nat.le_succ _))
end
end Mine
end

-- F5
section
open PySem PySem.W PyProof.Rows
set_option linter.unusedVariables false
namespace Mine
section
variable {prog : Program} {w : World} {A : Around} {env : Env} {X : List Addr} {h : Heap}

theorem Tr.of {e : Expr} {t : T} (x : Ev prog w A env X h e t) (hs : TFit t)
    (he : ∀ whole, isTrue e env whole = (do let v ← whole; standAt e.pos; holding [v] (truthy v))) : Tr prog w A env X h e (truth t) := fun s E q lv => by
  refine isTrue_plain (wpAny_mono (x s E q lv) (fun v s₁ h₁ => wpAny_mono (truthy_rep h₁.1 hs) (fun b s₂ h₂ => ⟨h₂.1, Kp.trans h₁.2 h₂.2⟩) fun _ _ e => e) fun _ _ e => e) (he _)
theorem Tr.eq {e : Expr} {a b : Bool} (x : Tr prog w A env X h e a) (q : a = b) : Tr prog w A env X h e b := q ▸ x
theorem Ev.eq {e : Expr} {a b : T} (x : Ev prog w A env X h e a) (q : a = b) : Ev prog w A env X h e b := q ▸ x
theorem Tr.not {e : Expr} {b : Bool} {pos : Pos} (x : Tr prog w A env X h e b) : Tr prog w A env X h (.UnaryOp .Not e pos) (!b) := fun s E q lv =>
  isTrue_not (wpAny_mono (x s E q lv) (fun c s₁ h₁ => ⟨by rw [h₁.1], h₁.2⟩) fun _ _ e => e)

noncomputable def AllT (prog : Program) (w : World) (A : Around) (env : Env) (X : List Addr) (h : Heap) (op : BoolOp) (es : List Expr) (b : Bool) : Prop :=
  ∀ (s : Shared) (E : Value → Shared → Prop), Sub h s.heap → Live X s.heap → wpAny (model prog w) A (allTrue op es env) (fun r s' => r = b ∧ Keeps s s') E s
theorem Tr.bool {op : BoolOp} {es : List Expr} {b : Bool} {pos : Pos} (x : AllT prog w A env X h op es b) : Tr prog w A env X h (.BoolOp op es pos) b := fun s E q lv => wpAny_isTrue_BoolOp (x s E q lv)
theorem AllT.nilA : AllT prog w A env X h .And [] true := fun s E q lv => wpAny_allTrue_And_nil ⟨rfl, Kp.refl s⟩
theorem AllT.nilO : AllT prog w A env X h .Or [] false := fun s E q lv => wpAny_allTrue_Or_nil ⟨rfl, Kp.refl s⟩
theorem AllT.stopA {x : Expr} {r : List Expr} (a : Tr prog w A env X h x false) : AllT prog w A env X h .And (x :: r) false := fun s E q lv =>
  wpAny_allTrue_And_cons (wpAny_mono (a s E q lv) (fun b s₁ h₁ => by rw [h₁.1]; exact ⟨rfl, h₁.2⟩) fun _ _ e => e)
theorem AllT.goA {x : Expr} {r : List Expr} {b : Bool} (a : Tr prog w A env X h x true) (c : AllT prog w A env X h .And r b) : AllT prog w A env X h .And (x :: r) b := fun s E q lv =>
  wpAny_allTrue_And_cons (wpAny_mono (a s E q lv) (fun b s₁ h₁ => by
    rw [h₁.1]
    exact wpAny_mono (c s₁ E (q.trans (Kp.sub h₁.2)) (lv.mono (Kp.sub h₁.2))) (fun z s₂ h₂ => ⟨h₂.1, Kp.trans h₁.2 h₂.2⟩) fun _ _ e => e) fun _ _ e => e)
theorem AllT.goO {x : Expr} {r : List Expr} {b : Bool} (a : Tr prog w A env X h x false) (c : AllT prog w A env X h .Or r b) : AllT prog w A env X h .Or (x :: r) b := fun s E q lv =>
  wpAny_allTrue_Or_cons (wpAny_mono (a s E q lv) (fun b s₁ h₁ => by
    rw [h₁.1]
    exact wpAny_mono (c s₁ E (q.trans (Kp.sub h₁.2)) (lv.mono (Kp.sub h₁.2))) (fun z s₂ h₂ => ⟨h₂.1, Kp.trans h₁.2 h₂.2⟩) fun _ _ e => e) fun _ _ e => e)

theorem Ev.ifT {c a b : Expr} {pos : Pos} {t : T} (hc : Tr prog w A env X h c true) (ha : Ev prog w A env X h a t) : Ev prog w A env X h (.IfExp c a b pos) t := fun s E q lv =>
  wpAny_IfExp (wpAny_mono (hc s E q lv) (fun z s₁ h₁ => by
    rw [h₁.1]
    exact wpAny_mono (ha s₁ E (q.trans (Kp.sub h₁.2)) (lv.mono (Kp.sub h₁.2))) (fun z s₂ h₂ => ⟨h₂.1, Kp.trans h₁.2 h₂.2⟩) fun _ _ e => e) fun _ _ e => e)
theorem Ev.ifF {c a b : Expr} {pos : Pos} {t : T} (hc : Tr prog w A env X h c false) (ha : Ev prog w A env X h b t) : Ev prog w A env X h (.IfExp c a b pos) t := fun s E q lv =>
  wpAny_IfExp (wpAny_mono (hc s E q lv) (fun z s₁ h₁ => by
    rw [h₁.1]
    exact wpAny_mono (ha s₁ E (q.trans (Kp.sub h₁.2)) (lv.mono (Kp.sub h₁.2))) (fun z s₂ h₂ => ⟨h₂.1, Kp.trans h₁.2 h₂.2⟩) fun _ _ e => e) fun _ _ e => e)
theorem Ev.orF {x y : Expr} {pos : Pos} {t u : T} (hx : Ev prog w A env X h x t) (hs : TFit t) (ht : truth t = false) (hy : Ev prog w A env X h y u) :
    Ev prog w A env X h (.BoolOp .Or [x, y] pos) u := fun s E q lv =>
  wpAny_Or2 (wpAny_mono (hx s E q lv) (fun v s₁ h₁ => wpAny_mono (truthy_rep h₁.1 hs) (fun b s₂ h₂ => by
    rw [h₂.1, ht]
    have k := Kp.trans h₁.2 h₂.2
    exact wpAny_mono (hy s₂ E (q.trans (Kp.sub k)) (lv.mono (Kp.sub k))) (fun z s₃ h₃ => ⟨h₃.1, Kp.trans k h₃.2⟩) fun _ _ e => e) fun _ _ e => e) fun _ _ e => e)
theorem Ev.andT {x y : Expr} {pos : Pos} {t u : T} (hx : Ev prog w A env X h x t) (hs : TFit t) (ht : truth t = true) (hy : Ev prog w A env X h y u) :
    Ev prog w A env X h (.BoolOp .And [x, y] pos) u := fun s E q lv =>
  wpAny_And2 (wpAny_mono (hx s E q lv) (fun v s₁ h₁ => wpAny_mono (truthy_rep h₁.1 hs) (fun b s₂ h₂ => by
    rw [h₂.1, ht]
    have k := Kp.trans h₁.2 h₂.2
    exact wpAny_mono (hy s₂ E (q.trans (Kp.sub k)) (lv.mono (Kp.sub k))) (fun z s₃ h₃ => ⟨h₃.1, Kp.trans k h₃.2⟩) fun _ _ e => e) fun _ _ e => e) fun _ _ e => e)

/-- what a loop walks over -/
inductive SrcAt (prog : Program) (w : World) (A : Around) (X : List Addr) (s s₂ : Shared) (it : Value) (ts : List T) : Prop
  | mk (h₁ : Heap) (I : Addr) (fp wr : List Addr) (P : Nat → Value → Prop) (St : Nat → Heap → Prop) (hit : it = .ref I) (W : Walks prog w A I fp wr ts.length P St) (hsz : ts.length ≤ sizeLine) (hst : St 0 s₂.heap)
    (hfp : ∀ b ∈ fp, b < s₂.heap.objs.size) (hlive : ∀ i h, St i h → ∀ b ∈ fp, ∃ o, h.get? b = some o) (kp : Keeps s s₂) (sb₁ : Sub s.heap h₁) (sb₂ : Sub h₁ s₂.heap) (hwr : ∀ b ∈ wr, h₁.get? b = Option.none) (hX : ∀ b ∈ fp, b ∉ X)
    (hP : ∀ i v, P i v → ∃ t, ts[i]? = some t ∧ Rep X h₁ v t) (hw : wr = [I])
noncomputable def Src (prog : Program) (w : World) (A : Around) (env : Env) (X : List Addr) (h : Heap) (iter : Expr) (ts : List T) : Prop :=
  ∀ (s : Shared) (E : Value → Shared → Prop) (Q : Value → Shared → Prop), Sub h s.heap → Live X s.heap → (∀ it s₂, SrcAt prog w A X s s₂ it ts → Q it s₂) →
    wpAny (model prog w) A (eval iter env) (fun xv s₁ => wpAny (model prog w) A (pyIter xv) Q E s₁) E s

theorem Src.list {iter : Expr} {ts : List T} (hh : A.handled = none) (x : Ev prog w A env X h iter (.list ts)) (hsz : ts.length ≤ 100000) : Src prog w A env X h iter ts := fun s E Q q lv k => by
  refine wpAny_mono (x s E q lv) (fun v s₁ h₁ => ?_) fun _ _ e => e
  obtain ⟨r, kp⟩ := h₁
  have l₁ := lv.mono (Kp.sub kp)
  obtain ⟨a, vs, rfl, n, il, rr⟩ := rep_list r
  replace r := rr
  have hl := r.length
  have hlt : a < s₁.heap.objs.size := by obtain ⟨_, e⟩ := il; exact Heap.lt_size e
  refine wpAny_pyIter_list il.isList (k _ _ ?_)
  have W := Walks.list (prog := prog) (w := w) hh s₁.heap.objs.size a (Nat.ne_of_lt hlt) vs.toArray
  rw [show vs.toArray.size = ts.length by simp [hl]] at W
  refine ⟨s₁.heap, s₁.heap.objs.size, _, _, _, _, rfl, W, Nat.le_trans hsz (by decide), ⟨⟨_, Heap.get?_push_size _ rfl, rfl, rfl⟩, il.isList.push _⟩, ?_, ?_, Kp.trans kp (Kp.heap0 (Sub.push _ _)), Kp.sub kp, Sub.push _ _, ?_, ?_, ?_, rfl⟩
  · intro b hb
    show b < (s₁.heap.push _).objs.size
    rw [Heap.size_push]
    rcases List.mem_cons.mp hb with rfl | hb
    · exact Nat.lt_succ_self _
    · rw [List.mem_singleton.mp hb]; exact Nat.lt_succ_of_lt hlt
  · rintro i g ⟨⟨o, ho, _⟩, ⟨o', ho', _⟩⟩ b hb
    rcases List.mem_cons.mp hb with rfl | hb
    · exact ⟨o, ho⟩
    · rw [List.mem_singleton.mp hb]; exact ⟨o', ho'⟩
  · intro b hb
    rw [List.mem_singleton.mp hb]
    exact Heap.get?_none_of_le (Nat.le_refl _)
  · intro b hb
    rcases List.mem_cons.mp hb with rfl | hb
    · exact Live.fresh l₁
    · rw [List.mem_singleton.mp hb]; exact n
  · intro i v hv
    have hv' : vs[i]? = some v := by simpa using hv
    have hi : i < ts.length := by rw [← hl]; exact (List.getElem?_eq_some_iff.mp hv').1
    obtain ⟨v', e', rv⟩ := r.get (i := i) (t := ts[i]) (by simp [hi])
    rw [hv'] at e'; cases e'
    exact ⟨ts[i], by simp [hi], rv⟩

/-- the ints a, a + 1, .. (n of them) -/
noncomputable def rng (a : Int) (n : Nat) : List Int := (List.range n).map fun (i : Nat) => a + (i : Int)
theorem rng_get (a : Int) (n i : Nat) (h : i < n) : (rng a n)[i]? = some (a + i) := by simp [rng, h]
theorem rng_length (a : Int) (n : Nat) : (rng a n).length = n := by simp [rng]
theorem mem_rng {a : Int} {n : Nat} {x : Int} : x ∈ rng a n ↔ a ≤ x ∧ x < a + n := by
  simp only [rng, List.mem_map, List.mem_range]
  constructor
  · rintro ⟨i, hi, rfl⟩; lia
  · intro hx; exact ⟨(x - a).toNat, by lia, by lia⟩

theorem walks_strong {I : Addr} {fp wr : List Addr} {n : Nat} {P : Nat → Value → Prop} {St : Nat → Heap → Prop} (W : Walks prog w A I fp wr n P St) : Walks prog w A I fp wr n (fun i v => i < n ∧ P i v) St where
  sub := W.sub
  frame := W.frame
  item := fun i s Q E hi st hQ => W.item i s Q E hi st fun v h' tk p a b => hQ v h' tk ⟨hi, p⟩ a b
  done := W.done
  self := W.self
theorem src_range_at {s s₁ : Shared} {r : Addr} {a b : Int} {t u v : Tok} {E Q : Value → Shared → Prop} (hh : A.handled = none) (lv : Live X s₁.heap) (kp : Keeps s s₁) (hr : IsRange s₁.heap r a b 1 t u v)
    (ha : -100000 ≤ a) (ha' : a ≤ 100000) (hb : -100000 ≤ b) (hb' : b ≤ 100000) (k : ∀ it s₂, SrcAt prog w A X s s₂ it ((rng a (b - a).toNat).map T.int) → Q it s₂) : wpAny (model prog w) A (pyIter (.ref r)) Q E s₁ := by
  refine wpAny_pyIter_range hr (small_one (by lia) (by lia) (by lia) (by lia)) (k _ _ ?_)
  have W := walks_strong (Walks.range (prog := prog) (w := w) hh s₁.heap.objs.size a 1 (b - a).toNat)
  have hn : ((rng a (b - a).toNat).map T.int).length = (b - a).toNat := by simp [rng]
  rw [← hn] at W
  refine ⟨s₁.heap, s₁.heap.objs.size, _, _, _, _, rfl, W, by rw [hn]; exact Nat.le_trans (show _ ≤ 200000 by lia) (by decide), ?_, ?_, ?_, Kp.trans kp (Kp.heap0 (Sub.push _ _)), Kp.sub kp, Sub.push _ _, ?_, ?_, ?_, rfl⟩
  · have e : Builtin.Range.rangeSize a b 1 = ((((rng a (b - a).toNat).map T.int).length : Nat) : Int) - ((0 : Nat) : Int) := by
      rw [rangeSize_one, hn]; split <;> lia
    show IsRangeIter (s₁.heap.push _) s₁.heap.objs.size (a + ((0 : Nat) : Int) * 1) _ 1
    rw [show a + ((0 : Nat) : Int) * 1 = a by simp, ← e]
    exact Heap.get?_push_size _ rfl
  · intro b hb
    rw [List.mem_singleton.mp hb]
    show _ < (s₁.heap.push _).objs.size
    rw [Heap.size_push]
    exact Nat.lt_succ_self _
  · intro i g st b hb
    rw [List.mem_singleton.mp hb]; exact ⟨_, st⟩
  · intro b hb
    rw [List.mem_singleton.mp hb]
    exact Heap.get?_none_of_le (Nat.le_refl _)
  · intro b hb
    rw [List.mem_singleton.mp hb]
    exact Live.fresh lv
  · rintro i v ⟨hi, t, rfl⟩
    rw [hn] at hi
    refine ⟨.int (a + i), ?_, ?_⟩
    · rw [List.getElem?_map, rng_get _ _ _ hi]; rfl
    · rw [show a + (i : Int) * 1 = a + i by lia]; exact .int _ _

theorem Src.range1 {f : Str} {np pos : Pos} {e : Expr} {n : Int} (hh : A.handled = none) (l : Loads env h f (.type "range")) (x : Ev prog w A env X h e (.int n)) (h0 : -100000 ≤ n) (h1 : n ≤ 100000)
    (hst : starEach [e] env = (false, eval e env) :: starEach [] env) : Src prog w A env X h (.Call (.Name f np) [e] [] pos) ((rng 0 n.toNat).map T.int) := fun s E Q q lv k => by
  refine wpAny_Call_NameR (l _ _ _ _ _ _ q ?_)
  refine PyProof.Rows.callWith_type1 (wpAny_mono ((Evs.cons x Evs.nil hst) pos s E q lv) (fun vs s₁ h₁ => ?_) fun _ _ e => e) hst rfl
  obtain ⟨r, kp⟩ := h₁
  obtain ⟨v, rfl, rv⟩ := reps1 r
  obtain ⟨_, rfl⟩ := rep_int rv
  refine call_range_1 ?_
  refine src_range_at (s := s) hh ((lv.mono (Kp.sub kp)).mono (Sub.push _ _)) (Kp.trans kp (Kp.heap _ (Sub.push _ _))) (IsRange.new ..) (by lia) (by lia) h0 h1 fun it s₂ x => k it s₂ ?_
  rw [Int.sub_zero] at x
  exact x
theorem Src.range2 {f : Str} {np pos : Pos} {e e' : Expr} {a n : Int} (hh : A.handled = none) (l : Loads env h f (.type "range")) (x : Ev prog w A env X h e (.int a)) (x' : Ev prog w A env X h e' (.int n)) (h0 : -100000 ≤ n) (h1 : n ≤ 100000) (a0 : -100000 ≤ a) (a1 : a ≤ 100000)
    (hst : starEach [e, e'] env = (false, eval e env) :: starEach [e'] env) (hst' : starEach [e'] env = (false, eval e' env) :: starEach [] env) : Src prog w A env X h (.Call (.Name f np) [e, e'] [] pos) ((rng a (n - a).toNat).map T.int) := fun s E Q q lv k => by
  refine wpAny_Call_NameR (l _ _ _ _ _ _ q ?_)
  refine PyProof.Rows.callWith_type1 (wpAny_mono ((Evs.cons x (Evs.cons x' Evs.nil hst') hst) pos s E q lv) (fun vs s₁ h₁ => ?_) fun _ _ e => e) hst (by rw [hst']; rfl)
  obtain ⟨r, kp⟩ := h₁
  obtain ⟨v, v', rfl, rv, rv'⟩ := reps2 r
  obtain ⟨_, rfl⟩ := rep_int rv; obtain ⟨_, rfl⟩ := rep_int rv'
  refine call_range_2 ?_
  exact src_range_at (s := s) hh ((lv.mono (Kp.sub kp)).mono (Sub.push _ _)) (Kp.trans kp (Kp.heap _ (Sub.push _ _))) (IsRange.new ..) a0 a1 h0 h1 k

end
end Mine
end

-- F6
section
open PySem PySem.W PyProof.Rows
set_option linter.unusedVariables false
namespace Mine

theorem isList_inj {h : Heap} {a : Addr} {x y : Array Value} (p : h.IsList a x) (q : h.IsList a y) : x = y := by
  obtain ⟨o, ho, _, n, hd⟩ := p
  obtain ⟨o', ho', _, n', hd'⟩ := q
  rw [ho] at ho'; cases ho'
  rw [hd] at hd'; cases hd'; rfl
theorem isTup_inj {h : Heap} {a : Addr} {x y : Array Value} (p : IsTup h a x) (q : IsTup h a y) : x = y := by
  obtain ⟨o, ho, _, n, hd⟩ := p
  obtain ⟨o', ho', _, n', hd'⟩ := q
  rw [ho] at ho'; cases ho'
  rw [hd] at hd'; cases hd'; rfl
theorem list_not_tup {h : Heap} {a : Addr} {x y : Array Value} (p : h.IsList a x) (q : IsTup h a y) : False := by
  obtain ⟨o, ho, hc, _⟩ := p
  obtain ⟨o', ho', hc', _⟩ := q
  rw [ho] at ho'; cases ho'
  rw [hc] at hc'
  exact absurd (Value.type.inj hc') (by decide)
mutual
theorem Rep.inj {X : List Addr} {h : Heap} {v : Value} {t t' : T} (p : Rep X h v t) (q : Rep X h v t') : t = t' := by
  cases p with
  | none => cases q; rfl
  | bool => cases q; rfl
  | int => cases q; rfl
  | str => cases q; rfl
  | list n l r =>
    cases q with
    | list n' l' r' =>
      have e := isList_inj l.isList l'.isList
      have e' := congrArg Array.toList e
      simp only at e'
      subst e'
      rw [Reps.inj r r']
    | tup n' l' r' => exact (list_not_tup l.isList l').elim
  | tup n l r =>
    cases q with
    | tup n' l' r' =>
      have e := isTup_inj l l'
      have e' := congrArg Array.toList e
      simp only at e'
      subst e'
      rw [Reps.inj r r']
    | list n' l' r' => exact (list_not_tup l'.isList l).elim
theorem Reps.inj {X : List Addr} {h : Heap} {vs : List Value} {ts ts' : List T} (p : Reps X h vs ts) (q : Reps X h vs ts') : ts = ts' := by
  cases p with
  | nil => cases q; rfl
  | cons a r => cases q with | cons a' r' => rw [Rep.inj a a', Reps.inj r r']
end

section
variable {prog : Program} {w : World} {A : Around} {env : Env} {X : List Addr} {h : Heap}

/-- the conditions of a comprehension -/
noncomputable def Tests (prog : Program) (w : World) (A : Around) (env : Env) (X : List Addr) (h : Heap) (ifs : List Expr) (b : Bool) : Prop :=
  ∀ (s : Shared) (E : Value → Shared → Prop), Sub h s.heap → Live X s.heap →
    wpAny (model prog w) A (forIn ifs true fun c r => if r = true then do let ok ← isTrue c env (eval c env); pure (ForInStep.yield ok) else pure (ForInStep.yield r)) (fun r s' => r = b ∧ Keeps s s') E s
theorem Tests.nil : Tests prog w A env X h [] true := fun s E q lv => wpAny_tests_nil ⟨rfl, Kp.refl s⟩
theorem Tests.one {c : Expr} {b : Bool} (x : Tr prog w A env X h c b) : Tests prog w A env X h [c] b := fun s E q lv => wpAny_tests_one (x s E q lv)

open Classical in
theorem comp_core {elt iter : Expr} {x : Str} {px : Pos} {ifs : List Expr} {scope : Scope} {cl : List (Str × Addr)} {pos p' : Pos} {ts : List T} (pz : T → Bool) (f : T → Int)
    (hclos : closureFor scope env = pure cl) (hcell : ∀ y ∈ scope.names, y.2 ≠ .cell) (hkind : scope.kind = .function)
    (hnames : ∀ y ∈ scope.names, y.2 = .local → scope.names.lookup y.1 = some .local) (hx : scope.names.lookup x = some .local)
    (hs : ∀ x, foldedSetIterable iter env x = pure x)
    (src : Src prog w A env X h iter ts)
    (tests : ∀ (C : Addr) (h' : Heap) (m : Str → Option Value) (v : Value) (t : T), t ∈ ts → Sub h h' → h'.Ns C m → m x = some v → Rep X h' v t → Tests prog w A (compEnvC scope cl C env) X h' ifs (pz t))
    (elts : ∀ (C : Addr) (h' : Heap) (m : Str → Option Value) (v : Value) (t : T), t ∈ ts → pz t = true → Sub h h' → h'.Ns C m → m x = some v → Rep X h' v t → Ev prog w A (compEnvC scope cl C env) X h' elt (.int (f t)))
    {use : Option (Value → Sem Unit)} {Q : Value → Shared → Prop} {s : Shared} {E : Value → Shared → Prop} (q : Sub h s.heap) (lv : Live X s.heap)
    (fin : ∀ (D C : Addr) (h' : Heap) (tk : Nat) (m' : Str → Option Value) (ys : List Value), s.heap.get? D = none → s.heap.get? C = none → D ≠ C → h'.Ns C m' → h'.IsList D ys.toArray → h'.PlainList D ys.toArray → IntsAre ys ((ts.filter pz).map f) → Sub s.heap h' →
      compPost (model prog w) A E use Q (.ref D) C (.ok .next) { s with heap := h', toks := tk }) :
    wpAny (model prog w) A (comprehension (.ListComp elt [⟨.Name x px, iter, ifs, 0⟩] scope pos) scope env p' (newList []) false (eval iter env) use) Q E s := by
  refine wpAny_comprehension_free (use := use) rfl hs hclos hkind hnames (src s E _ q lv fun it s₂ hat => ?_)
  obtain ⟨h₁, I, fp, wr, P, St, rfl, W, hsz, hst, hfp, hlive, kp, sb₁, sb₂, hwr, hX, hP, _⟩ := hat
  let p : Value → Bool := fun v => decide (∃ t, Rep X h₁ v t ∧ pz t = true)
  let F : Value → Value → Prop := fun v y => ∃ t tk, Rep X h₁ v t ∧ y = .int (f t) tk
  have pOf : ∀ {v t}, Rep X h₁ v t → p v = pz t := fun {v t} r => by
    cases hz : pz t with
    | true => exact decide_eq_true ⟨t, r, hz⟩
    | false => exact decide_eq_false fun ⟨t', r', hz'⟩ => by rw [Rep.inj r r', hz'] at hz; cases hz
  have up : ∀ s₃ : Shared, (∀ b o, b ∉ wr → s₂.heap.get? b = some o → s₃.heap.get? b = some o) → Sub h₁ s₃.heap := fun s₃ hk b o e =>
    hk b o (fun m => by rw [hwr b m] at e; cases e) (sb₂ b o e)
  have hq : QuietOnC prog w A env scope cl x ifs elt wr P p F s₂ := by
    refine ⟨?_, ?_⟩
    · intro C i v s₃ m₃ E' hC hPv hn hm hk htk
      obtain ⟨t, ht, rv⟩ := hP i v hPv
      have u := up s₃ hk
      refine wpAny_mono (tests C s₃.heap m₃ v t (List.mem_of_getElem? ht) ((q.trans sb₁).trans u) hn hm (rv.mono u) s₃ E' (Sub.refl _) ((lv.mono sb₁).mono u)) (fun ok s₄ h₄ => ⟨?_, h₄.2⟩) fun _ _ e => e
      rw [h₄.1, pOf rv]
    · intro C i v s₃ m₃ E' hC hPv hp hn hm hk htk
      obtain ⟨t, ht, rv⟩ := hP i v hPv
      have u := up s₃ hk
      rw [pOf rv] at hp
      refine wpAny_mono (elts C s₃.heap m₃ v t (List.mem_of_getElem? ht) hp ((q.trans sb₁).trans u) hn hm (rv.mono u) s₃ E' (Sub.refl _) ((lv.mono sb₁).mono u)) (fun y s₄ h₄ => ⟨?_, h₄.2⟩) fun _ _ e => e
      have := h₄.1
      obtain ⟨_, rfl⟩ := rep_int this
      exact ⟨t, _, rv, rfl⟩
  refine comp_block_walkC (RR := fun acc C => compPost (model prog w) A E use Q acc C) W hsz p F hcell hkind hx hst hfp hq ?_
  intro D C h' tk m' ys vs hD hC hDC hn hl hpl hlen hPs hF hk
  have hall : ∀ (ts : List T) (vs : List Value) (zs : List Value), vs.length = ts.length → (∀ (j : Nat) v, vs[j]? = some v → ∃ t, ts[j]? = some t ∧ Rep X h₁ v t) → Paired F (vs.filter p) zs → IntsAre zs ((ts.filter pz).map f) := by
    intro ts
    induction ts with
    | nil =>
      intro vs zs hl _ hF
      cases vs with
      | nil => cases hF; exact .nil
      | cons => simp at hl
    | cons t ts ih =>
      intro vs zs hl hPs hF
      cases vs with
      | nil => simp at hl
      | cons v vs =>
        obtain ⟨t', e', rv⟩ := hPs 0 v rfl
        simp at e'
        subst e'
        have hPs' : ∀ (j : Nat) v, vs[j]? = some v → ∃ t, ts[j]? = some t ∧ Rep X h₁ v t := fun j u hj => by simpa using hPs (j + 1) u (by simpa using hj)
        have hpv := pOf rv
        cases hz : pz t with
        | true =>
          rw [hz] at hpv
          rw [List.filter_cons, if_pos hpv] at hF
          rw [List.filter_cons, if_pos hz]
          cases hF with
          | cons a r =>
            obtain ⟨t'', tk, rv', rfl⟩ := a
            rw [Rep.inj rv' rv]
            exact .cons _ _ (ih vs _ (by simpa using hl) hPs' r)
        | false =>
          rw [hz] at hpv
          rw [List.filter_cons, if_neg (by rw [hpv]; exact Bool.false_ne_true)] at hF
          rw [List.filter_cons, if_neg (by rw [hz]; exact Bool.false_ne_true)]
          exact ih vs zs (by simpa using hl) hPs' hF
  have hi := hall ts vs ys.toList hlen (fun j v e => hP j v (hPs j v e)) hF
  have keep : Sub s.heap h' := fun b o e => hk b o (fun m => by have := sb₁ b o e; rw [hwr b m] at this; cases this) (sb₂ _ _ (sb₁ _ _ e))
  have old : ∀ {b : Addr}, s₂.heap.get? b = none → s.heap.get? b = none := fun {b} e => by
    cases q : s.heap.get? b with
    | none => rfl
    | some o => rw [sb₂ _ _ (sb₁ _ _ q)] at e; cases e
  obtain ⟨h₂, tk₂, rfl, _⟩ := kp
  exact fin D C h' tk m' ys.toList (old hD) (old hC) hDC hn (by simpa using hl) (by simpa using hpl) hi keep

theorem Ev.comp {elt iter : Expr} {x : Str} {px : Pos} {ifs : List Expr} {scope : Scope} {cl : List (Str × Addr)} {pos : Pos} {ts : List T} (pz : T → Bool) (f : T → Int)
    (hclos : closureFor scope env = pure cl) (hcell : ∀ y ∈ scope.names, y.2 ≠ .cell) (hkind : scope.kind = .function)
    (hnames : ∀ y ∈ scope.names, y.2 = .local → scope.names.lookup y.1 = some .local) (hx : scope.names.lookup x = some .local)
    (hs : ∀ x, foldedSetIterable iter env x = pure x)
    (src : Src prog w A env X h iter ts)
    (tests : ∀ (C : Addr) (h' : Heap) (m : Str → Option Value) (v : Value) (t : T), t ∈ ts → Sub h h' → h'.Ns C m → m x = some v → Rep X h' v t → Tests prog w A (compEnvC scope cl C env) X h' ifs (pz t))
    (elts : ∀ (C : Addr) (h' : Heap) (m : Str → Option Value) (v : Value) (t : T), t ∈ ts → pz t = true → Sub h h' → h'.Ns C m → m x = some v → Rep X h' v t → Ev prog w A (compEnvC scope cl C env) X h' elt (.int (f t))) :
    Ev prog w A env X h (.ListComp elt [⟨.Name x px, iter, ifs, 0⟩] scope pos) (.list (((ts.filter pz).map f).map .int)) := fun s E q lv => by
  rw [eval_ListComp]
  refine comp_core pz f hclos hcell hkind hnames hx hs src tests elts q lv fun D C h' tk m' ys hD hC hDC hn hl hpl hi keep => ?_
  refine ⟨m', hn, fun h'' hs'' => ⟨?_, ?_⟩⟩
  · refine .list (vs := ys) ?_ (hpl.extBut hs''.extBut hDC) (ints_reps hi)
    intro m
    obtain ⟨o, ho⟩ := lv D m
    rw [hD] at ho; cases ho
  · exact ⟨h'', tk, rfl, fun b o e => hs''.extBut b o (by rintro rfl; rw [hC] at e; cases e) (keep b o e)⟩
end
end Mine
end

-- F7
section
open PySem PySem.W PyProof.Rows
set_option linter.unusedVariables false
namespace Mine

noncomputable abbrev Mu := List (Str × Addr × List T)
/-- the cells that the frame itself made -/
noncomputable def oc (env : Env) : List (Str × Addr) := env.cells.filter fun p => env.kindOf p.1 == some .cell
noncomputable def own (env : Env) (μ : Mu) : List Addr := env.locals :: ((oc env).map (·.2) ++ μ.map (·.2.1))

/-- x holds v -/
noncomputable def Var (env : Env) (h : Heap) (x : Str) (v : Value) : Prop :=
  (env.kindOf x = some .local ∧ ∃ m, h.Ns env.locals m ∧ m x = some v) ∨ (env.kindOf x = some .cell ∧ ∃ c, env.cells.lookup x = some c ∧ h.IsCell c (some v))
theorem Var.mono {env : Env} {h h' : Heap} {x : Str} {v : Value} (p : Var env h x v) (q : Sub h h') : Var env h' x v :=
  p.elim (fun ⟨k, m, n, e⟩ => .inl ⟨k, m, n.keeps q, e⟩) fun ⟨k, c, l, e⟩ => .inr ⟨k, c, l, e.keeps q⟩
theorem Var.loads {env : Env} {h : Heap} {x : Str} {v : Value} (p : Var env h x v) (hk : env.scope.kind = .function) (hd : (x == ("__debug__" : Str)) = false) : Loads env h x v :=
  p.elim (fun ⟨k, m, n, e⟩ => loads_local n e hk k hd) fun ⟨k, c, l, e⟩ => loads_cell l e hk k hd

structure Sta (Xc X : List Addr) (env : Env) (σ : Str → Option T) (μ : Mu) (h₀ : Heap) (s₀ s : Shared) : Prop where
  sh : ∃ h' tk, s = { s₀ with heap := h', toks := tk }
  keep : Sub h₀ s.heap
  frame : ∃ m, s.heap.Ns env.locals m
  cells : ∀ p ∈ oc env, ∃ v, s.heap.IsCell p.2 v
  vars : ∀ x t, σ x = some t → ∃ v, Var env s.heap x v ∧ Rep X s.heap v t
  muts : ∀ p ∈ μ, Var env s.heap p.1 (.ref p.2.1) ∧ ∃ vs : List Value, s.heap.PlainList p.2.1 vs.toArray ∧ Reps X s.heap vs p.2.2
  sep : (own env μ).Nodup
  sub : ∀ a ∈ own env μ, a ∈ X
  cal : ∀ a ∈ Xc, a ∈ X
  live : Live X s.heap
  off : ∀ a ∈ own env μ, h₀.get? a = none
  nw : ∀ a ∈ X, a ∈ Xc ∨ h₀.get? a = none

noncomputable def upd (σ : Str → Option T) (x : Str) (t : T) : Str → Option T := fun y => if y = x then some t else σ y

section
variable {prog : Program} {w : World} {A : Around} {env : Env} {Xc X : List Addr} {σ : Str → Option T} {μ : Mu} {h₀ h : Heap} {s₀ s s' : Shared} {x : Str}

theorem Sta.sub' (S : Sta Xc X env σ μ h₀ s₀ s) : Sub h₀ s.heap := S.keep
theorem Sta.grow (S : Sta Xc X env σ μ h₀ s₀ s) (k : Keeps s s') : Sta Xc X env σ μ h₀ s₀ s' where
  sh := by obtain ⟨a, b, rfl⟩ := S.sh; obtain ⟨c, d, rfl, _⟩ := k; exact ⟨c, d, rfl⟩
  keep := S.keep.trans (Kp.sub k)
  frame := let ⟨m, n⟩ := S.frame; ⟨m, n.keeps (Kp.sub k)⟩
  cells := fun p hp => let ⟨v, e⟩ := S.cells p hp; ⟨v, e.keeps (Kp.sub k)⟩
  vars := fun x t e => let ⟨v, a, b⟩ := S.vars x t e; ⟨v, a.mono (Kp.sub k), b.mono (Kp.sub k)⟩
  muts := fun p hp => let ⟨a, vs, b, c⟩ := S.muts p hp; ⟨a.mono (Kp.sub k), vs, b.at fun o e => Kp.sub k _ o e, c.mono (Kp.sub k)⟩
  sep := S.sep
  sub := S.sub
  cal := S.cal
  live := S.live.mono (Kp.sub k)
  off := S.off
  nw := S.nw
theorem Sta.rebase (S : Sta Xc X env σ μ h₀ s₀ s) : ∃ g, Sub h₀ g ∧ Sub g s.heap ∧ (∀ b o, b ∉ own env μ → s.heap.get? b = some o → g.get? b = some o) ∧ Sta X X env σ μ g s s :=
  ⟨hideAll s.heap (own env μ), fun b o e => hideAll_get _ (S.keep b o e) (fun m => by rw [S.off b m] at e; cases e), fun b o e => of_hideAll _ e, fun b o n e => hideAll_get _ e n,
    { sh := ⟨s.heap, s.toks, rfl⟩, keep := fun b o e => of_hideAll _ e, frame := S.frame, cells := S.cells, vars := S.vars, muts := S.muts, sep := S.sep, sub := S.sub, cal := fun _ m => m, live := S.live, off := fun a m => hideAll_none _ m, nw := fun _ m => .inl m }⟩
theorem Sta.back {g : Heap} {Y : List Addr} (S : Sta Y X env σ μ g s s') (q : Sub h₀ g) (hY : ∀ a ∈ Xc, a ∈ Y) (hw : ∀ a ∈ Y, a ∈ Xc ∨ h₀.get? a = none) (hs : ∃ h' tk, s = { s₀ with heap := h', toks := tk }) : Sta Xc X env σ μ h₀ s₀ s' := by
  have no : ∀ a, g.get? a = none → h₀.get? a = none := fun a e => by
    cases z : h₀.get? a with
    | none => rfl
    | some o => rw [q a o z] at e; cases e
  refine { S with sh := ?_, keep := q.trans S.keep, off := fun a m => no a (S.off a m), cal := fun a m => S.cal a (hY a m), nw := fun a m => (S.nw a m).elim (hw a) fun e => .inr (no a e) }
  obtain ⟨a, b, rfl⟩ := hs; obtain ⟨c, d, rfl⟩ := S.sh; exact ⟨c, d, rfl⟩
theorem Sta.drop {ν : Mu} (S : Sta Xc X env σ μ h₀ s₀ s) (q : ν.Sublist μ) : Sta Xc X env σ ν h₀ s₀ s := by
  have hs : (own env ν).Sublist (own env μ) := .cons_cons _ ((List.Sublist.refl _).append (q.map _))
  exact { S with muts := fun p hp => S.muts p (q.subset hp), sep := S.sep.sublist hs, sub := fun a m => S.sub a (hs.subset m), off := fun a m => S.off a (hs.subset m) }

theorem Sta.name (S : Sta Xc X env σ μ h₀ s₀ s) {x : Str} {t : T} {pos : Pos} (e : σ x = some t) (hk : env.scope.kind = .function) (hd : (x == ("__debug__" : Str)) = false) : Ev prog w A env X s.heap (.Name x pos) t :=
  let ⟨v, a, b⟩ := S.vars x t e; Ev.name (a.loads hk hd) b
theorem rep_free {v : Value} {t : T} (r : Rep X h v t) : Rep [] h v t := r.weaken fun a m => nomatch m
theorem reps_free {v : List Value} {t : List T} (r : Reps X h v t) : Reps [] h v t := r.weaken fun a m => nomatch m
theorem Ev.free {e : Expr} {t : T} (lv : Live X h) (x : Ev prog w A env X h e t) : Ev prog w A env [] h e t := fun s E q _ => wpAny_mono (x s E q (lv.mono q)) (fun v s' r => ⟨rep_free r.1, r.2⟩) fun _ _ e => e
theorem Sta.nameF (S : Sta Xc X env σ μ h₀ s₀ s) {x : Str} {t : T} {pos : Pos} (e : σ x = some t) (hk : env.scope.kind = .function) (hd : (x == ("__debug__" : Str)) = false) : Ev prog w A env [] s.heap (.Name x pos) t :=
  Ev.free S.live (S.name e hk hd)
theorem Sta.mutF (S : Sta Xc X env σ μ h₀ s₀ s) {x : Str} {a : Addr} {ts : List T} {pos : Pos} (e : (x, a, ts) ∈ μ) (hk : env.scope.kind = .function) (hd : (x == ("__debug__" : Str)) = false) : Ev prog w A env [] s.heap (.Name x pos) (.list ts) :=
  let ⟨v, vs, p, r⟩ := S.muts _ e; Ev.name (v.loads hk hd) (.list (fun m => nomatch m) p (reps_free r))
noncomputable def plainT : T → Bool
  | .list _ => false
  | .tup _ => false
  | _ => true
theorem rep_plain {Y : List Addr} {h' : Heap} {v : Value} {t : T} (r : Rep X h v t) (p : plainT t = true) : Rep Y h' v t := by
  cases r with
  | none => exact .none
  | bool => exact .bool _
  | int => exact .int _ _
  | str => exact .str _ _
  | list => cases p
  | tup => cases p
theorem Ev.plain {e : Expr} {t : T} (x : Ev prog w A env [] h e t) (p : plainT t = true) : Ev prog w A env X h e t := fun s E q _ => wpAny_mono (x s E q fun a m => nomatch m) (fun v s' r => ⟨rep_plain r.1 p, r.2⟩) fun _ _ e => e

theorem mem_of_look {α β : Type} [BEq α] [LawfulBEq α] {x : α} {c : β} : ∀ {l : List (α × β)}, l.lookup x = some c → (x, c) ∈ l
  | [], e => by cases e
  | (y, d) :: r, e => by
    rw [List.lookup_cons] at e
    cases hb : x == y with
    | true => rw [hb] at e; cases e; rw [eq_of_beq hb]; exact .head _
    | false => rw [hb] at e; exact .tail _ (mem_of_look e)
theorem mem_oc {x : Str} {c : Addr} (k : env.kindOf x = some .cell) (e : env.cells.lookup x = some c) : (x, c) ∈ oc env := List.mem_filter.mpr ⟨mem_of_look e, by rw [k]; rfl⟩
theorem cell_own {x : Str} {c : Addr} (k : env.kindOf x = some .cell) (e : env.cells.lookup x = some c) : c ∈ own env μ := List.mem_cons_of_mem _ (List.mem_append_left _ (List.mem_map_of_mem (f := fun p : Str × Addr => p.2) (mem_oc k e)))
theorem inj_snd {α β : Type} : ∀ {l : List (α × β)}, (l.map (·.2)).Nodup → ∀ {a b : α} {c : β}, (a, c) ∈ l → (b, c) ∈ l → a = b
  | [], _, _, _, _, m, _ => by cases m
  | (y, d) :: r, n, a, b, c, m, m' => by
    rw [List.map_cons, List.nodup_cons] at n
    rcases List.mem_cons.mp m with e | m
    · rcases List.mem_cons.mp m' with e' | m'
      · cases e; cases e'; rfl
      · cases e; exact absurd (List.mem_map_of_mem (f := fun p : α × β => p.2) m') n.1
    · rcases List.mem_cons.mp m' with e' | m'
      · cases e'; exact absurd (List.mem_map_of_mem (f := fun p : α × β => p.2) m) n.1
      · exact inj_snd n.2 m m'

/-- an object of X that is not the frame's own changes -/
theorem Sta.touch (S : Sta Xc X env σ μ h₀ s₀ s) {c : Addr} {h' : Heap} (tk : Nat) (hc : c ∈ X) (hn : c ∉ own env μ) (h0 : h₀.get? c = none) (hk : ∀ b o, b ≠ c → s.heap.get? b = some o → h'.get? b = some o) (hl : ∃ o, h'.get? c = some o) :
    Sta Xc X env σ μ h₀ s₀ { s with heap := h', toks := tk } := by
  have ap : ∀ b o, b ∉ X → s.heap.get? b = some o → h'.get? b = some o := fun b o nb e => hk b o (fun q => nb (q ▸ hc)) e
  have nl : env.locals ≠ c := fun q => hn (q ▸ List.mem_cons_self ..)
  have hv : ∀ x v, Var env s.heap x v → Var env h' x v := fun x v p => p.elim
    (fun ⟨k, m, n, e⟩ => .inl ⟨k, m, n.at' fun o e => hk _ o nl e, e⟩)
    (fun ⟨k, c', l, e⟩ => .inr ⟨k, c', l, by obtain ⟨o, ho, hd⟩ := e; exact ⟨o, hk _ o (fun q => hn (q ▸ cell_own k l)) ho, hd⟩⟩)
  refine { sh := ?_, keep := ?_, frame := ?_, cells := ?_, vars := ?_, muts := ?_, sep := S.sep, sub := S.sub, cal := S.cal, live := ?_, off := S.off, nw := S.nw }
  · obtain ⟨c, d, e⟩ := S.sh; exact ⟨h', tk, by rw [e]⟩
  · exact fun b o e => hk b o (fun q => by rw [q, h0] at e; cases e) (S.keep b o e)
  · obtain ⟨m, n⟩ := S.frame; exact ⟨m, n.at' fun o e => hk _ o nl e⟩
  · intro p hp
    obtain ⟨v, o, ho, hd⟩ := S.cells p hp
    exact ⟨v, o, hk _ o (fun q => hn (q ▸ List.mem_cons_of_mem _ (List.mem_append_left _ (List.mem_map_of_mem (f := fun p : Str × Addr => p.2) hp)))) ho, hd⟩
  · intro x t e
    obtain ⟨v, a, b⟩ := S.vars x t e
    exact ⟨v, hv _ _ a, b.apart ap⟩
  · intro p hp
    obtain ⟨a, vs, b, d⟩ := S.muts p hp
    exact ⟨hv _ _ a, vs, b.at fun o e => hk _ o (fun q => hn (q ▸ List.mem_cons_of_mem _ (List.mem_append_right _ (List.mem_map_of_mem (f := fun p : Str × Addr × List T => p.2.1) hp)))) e, d.apart ap⟩
  · intro b hb
    by_cases q : b = c
    · exact q ▸ hl
    · obtain ⟨o, e⟩ := S.live b hb
      exact ⟨o, hk b o q e⟩
/-- a new object joins X -/
theorem Sta.more (S : Sta Xc X env σ μ h₀ s₀ s) {c : Addr} (hc : s.heap.get? c = none) (k : Keeps s s') (hl : ∃ o, s'.heap.get? c = some o) : Sta Xc (c :: X) env σ μ h₀ s₀ s' := by
  have wk : ∀ a, a ∈ c :: X → a ∈ X ∨ s.heap.get? a = none := fun a m => (List.mem_cons.mp m).elim (fun e => .inr (e ▸ hc)) .inl
  have G := S.grow k
  refine { G with vars := ?_, muts := ?_, sub := fun a m => List.mem_cons_of_mem _ (S.sub a m), cal := fun a m => List.mem_cons_of_mem _ (S.cal a m), live := ?_, nw := ?_ }
  · intro x t e
    obtain ⟨v, a, b⟩ := S.vars x t e
    exact ⟨v, a.mono (Kp.sub k), (b.weaken wk).mono (Kp.sub k)⟩
  · intro p hp
    obtain ⟨a, vs, b, d⟩ := S.muts p hp
    exact ⟨a.mono (Kp.sub k), vs, b.at fun o e => Kp.sub k _ o e, (d.weaken wk).mono (Kp.sub k)⟩
  · intro a m
    rcases List.mem_cons.mp m with e | m
    · exact e ▸ hl
    · exact G.live a m
  · intro a m
    rcases List.mem_cons.mp m with e | m
    · refine .inr ?_
      cases z : h₀.get? a with
      | none => rfl
      | some o => rw [e] at z; rw [S.keep c o z] at hc; cases hc
    · exact S.nw a m

/-- an object of X is given up -/
theorem Sta.lose (S : Sta Xc X env σ μ h₀ s₀ s) {c : Addr} {h' : Heap} (tk : Nat) (hc : c ∈ X) (hn : c ∉ own env μ) (hcX : c ∉ Xc) (h0 : h₀.get? c = none) (hk : ∀ b o, b ≠ c → s.heap.get? b = some o → h'.get? b = some o) :
    Sta Xc (X.filter (fun b => decide (b ≠ c))) env σ μ h₀ s₀ { s with heap := h', toks := tk } := by
  have ap : ∀ b o, b ∉ X → s.heap.get? b = some o → h'.get? b = some o := fun b o nb e => hk b o (fun q => nb (q ▸ hc)) e
  have nl : env.locals ≠ c := fun q => hn (q ▸ List.mem_cons_self ..)
  have hv : ∀ x v, Var env s.heap x v → Var env h' x v := fun x v p => p.elim
    (fun ⟨k, m, n, e⟩ => .inl ⟨k, m, n.at' fun o e => hk _ o nl e, e⟩)
    (fun ⟨k, c', l, e⟩ => .inr ⟨k, c', l, by obtain ⟨o, ho, hd⟩ := e; exact ⟨o, hk _ o (fun q => hn (q ▸ cell_own k l)) ho, hd⟩⟩)
  have wk : ∀ a, a ∈ X.filter (fun b => decide (b ≠ c)) → a ∈ X ∨ h'.get? a = none := fun a m => .inl (List.mem_filter.mp m).1
  refine { sh := ?_, keep := ?_, frame := ?_, cells := ?_, vars := ?_, muts := ?_, sep := S.sep, sub := ?_, cal := ?_, live := ?_, off := S.off, nw := fun a m => S.nw a (List.mem_filter.mp m).1 }
  · obtain ⟨c, d, e⟩ := S.sh; exact ⟨h', tk, by rw [e]⟩
  · exact fun b o e => hk b o (fun q => by rw [q, h0] at e; cases e) (S.keep b o e)
  · obtain ⟨m, n⟩ := S.frame; exact ⟨m, n.at' fun o e => hk _ o nl e⟩
  · intro p hp
    obtain ⟨v, o, ho, hd⟩ := S.cells p hp
    exact ⟨v, o, hk _ o (fun q => hn (q ▸ List.mem_cons_of_mem _ (List.mem_append_left _ (List.mem_map_of_mem (f := fun p : Str × Addr => p.2) hp)))) ho, hd⟩
  · intro x t e
    obtain ⟨v, a, b⟩ := S.vars x t e
    exact ⟨v, hv _ _ a, (b.apart ap).weaken wk⟩
  · intro p hp
    obtain ⟨a, vs, b, d⟩ := S.muts p hp
    exact ⟨hv _ _ a, vs, b.at fun o e => hk _ o (fun q => hn (q ▸ List.mem_cons_of_mem _ (List.mem_append_right _ (List.mem_map_of_mem (f := fun p : Str × Addr × List T => p.2.1) hp)))) e, (d.apart ap).weaken wk⟩
  · intro a m
    exact List.mem_filter.mpr ⟨S.sub a m, decide_eq_true fun q => hn (q ▸ m)⟩
  · intro a m
    exact List.mem_filter.mpr ⟨S.cal a m, decide_eq_true fun q => hcX (q ▸ m)⟩
  · intro b hb
    obtain ⟨m, q⟩ := List.mem_filter.mp hb
    obtain ⟨o, e⟩ := S.live b m
    exact ⟨o, hk b o (of_decide_eq_true q) e⟩

noncomputable def del (σ : Str → Option T) (x : Str) : Str → Option T := fun y => if y = x then none else σ y
/-- a store to a name -/
theorem Sta.storeRaw (S : Sta Xc X env σ μ h₀ s₀ s) {x : Str} {v : Value} {Q : Unit → Shared → Prop} {E : Value → Shared → Prop} (hk : env.scope.kind = .function)
    (hx : env.kindOf x = some .local ∨ (env.kindOf x = some .cell ∧ ∃ c, env.cells.lookup x = some c)) (hn : ∀ p ∈ μ, p.1 ≠ x)
    (k : ∀ s', Sta Xc X env (del σ x) μ h₀ s₀ s' → Var env s'.heap x v → (∀ b o, b ∉ own env [] → s.heap.get? b = some o → s'.heap.get? b = some o) → Q () s') : wpAny (model prog w) A (storeName env x v) Q E s := by
  have hnd := S.sep
  have own0 : ∀ a, a ∈ own env [] → a ∈ own env μ := fun a m => by
    unfold own at m ⊢
    rcases List.mem_cons.mp m with e | m
    · exact e ▸ List.mem_cons_self ..
    · simp at m; exact List.mem_cons_of_mem _ (List.mem_append_left _ (by simpa using m))
  have hcomm : ∀ (h' : Heap) (tk : Nat) (a : Addr), a ∈ own env [] → Heap.SameBut a s.heap h' → (∀ y u, y ≠ x → Var env s.heap y u → Var env h' y u) → Var env h' x v →
      (∃ m, h'.Ns env.locals m) → (∀ p ∈ oc env, ∃ v, h'.IsCell p.2 v) → (∀ p ∈ μ, p.2.1 ≠ a) → Q () { s with heap := h', toks := tk } := fun h' tk a ha0 hs hv hvx hfr hce hma => by
    have ha := own0 a ha0
    have ap : ∀ b o, b ∉ X → s.heap.get? b = some o → h'.get? b = some o := fun b o nb e => hs.extBut b o (fun q => nb (q ▸ S.sub a ha)) e
    refine k _ { sh := ?_, keep := ?_, frame := hfr, cells := hce, vars := ?_, muts := ?_, sep := S.sep, sub := S.sub, cal := S.cal, live := ?_, off := S.off, nw := S.nw } hvx (fun b o nb e => hs.extBut b o (fun q => nb (q ▸ ha0)) e)
    · obtain ⟨c, d, e⟩ := S.sh; exact ⟨h', tk, by rw [e]⟩
    · exact fun b o e => hs.extBut b o (fun q => by rw [q, S.off a ha] at e; cases e) (S.keep b o e)
    · intro y u e
      unfold del at e
      by_cases hy : y = x
      · rw [if_pos hy] at e; cases e
      · rw [if_neg hy] at e
        obtain ⟨v', a', b'⟩ := S.vars y u e
        exact ⟨v', hv y v' hy a', b'.apart ap⟩
    · intro p hp
      obtain ⟨a', vs, b', c'⟩ := S.muts p hp
      exact ⟨hv _ _ (hn p hp) a', vs, b'.extBut hs.extBut (hma p hp), c'.apart ap⟩
    · intro b hb
      obtain ⟨o, e⟩ := S.live b hb
      by_cases q : b = a
      · subst q
        rcases List.mem_cons.mp ha with e1 | e1
        · obtain ⟨m, n⟩ := hfr
          obtain ⟨o, _, _, ho, _⟩ := n
          exact ⟨o, e1 ▸ ho⟩
        · rcases List.mem_append.mp e1 with e2 | e2
          · obtain ⟨p, hp, rfl⟩ := List.mem_map.mp e2
            obtain ⟨v, o, ho, _⟩ := hce p hp
            exact ⟨o, ho⟩
          · obtain ⟨p, hp, e3⟩ := List.mem_map.mp e2
            exact absurd e3 (hma p hp)
      · exact ⟨o, hs.extBut b o q e⟩
  unfold own at hnd
  rw [List.nodup_cons] at hnd
  obtain ⟨hnL, hnR⟩ := hnd
  rcases hx with hx | ⟨hx, c, hc⟩
  · obtain ⟨m, n⟩ := S.frame
    refine wpAny_storeName_local hx n (fun h' n' hs => ?_) (by rw [hk]; rfl)
    refine hcomm h' _ env.locals (List.mem_cons_self ..) hs ?_ (.inl ⟨hx, _, n', by simp⟩) ⟨_, n'⟩ ?_ ?_
    · intro y u hy hv
      rcases hv with ⟨k1, m1, n1, e1⟩ | ⟨k1, c1, l1, e1⟩
      · refine .inl ⟨k1, _, n', ?_⟩
        rw [if_neg hy]
        obtain ⟨o1, es1, ep1, g1, d1, _, f1⟩ := n1
        obtain ⟨o2, es2, ep2, g2, d2, _, f2⟩ := n
        rw [g1] at g2; cases g2
        rw [d1] at d2; cases d2
        rw [← f2 y, f1 y, e1]
      · refine .inr ⟨k1, c1, l1, e1.sameBut hs ?_⟩
        rintro rfl
        exact hnL (List.mem_append_left _ (List.mem_map_of_mem (f := fun p : Str × Addr => p.2) (mem_oc k1 l1)))
    · intro p hp
      obtain ⟨v', e'⟩ := S.cells p hp
      refine ⟨v', e'.sameBut hs ?_⟩
      intro q
      exact hnL (q ▸ List.mem_append_left _ (List.mem_map_of_mem (f := fun p : Str × Addr => p.2) hp))
    · intro p hp q
      exact hnL (q ▸ List.mem_append_right _ (List.mem_map_of_mem (f := fun p : Str × Addr × List T => p.2.1) hp))
  · obtain ⟨v₀, e₀⟩ := S.cells _ (mem_oc hx hc)
    have hcL : c ≠ env.locals := fun q => hnL (q ▸ List.mem_append_left _ (List.mem_map_of_mem (f := fun p : Str × Addr => p.2) (mem_oc hx hc)))
    refine wpAny_storeName_cell hk hx hc e₀ fun h' n' hs => ?_
    have hnc : ((oc env).map (·.2)).Nodup := (List.nodup_append.mp hnR).1
    have := hcomm h' s.toks c (cell_own (μ := []) hx hc) hs ?_ (.inr ⟨hx, c, hc, n'⟩) ?_ ?_ ?_
    · exact this
    · intro y u hy hv
      rcases hv with ⟨k1, m1, n1, e1⟩ | ⟨k1, c1, l1, e1⟩
      · exact .inl ⟨k1, m1, n1.sameBut hs (Ne.symm hcL), e1⟩
      · refine .inr ⟨k1, c1, l1, e1.sameBut hs ?_⟩
        rintro rfl
        exact hy (inj_snd hnc (mem_oc k1 l1) (mem_oc hx hc))
    · obtain ⟨m, n⟩ := S.frame
      exact ⟨m, n.sameBut hs (Ne.symm hcL)⟩
    · intro p hp
      by_cases q : p.2 = c
      · exact ⟨_, q ▸ n'⟩
      · obtain ⟨v', e'⟩ := S.cells p hp
        exact ⟨v', e'.sameBut hs q⟩
    · intro p hp q
      exact (List.nodup_append.mp hnR).2.2 c (List.mem_map_of_mem (f := fun p : Str × Addr => p.2) (mem_oc hx hc)) p.2.1 (List.mem_map_of_mem (f := fun p : Str × Addr × List T => p.2.1) hp) q.symm
theorem Sta.put (S : Sta Xc X env (del σ x) μ h₀ s₀ s) {v : Value} {t : T} (hv : Var env s.heap x v) (r : Rep X s.heap v t) : Sta Xc X env (upd σ x t) μ h₀ s₀ s := by
  refine { S with vars := ?_ }
  intro y u e
  unfold upd at e
  by_cases hy : y = x
  · rw [if_pos hy] at e; cases e; exact ⟨v, hy ▸ hv, r⟩
  · rw [if_neg hy] at e; exact S.vars y u (by unfold del; rw [if_neg hy]; exact e)
theorem Sta.putMut (S : Sta Xc X env σ μ h₀ s₀ s) {a : Addr} {vs : List Value} {ts : List T} (hv : Var env s.heap x (.ref a)) (hp : s.heap.PlainList a vs.toArray) (r : Reps X s.heap vs ts) (hX : a ∈ X) (hn : a ∉ own env μ) (h0 : h₀.get? a = none) :
    Sta Xc X env σ ((x, a, ts) :: μ) h₀ s₀ s := by
  have hmem : ∀ b, b ∈ own env ((x, a, ts) :: μ) → b = a ∨ b ∈ own env μ := fun b m => by
    unfold own at m ⊢
    rcases List.mem_cons.mp m with e | m
    · exact .inr (e ▸ List.mem_cons_self ..)
    · rcases List.mem_append.mp m with m | m
      · exact .inr (List.mem_cons_of_mem _ (List.mem_append_left _ m))
      · rw [List.map_cons] at m
        rcases List.mem_cons.mp m with e | m
        · exact .inl e
        · exact .inr (List.mem_cons_of_mem _ (List.mem_append_right _ m))
  refine { S with muts := ?_, sep := ?_, sub := fun b m => (hmem b m).elim (fun e => e ▸ hX) (S.sub b), off := fun b m => (hmem b m).elim (fun e => e ▸ h0) (S.off b) }
  · intro p m
    rcases List.mem_cons.mp m with e | m
    · subst e; exact ⟨hv, vs, hp, r⟩
    · exact S.muts p m
  · have hs := S.sep
    have hp : (own env ((x, a, ts) :: μ)).Perm (a :: own env μ) := by
      unfold own
      rw [List.map_cons]
      exact (List.Perm.cons _ List.perm_middle).trans (List.Perm.swap ..)
    exact hp.nodup_iff.mpr (List.nodup_cons.mpr ⟨hn, hs⟩)
/-- a mutable list's items change -/
theorem Sta.setMut {l₁ l₂ : Mu} {a : Addr} {ts ts' : List T} {vs : List Value} {h' : Heap} (S : Sta Xc X env σ (l₁ ++ (x, a, ts) :: l₂) h₀ s₀ s) (hs : Heap.SameBut a s.heap h') (hp : h'.PlainList a vs.toArray) (r : Reps X s.heap vs ts') :
    Sta Xc X env σ (l₁ ++ (x, a, ts') :: l₂) h₀ s₀ { s with heap := h' } := by
  have eo : own env (l₁ ++ (x, a, ts') :: l₂) = own env (l₁ ++ (x, a, ts) :: l₂) := by unfold own; simp
  have hmem : a ∈ own env (l₁ ++ (x, a, ts) :: l₂) := by unfold own; simp
  have hnd := S.sep
  unfold own at hnd
  rw [List.map_append, List.map_cons] at hnd
  have haX := S.sub a hmem
  have ap : ∀ b o, b ∉ X → s.heap.get? b = some o → h'.get? b = some o := fun b o nb e => hs.extBut b o (fun q => nb (q ▸ haX)) e
  rw [List.nodup_cons] at hnd
  obtain ⟨hnL, hnR⟩ := hnd
  have nl : env.locals ≠ a := fun q => hnL (q ▸ List.mem_append_right _ (List.mem_append_right _ (List.mem_cons_self ..)))
  obtain ⟨_, hnM, hdis⟩ := List.nodup_append.mp hnR
  have nc : ∀ c, c ∈ (oc env).map (·.2) → c ≠ a := fun c m => hdis c m a (List.mem_append_right _ (List.mem_cons_self ..))
  have hv : ∀ x v, Var env s.heap x v → Var env h' x v := fun x v p => p.elim
    (fun ⟨k, m, n, e⟩ => .inl ⟨k, m, n.sameBut hs nl, e⟩)
    (fun ⟨k, c', l, e⟩ => .inr ⟨k, c', l, e.sameBut hs (nc _ (List.mem_map_of_mem (f := fun p : Str × Addr => p.2) (mem_oc k l)))⟩)
  have hoth : ∀ p ∈ l₁ ++ l₂, p.2.1 ≠ a := by
    have h1 : ∀ b ∈ (l₁.map (·.2.1)), b ≠ a := fun b m => (List.nodup_append.mp hnM).2.2 b m a (List.mem_cons_self ..)
    have h2 := (List.nodup_cons.mp (List.nodup_append.mp hnM).2.1).1
    intro p m q
    rcases List.mem_append.mp m with m | m
    · exact h1 p.2.1 (List.mem_map_of_mem (f := fun p : Str × Addr × List T => p.2.1) m) q
    · have := List.mem_map_of_mem (f := fun p : Str × Addr × List T => p.2.1) m
      rw [q] at this
      exact h2 this
  refine { sh := ?_, keep := ?_, frame := ?_, cells := ?_, vars := ?_, muts := ?_, sep := by rw [eo]; exact S.sep, sub := by rw [eo]; exact S.sub, cal := S.cal, live := ?_, off := by rw [eo]; exact S.off, nw := S.nw }
  · obtain ⟨c, d, e⟩ := S.sh; exact ⟨h', d, by rw [e]⟩
  · exact fun b o e => hs.extBut b o (fun q => by rw [q, S.off a hmem] at e; cases e) (S.keep b o e)
  · obtain ⟨m, n⟩ := S.frame; exact ⟨m, n.sameBut hs nl⟩
  · intro p hp
    obtain ⟨v, e⟩ := S.cells p hp
    exact ⟨v, e.sameBut hs (nc _ (List.mem_map_of_mem (f := fun p : Str × Addr => p.2) hp))⟩
  · intro y t e
    obtain ⟨v, c, d⟩ := S.vars y t e
    exact ⟨v, hv _ _ c, d.apart ap⟩
  · intro p m
    have hm : p = (x, a, ts') ∨ p ∈ l₁ ++ l₂ := by
      rcases List.mem_append.mp m with m | m
      · exact .inr (List.mem_append_left _ m)
      · rcases List.mem_cons.mp m with e | m
        · exact .inl e
        · exact .inr (List.mem_append_right _ m)
    rcases hm with e | m
    · subst e
      exact ⟨hv _ _ (S.muts (x, a, ts) (List.mem_append_right _ (List.mem_cons_self ..))).1, vs, hp, r.apart ap⟩
    · have m' : p ∈ l₁ ++ (x, a, ts) :: l₂ := (List.mem_append.mp m).elim (List.mem_append_left _) fun m => List.mem_append_right _ (List.mem_cons_of_mem _ m)
      obtain ⟨c, us, d, e⟩ := S.muts p m'
      exact ⟨hv _ _ c, us, d.extBut hs.extBut (hoth p m), e.apart ap⟩
  · intro b hb
    by_cases q : b = a
    · obtain ⟨n, e⟩ := hp; exact ⟨_, q ▸ e⟩
    · obtain ⟨o, e⟩ := S.live b hb
      exact ⟨o, hs.extBut b o q e⟩
end
end Mine
end

-- F8
section
open PySem PySem.W PyProof.Rows
set_option linter.unusedVariables false
namespace Mine
/-- a name that the block stores to -/
noncomputable def Storable (env : Env) (x : Str) : Prop := env.kindOf x = some .local ∨ (env.kindOf x = some .cell ∧ ∃ c, env.cells.lookup x = some c)
section
variable {prog : Program} {w : World} {A : Around} {env : Env} {Xc X : List Addr} {σ : Str → Option T} {μ : Mu} {h₀ h : Heap} {s₀ s s' : Shared} {x : Str} {px pos : Pos} {rest : List Stmt} {Q : Flow → Shared → Prop} {E : Value → Shared → Prop}

/-- an own0 fact -/
theorem own_nil {b : Addr} (m : b ∈ own env []) : b ∈ own env μ := by
  unfold own at m ⊢
  rcases List.mem_cons.mp m with e | m
  · exact e ▸ List.mem_cons_self ..
  · simp at m; exact List.mem_cons_of_mem _ (List.mem_append_left _ (by simpa using m))
theorem Sta.assign (S : Sta Xc X env σ μ h₀ s₀ s) {e : Expr} {t : T} (he : Ev prog w A env X s.heap e t) (hk : env.scope.kind = .function) (hx : Storable env x) (hn : ∀ p ∈ μ, p.1 ≠ x)
    (hsw : swapsWith e (some (.Name x px)) pos.line env = pure false)
    (k : ∀ s', Sta Xc X env (upd σ x t) μ h₀ s₀ s' → wpAny (model prog w) A (execs rest env) Q E s') : wpAny (model prog w) A (execs (.Assign [.Name x px] e pos :: rest) env) Q E s := by
  refine wpAny_execs_cons (wpAny_Assign_Name (wpAny_mono (he s E (Sub.refl _) S.live) (fun v s₁ h₁ => ?_) fun _ _ e => e) hsw)
  have S₁ := S.grow h₁.2
  refine S₁.storeRaw hk hx hn fun s₂ S₂ hv hap => k s₂ (S₂.put hv ?_)
  exact h₁.1.apart fun b o nb e => hap b o (fun m => nb (S.sub b (by
    unfold own at m ⊢
    rcases List.mem_cons.mp m with e | m
    · exact e ▸ List.mem_cons_self ..
    · simp at m; exact List.mem_cons_of_mem _ (List.mem_append_left _ (by simpa using m))))) e

theorem Sta.newList (S : Sta Xc X env σ μ h₀ s₀ s) {es : List Expr} {lp : Pos} {ts : List T} (he : Evs prog w A env X s.heap es ts) (hl : ts.length ≤ 1000) (hk : env.scope.kind = .function) (hx : Storable env x) (hn : ∀ p ∈ μ, p.1 ≠ x)
    (hsw : swapsWith (.List es lp) (some (.Name x px)) pos.line env = pure false)
    (k : ∀ a s', Sta Xc (a :: X) env (del σ x) ((x, a, ts) :: μ) h₀ s₀ s' → wpAny (model prog w) A (execs rest env) Q E s') : wpAny (model prog w) A (execs (.Assign [.Name x px] (.List es lp) pos :: rest) env) Q E s := by
  refine wpAny_execs_cons (wpAny_Assign_Name (wpAny_List (wpAny_mono (he lp s E (Sub.refl _) S.live) (fun vs s₁ h₁ => ⟨?_, ?_⟩) fun _ _ e => e)) hsw)
  · have := h₁.1.length; rw [this]; exact Nat.le_trans hl (by decide)
  have S₁ := S.grow h₁.2
  have hfr : s₁.heap.get? s₁.heap.objs.size = none := Heap.get?_none_of_le (Nat.le_refl _)
  have S₂ : Sta Xc (s₁.heap.objs.size :: X) env σ μ h₀ s₀ { s₁ with heap := s₁.heap.push { cls := .type "list", data := .seq vs.toArray } } := S₁.more hfr (Kp.heap0 (Sub.push _ _)) ⟨_, Heap.get?_push_size _ rfl⟩
  have hno : s₁.heap.objs.size ∉ own env μ := fun m => by
    obtain ⟨o, e⟩ := S₁.live _ (S₁.sub _ m)
    rw [hfr] at e; cases e
  have hr : Reps (s₁.heap.objs.size :: X) (s₁.heap.push { cls := .type "list", data := .seq vs.toArray }) vs ts :=
    (h₁.1.weaken fun a m => (List.mem_cons.mp m).elim (fun e => .inr (e ▸ hfr)) .inl).mono (Sub.push _ _)
  refine S₂.storeRaw hk hx hn fun s₃ S₃ hv hap => k s₁.heap.objs.size s₃ ?_
  have hsub : ∀ b, b ∈ own env [] → b ∈ own env μ := fun b m => by
    unfold own at m ⊢
    rcases List.mem_cons.mp m with e | m
    · exact e ▸ List.mem_cons_self ..
    · simp at m; exact List.mem_cons_of_mem _ (List.mem_append_left _ (by simpa using m))
  refine S₃.putMut hv ⟨0, hap _ _ (fun m => hno (hsub _ m)) (Heap.get?_push_size _ rfl)⟩ (hr.apart fun b o nb e => hap b o (fun m => nb (List.mem_cons_of_mem _ (S.sub b (hsub b m)))) e) (List.mem_cons_self ..) hno ?_
  cases z : h₀.get? s₁.heap.objs.size with
  | none => rfl
  | some o => rw [S₁.keep _ o z] at hfr; cases hfr

/-- x.append(e) -/
theorem Sta.append {l₁ l₂ : Mu} {a : Addr} {ts : List T} (S : Sta Xc X env σ (l₁ ++ (x, a, ts) :: l₂) h₀ s₀ s) {e : Expr} {t : T} {np ap cp : Pos} (he : Ev prog w A env X s.heap e t) (hl : ts.length ≤ 1000) (hk : env.scope.kind = .function)
    (hd : (x == ("__debug__" : Str)) = false) (hline : (ap.endLine == cp.line) = true) (htr : backTo cp (starEach [e] env) = [(false, eval e env)])
    (hb : attributeBase (.Name x np) "append" env (eval (.Name x np) env) = eval (.Name x np) env) (hi : interactive env = false)
    (hsw : swapsWith (.Call (.Attribute (.Name x np) "append" ap) [e] [] cp) none pos.line env = pure false)
    (k : ∀ s', Sta Xc X env σ (l₁ ++ (x, a, ts ++ [t]) :: l₂) h₀ s₀ s' → wpAny (model prog w) A (execs rest env) Q E s') :
    wpAny (model prog w) A (execs (.Expr (.Call (.Attribute (.Name x np) "append" ap) [e] [] cp) pos :: rest) env) Q E s := by
  obtain ⟨hv, vs, hp, hr⟩ := S.muts (x, a, ts) (List.mem_append_right _ (List.mem_cons_self ..))
  refine wpAny_execs_cons (wpAny_Expr_any (wpAny_Call_method1_late hb hline htr ?_) hi hsw)
  refine (hv.loads hk hd) _ _ _ _ _ _ (Sub.refl _) ?_
  obtain ⟨n, hp'⟩ := id hp
  refine ⟨"list", _, F.plainAttrs_list, F.slot_list_append, F.type_list_append, hp.isList.typeIs, (fun b e => by cases e; exact ⟨_, hp', rfl⟩), ?_⟩
  refine P.append_list (wpAny_mono (he s E (Sub.refl _) S.live) (fun v s₁ h₁ => ?_) fun _ _ e => e)
  have S₁ := S.grow h₁.2
  have hp₁ := Kp.sub h₁.2 _ _ hp'
  refine ⟨_, n, ?_, hp₁, ?_⟩
  · have := hr.length; simp only [List.size_toArray]; rw [this]; exact Nat.le_trans hl (by decide)
  refine k _ (S₁.setMut (vs := vs ++ [v]) (Heap.SameBut.update ..) ?_ ((hr.mono (Kp.sub h₁.2)).append (.cons h₁.1 .nil)))
  have := IsL.update hp₁ (fun xs => xs.push v)
  exact ⟨_, by simpa using this⟩

/-- a return -/
theorem Sta.ret (S : Sta Xc X env σ μ h₀ s₀ s) {Y : List Addr} {e : Expr} {t : T} (he : Ev prog w A env Y s.heap e t) (hY : Live Y s.heap) (k : ∀ v s', Rep Y s'.heap v t → Keeps s s' → Q (.ret v) s') : wpAny (model prog w) A (execs (.Return (some e) pos :: rest) env) Q E s :=
  wpAny_execs_cons (wpAny_Return_some (wpAny_mono (he s E (Sub.refl _) hY) (fun v s₁ h₁ => k v s₁ h₁.1 h₁.2) fun _ _ e => e))

theorem Sta.ifT (S : Sta Xc X env σ μ h₀ s₀ s) {Y : List Addr} {c : Expr} {body orelse : List Stmt} (hc : Tr prog w A env Y s.heap c true) (hY : Live Y s.heap)
    (k : ∀ s', Keeps s s' → wpAny (model prog w) A (execs body env) (fun f s' => match f with | .next => wpAny (model prog w) A (execs rest env) Q E s' | f => Q f s') E s') : wpAny (model prog w) A (execs (.If c body orelse pos :: rest) env) Q E s :=
  wpAny_execs_cons (wpAny_If (wpAny_mono (hc s E (Sub.refl _) hY) (fun b s₁ h₁ => by rw [h₁.1]; exact k s₁ h₁.2) fun _ _ e => e))
theorem Sta.ifF (S : Sta Xc X env σ μ h₀ s₀ s) {Y : List Addr} {c : Expr} {body : List Stmt} (hc : Tr prog w A env Y s.heap c false) (hY : Live Y s.heap)
    (k : ∀ s', Sta Xc X env σ μ h₀ s₀ s' → wpAny (model prog w) A (execs rest env) Q E s') : wpAny (model prog w) A (execs (.If c body [] pos :: rest) env) Q E s :=
  wpAny_execs_cons (wpAny_If (wpAny_mono (hc s E (Sub.refl _) hY) (fun b s₁ h₁ => by rw [h₁.1]; exact wpAny_execs_nil (k s₁ (S.grow h₁.2))) fun _ _ e => e))

/-- what holds between two turns of a for -/
inductive ForInv (N : Nat) (St : Nat → Heap → Prop) (J : Nat → (Str → Option T) → Mu → Prop) (wr fp X : List Addr) (h₁ : Heap) (Xc : List Addr) (env : Env) (h₀ : Heap) (s₀ : Shared) (F : List Addr → Heap → Prop) (n : Nat) (s' : Shared) : Prop
  | mk (i : Nat) (σ : Str → Option T) (μ : Mu) (X' : List Addr) (hn : n = N + 1 - i) (hi : i ≤ N) (hst : St i s'.heap) (hJ : J i σ μ) (hIX : ∀ c ∈ wr, c ∈ X') (hfo : ∀ b ∈ fp, b ∉ own env μ) (hXX : ∀ a ∈ X, a ∈ X') (hXn : ∀ a ∈ X', a ∈ X ∨ h₁.get? a = none)
    (hap : ∀ b o, b ∉ X' → h₁.get? b = some o → s'.heap.get? b = some o) (tb : F X' s'.heap) (S : Sta Xc X' env σ μ h₀ s₀ s')
theorem ForInv.next {N i : Nat} {St : Nat → Heap → Prop} {J : Nat → (Str → Option T) → Mu → Prop} {wr fp X X₁ X₂ : List Addr} {h₁ g : Heap} {F : List Addr → Heap → Prop} {σ₂ : Str → Option T} {μ₁ μ₂ : Mu} {s₄ s₇ : Shared}
    (hlt : i < N) (hlive : ∀ b ∈ fp, ∃ o, s₄.heap.get? b = some o) (hfr : ∀ h', (∀ b ∈ fp, ∀ o, s₄.heap.get? b = some o → h'.get? b = some o) → St (i + 1) h')
    (hfo : ∀ b ∈ fp, b ∉ own env μ₁) (hIX : ∀ c ∈ wr, c ∈ X₁) (hXX : ∀ a ∈ X, a ∈ X₁) (hXn : ∀ a ∈ X₁, a ∈ X ∨ h₁.get? a = none) (hap : ∀ b o, b ∉ X₁ → h₁.get? b = some o → s₄.heap.get? b = some o)
    (S₅ : Sta Xc X₁ env σ μ₁ h₀ s₀ s₄) (q₀ : Sub h₀ g) (qn : ∀ b o, b ∉ own env μ₁ → (b ∈ fp ∨ b ∉ X₁) → s₄.heap.get? b = some o → g.get? b = some o)
    (hJ : J (i + 1) σ₂ μ₂) (tb : F X₂ s₇.heap) (S₇ : Sta X₁ X₂ env σ₂ μ₂ g s₄ s₇) : ∃ m, m < N + 1 - i ∧ ForInv N St J wr fp X h₁ Xc env h₀ s₀ F m s₇ := by
  have gfp : ∀ b ∈ fp, ∀ o, s₄.heap.get? b = some o → g.get? b = some o := fun b hb o e => qn b o (hfo b hb) (.inl hb) e
  have go : ∀ b o, b ∉ X₁ → h₁.get? b = some o → g.get? b = some o := fun b o nb e => qn b o (fun m => nb (S₅.sub b m)) (.inr nb) (hap b o nb e)
  refine ⟨N + 1 - (i + 1), Nat.sub_lt_sub_left (Nat.lt_succ_of_lt hlt) (Nat.lt_succ_self _), i + 1, σ₂, μ₂, X₂, rfl, hlt, hfr _ fun b hb o e => S₇.keep b o (gfp b hb o e), hJ, fun c m => S₇.cal c (hIX c m), fun b hb m => ?_, fun a m => S₇.cal a (hXX a m), fun a m => ?_,
    fun b o nb e => S₇.keep b o (go b o (fun m => nb (S₇.cal b m)) e), tb, S₇.back q₀ S₅.cal S₅.nw S₅.sh⟩
  · obtain ⟨o, e⟩ := hlive b hb
    exact nomatch (S₇.off b m).symm.trans (gfp b hb o e)
  · refine (S₇.nw a m).elim (hXn a) fun e => ?_
    by_cases hm : a ∈ X₁
    · exact hXn a hm
    · refine .inr ?_
      cases z : h₁.get? a with
      | none => rfl
      | some o => exact nomatch e.symm.trans (go a o hm z)
/-- a for over a source -/
theorem Sta.forIn (S : Sta Xc X env σ μ h₀ s₀ s) {iter : Expr} {body : List Stmt} {ts : List T} (hk : env.scope.kind = .function) (hx : Storable env x)
    (hfs : ∀ x, foldedSetIterable iter env x = pure x) (src : Src prog w A env X s.heap iter ts)
    (J : Nat → (Str → Option T) → Mu → Prop) (h0 : J 0 σ μ) (hn : ∀ i σ' μ', J i σ' μ' → ∀ p ∈ μ', p.1 ≠ x)
    (turn : ∀ (i : Nat) (t : T) (σ₁ : Str → Option T) (μ₁ : Mu) (X₁ : List Addr) (g : Heap) (s₁ : Shared) (E : Value → Shared → Prop), ts[i]? = some t → J i σ₁ μ₁ → Sub h₀ g → Sta X₁ X₁ env (upd σ₁ x t) μ₁ g s₁ s₁ →
      wpAny (model prog w) A (execs body env) (fun f s₂ => f = .next ∧ ∃ σ₂ μ₂ X₂, J (i + 1) σ₂ μ₂ ∧ Sta X₁ X₂ env σ₂ μ₂ g s₁ s₂) E s₁)
    (done : ∀ σ' μ' X' s', J ts.length σ' μ' → Sta Xc X' env σ' μ' h₀ s₀ s' → wpAny (model prog w) A (execs rest env) Q E s') :
    wpAny (model prog w) A (execs (.For (.Name x px) iter body [] pos :: rest) env) Q E s := by
  refine wpAny_execs_cons (wpAny_For (src s E _ (Sub.refl _) S.live fun it s₂ hat => ?_) hfs)
  obtain ⟨h₁, I, fp, wr, P, St, rfl, W, hsz, hst, hfp, hlive, kp, sb₁, sb₂, hwr, hX, hP, rfl⟩ := hat
  have hI1 : h₁.get? I = none := hwr I (List.mem_singleton_self _)
  clear hwr hsz hfp hfs src
  have hI : s.heap.get? I = none := by
    cases z : s.heap.get? I with
    | none => rfl
    | some o => exact nomatch hI1.symm.trans (sb₁ I o z)
  have hIfp : I ∈ fp := W.sub I (List.mem_singleton_self _)
  have hI0 : h₀.get? I = none := by
    cases z : h₀.get? I with
    | none => rfl
    | some o => exact nomatch hI.symm.trans (S.keep I o z)
  have hIc : I ∉ Xc := fun m => let ⟨o, e⟩ := S.live I (S.cal I m); nomatch hI.symm.trans e
  have S₂ : Sta Xc (I :: X) env σ μ h₀ s₀ s₂ := S.more hI kp (hlive 0 _ hst I hIfp)
  refine codeAny_forLoop (ForInv ts.length St J [I] fp X h₁ Xc env h₀ s₀ (fun _ _ => True)) ?_ (ts.length + 1)
    ⟨0, σ, μ, I :: X, rfl, Nat.zero_le _, hst, h0, fun c m => List.mem_cons.mpr (.inl (List.mem_singleton.mp m)), (fun b hb m => hX b hb (S.sub b m)), (fun a m => List.mem_cons_of_mem _ m),
      (fun a m => (List.mem_cons.mp m).elim (fun e => .inr (e ▸ hI1)) .inl), (fun b o _ e => sb₂ b o e), trivial, S₂⟩
  clear S₂ hst sb₁ sb₂ kp hI S
  rintro n s' ⟨i, σ', μ', X', rfl, hi, hst', hJ, hIX, hfo, hXX, hXn, hap, _, S'⟩
  have hIX' : I ∈ X' := hIX I (List.mem_singleton_self _)
  have hIo : I ∉ own env μ' := hfo I hIfp
  by_cases hlt : i < ts.length
  · refine W.item i s' _ _ hlt hst' fun v h' tk hPv hst₁ hk₁ => ?_
    obtain ⟨t, ht, rv⟩ := hP i v hPv
    have hk₂ : ∀ b o, b ≠ I → s'.heap.get? b = some o → h'.get? b = some o := fun b o nb e => hk₁ b o (fun m => nb (List.mem_singleton.mp m)) e
    have S₃ : Sta Xc X' env σ' μ' h₀ s₀ { s' with heap := h', toks := tk } := S'.touch tk hIX' hIo hI0 hk₂ (hlive _ _ hst₁ I hIfp)
    have hap' : ∀ b o, b ∉ X' → h₁.get? b = some o → h'.get? b = some o := fun b o nb e => hk₂ b o (fun q => nb (q ▸ hIX')) (hap b o nb e)
    have rv' : Rep X' h' v t := (rv.weaken hXn).apart hap'
    show wpAny (model prog w) A (PySem.assign (Expr.Name x px) env v) _ _ _
    refine wpAny_assign_Name (S₃.storeRaw hk hx (hn i σ' μ' hJ) fun s₄ S₄ hv hap₄ => ?_)
    have own0 : ∀ b, b ∈ own env [] → b ∈ own env μ' := fun b m => own_nil m
    have hap₅ : ∀ b o, b ∉ X' → h'.get? b = some o → s₄.heap.get? b = some o := fun b o nb e => hap₄ b o (fun m => nb (S₃.sub b (own0 b m))) e
    have S₅ := S₄.put hv (rv'.apart hap₅)
    have hst₄ : St (i + 1) s₄.heap := W.frame _ _ _ hst₁ fun b hb o e => hap₄ b o (fun m => hfo b hb (own0 b m)) e
    obtain ⟨g, q₀, qg, qn, S₆⟩ := S₅.rebase
    refine wpAny_mono (turn i t σ' μ' X' g s₄ _ ht hJ q₀ S₆) (fun f s₇ h₇ => ?_) fun _ _ e => e
    obtain ⟨rfl, σ₂, μ₂, X₂, hJ₂, S₇⟩ := h₇
    exact ForInv.next hlt (hlive _ _ hst₄) (fun h' k => W.frame _ _ _ hst₄ k) hfo hIX hXX hXn (fun b o nb e => hap₅ b o nb (hap' b o nb e)) S₅ q₀ (fun b o n1 _ e => qn b o n1 e) hJ₂ trivial S₇
  · obtain rfl : i = ts.length := Nat.le_antisymm hi (Nat.le_of_not_lt hlt)
    refine W.done s' _ _ hst' fun h' tk hk₁ => wpAny_execs_nil (done σ' μ' _ _ hJ (S'.lose tk hIX' hIo hIc hI0 fun b o nb e => hk₁ b o (fun m => nb (List.mem_singleton.mp m)) e))
end
end Mine
end

-- F9
section
open PySem PySem.W PyProof.Rows PySem.Calls
set_option linter.unusedVariables false
namespace Mine
/-- what the text's globals are -/
noncomputable def Gl (K : Frag) (h : Heap) : Prop := K.In h ∧ ∃ p loose mean mg mb, Top p loose mean mg mb h
theorem Gl.mono {K : Frag} {h h' : Heap} (G : Gl K h) (q : Sub h h') : Gl K h' := ⟨G.1.keeps q, let ⟨p, l, m, mg, mb, T⟩ := G.2; ⟨p, l, m, mg, mb, T.keeps q⟩⟩
theorem Gl.limit {K : Frag} {h : Heap} (G : Gl K h) : h.NoLimit := let ⟨p, l, m, mg, mb, T⟩ := G.2; T.nolimit
theorem Gl.loads {K : Frag} {h : Heap} {env : Env} {x : Str} {v : Value} (G : Gl K h) (e : nsIn K mainGlobals x = some (some v)) (hg : env.globals = mainGlobals) (hk : env.scope.kind = .function) (hx : env.kindOf x = some .globalImplicit)
    (hd : (x == ("__debug__" : Str)) = false) : Loads env h x v := fun M A s pos Q E q k => by
  obtain ⟨X, p, l, m, mg, mb, T⟩ := G
  exact Name_function_global hk hx (loadGlobal_global (by rw [hg]; exact T.g.keeps q) (mg_of X T.g e) k) hd
theorem Gl.loadsB {K : Frag} {h : Heap} {env : Env} {x : Str} {v : Value} (G : Gl K h) (e : nsIn K mainGlobals x = some none) (hv : bootBuiltins x = some v) (hn : x ≠ "__name__") (hg : env.globals = mainGlobals) (hb : env.builtins = builtinsNs)
    (hk : env.scope.kind = .function) (hx : env.kindOf x = some .globalImplicit) (hd : (x == ("__debug__" : Str)) = false) : Loads env h x v := fun M A s pos Q E q k => by
  obtain ⟨X, p, l, m, mg, mb, T⟩ := G
  exact Name_function_global hk hx (loadGlobal_builtin (by rw [hg]; exact T.g.keeps q) (mg_none_of X T.g e) (by rw [hb]; exact T.b.keeps q) ((T.builtins x hn).trans hv) k) hd

section
variable {prog : Program} {w : World} {A : Around} {Xc X : List Addr} {σ : Str → Option T} {μ : Mu} {h₀ h : Heap} {s₀ s s' : Shared} {x : Str} {env : Env}

theorem Sta.add (S : Sta Xc X env σ μ h₀ s₀ s) {v : Value} {t : T} (hv : Var env s.heap x v) (r : Rep X s.heap v t) : Sta Xc X env (upd σ x t) μ h₀ s₀ s := by
  refine { S with vars := ?_ }
  intro y u e
  unfold upd at e
  by_cases hy : y = x
  · rw [if_pos hy] at e; cases e; exact ⟨v, hy ▸ hv, r⟩
  · rw [if_neg hy] at e; exact S.vars y u e

theorem enter {K : Frag} {name qual : Str} {params : Arguments} {body : List Stmt} {scope : Scope} {dV kV doc pm cdv ct oc : Value} {an od : Option Addr} {osl : Array (Option Value)} {f : Addr} {vs : List Value} {binds : List (Str × Value)} {Q E : Value → Shared → Prop}
    (G : Gl K s.heap) (lv : Live X s.heap) (ho : K.lookup f = some ⟨oc, od, .func (fnOf name qual params body scope dV kV doc pm an cdv ct), osl⟩) (hcd : codeIn K cdv qual = true) (hroom : A.depth < recursionLimit)
    (hbind : bindArgs (fnOf name qual params body scope dV kV doc pm an cdv ct) ⟨vs, []⟩ = pure binds)
    (hkind : (binds.all fun y => scope.names.lookup y.1 == some .local || scope.names.lookup y.1 == some .cell) = true)
    (hnd : ((cellsFrom 0 scope.names []).map (·.1)).Nodup)
    (hco : scope.isCoroutine = false) (hgen : scope.isGenerator = false) (hk : scope.kind = .function)
    (k : ∀ (L : Addr) (s₁ : Shared), Gl K s₁.heap → (∀ v t, Rep X s.heap v t → Rep (own (envOfC qual scope L f cdv) [] ++ X) s₁.heap v t) →
      (∀ x v, ((envOfC qual scope L f cdv).kindOf x = some .local ∧ bindL (envOfC qual scope L f cdv).kindOf binds (fun _ => none) x = some v) ∨
        ((envOfC qual scope L f cdv).kindOf x = some .cell ∧ ((envOfC qual scope L f cdv).cells.lookup x).isSome = true ∧ bindC (envOfC qual scope L f cdv).kindOf binds (fun _ => none) x = some v) → Var (envOfC qual scope L f cdv) s₁.heap x v) →
      Sta X (own (envOfC qual scope L f cdv) [] ++ X) (envOfC qual scope L f cdv) (fun _ => none) [] s.heap s s₁ →
      wpAny (model prog w) (A.deeper (envOfC qual scope L f cdv)) (execs body (envOfC qual scope L f cdv)) (fun fl s' => ∃ v, fl = .ret v ∧ Q v s') (fun _ _ => False) s₁) :
    wpAny (model prog w) A (call (.ref f) vs) Q E s := by
  refine wpAny_call (codeAny_call_function hroom (G.1 _ _ ho) rfl hco hgen rfl (codeRec_of G.1 hcd) ?_)
  rw [hbind]
  refine wpAny_pure (wpAny_newFunctionEnv_cells hk (kindsX hkind _) fun env' he s' x => ?_)
  subst he
  refine ⟨(Gl.limit G).keeps x.toInCall.keep, codeAny_func ?_⟩
  have hnd' : ((cellsFrom (s.heap.objs.size + 1) scope.names []).map (·.1)).Nodup := cellsFrom_names scope.names 0 (s.heap.objs.size + 1) [] [] rfl ▸ hnd
  have fresh : ∀ a, s.heap.objs.size ≤ a → s.heap.get? a = none := fun a ha => Heap.get?_none_of_le ha
  have habove : ∀ p ∈ (envOfC qual scope s.heap.objs.size f cdv).cells, s.heap.objs.size < p.2 := fun p hp => x.above p.1 p.2 hp
  have hcell : ∀ p ∈ (envOfC qual scope s.heap.objs.size f cdv).cells, s'.heap.IsCell p.2 (bindC (envOfC qual scope s.heap.objs.size f cdv).kindOf binds (fun _ => none) p.1) := fun p hp => x.cell p.1 p.2 (lookup_of_mem_nodup hnd' hp)
  have hown : ∀ a ∈ own (envOfC qual scope s.heap.objs.size f cdv) [], s.heap.objs.size ≤ a := fun a m => by
    unfold own at m
    rcases List.mem_cons.mp m with e | m
    · rw [e]; exact Nat.le_refl _
    · simp at m
      obtain ⟨n, hm⟩ := m
      exact Nat.le_of_lt (habove _ (List.mem_filter.mp hm).1)
  have hlv : Live (own (envOfC qual scope s.heap.objs.size f cdv) [] ++ X) s'.heap := fun a m => by
    rcases List.mem_append.mp m with m | m
    · unfold own at m
      rcases List.mem_cons.mp m with e | m
      · obtain ⟨o, _, _, ho, _⟩ := x.toInCall.ns
        exact ⟨o, e ▸ ho⟩
      · simp at m
        obtain ⟨n, hm⟩ := m
        obtain ⟨o, ho, _⟩ := hcell _ (List.mem_filter.mp hm).1
        exact ⟨o, ho⟩
    · exact (lv.mono x.toInCall.keep) a m
  have S : Sta X (own (envOfC qual scope s.heap.objs.size f cdv) [] ++ X) (envOfC qual scope s.heap.objs.size f cdv) (fun _ => none) [] s.heap s s' := by
    refine { sh := x.toInCall.same, keep := x.toInCall.keep, frame := ⟨_, x.toInCall.ns⟩, cells := fun p hp => ⟨_, hcell p (List.mem_filter.mp hp).1⟩, vars := (fun _ _ e => by cases e), muts := (fun _ hp => by cases hp), sep := ?_, sub := fun a m => List.mem_append_left _ m, cal := fun a m => List.mem_append_right _ m,
             live := hlv, off := fun a m => fresh a (hown a m), nw := fun a m => (List.mem_append.mp m).elim (fun m => .inr (fresh a (hown a m))) .inl }
    unfold own
    refine List.nodup_cons.mpr ⟨?_, ?_⟩
    · intro m
      simp at m
      obtain ⟨n, hm⟩ := m
      exact absurd (habove _ (List.mem_filter.mp hm).1) (Nat.lt_irrefl _)
    · simp only [List.map_nil, List.append_nil]
      have := x.apart
      rw [List.Nodup, List.pairwise_map]
      exact this.sublist List.filter_sublist
  refine wpAny_mono (k s.heap.objs.size s' (G.mono x.toInCall.keep) ?_ ?_ S) (fun fl s'' hl => ?_) fun _ _ e => e.elim
  · intro v t r
    exact (r.weaken fun a m => (List.mem_append.mp m).elim (fun m => .inr (fresh a (hown a m))) .inl).mono x.toInCall.keep
  · intro y v hy
    rcases hy with ⟨k1, e1⟩ | ⟨k1, k2, e1⟩
    · exact .inl ⟨k1, _, x.toInCall.ns, e1⟩
    · obtain ⟨c, hc⟩ := Option.isSome_iff_exists.mp k2
      refine .inr ⟨k1, c, hc, ?_⟩
      have := x.cell y c hc
      rw [← e1]; exact this
  · obtain ⟨v, rfl, hq⟩ := hl
    exact hq
end
end Mine
end

-- F10
section
open PySem PySem.W PyProof.Rows PySem.Calls
set_option linter.unusedVariables false
namespace Mine
section
variable {prog : Program} {w : World} {A : Around} {Xc X : List Addr} {σ : Str → Option T} {μ : Mu} {h₀ h h' : Heap} {s₀ s s' : Shared} {x : Str} {env : Env} {scope : Scope} {cl : List (Str × Addr)} {C : Addr} {pos : Pos}

theorem loads_comp {v : Value} (hv : Var env h x v) (hk : env.kindOf x = some .cell) (hcl : cl.lookup x = env.cells.lookup x) (hkc : (compEnvC scope cl C env).kindOf x = some .cell) (hf : scope.kind = .function) (hd : (x == ("__debug__" : Str)) = false) :
    Loads (compEnvC scope cl C env) h x v := by
  rcases hv with ⟨k, _⟩ | ⟨k, c, hc, e⟩
  · rw [hk] at k; cases k
  · exact loads_cell (env := compEnvC scope cl C env) (hcl.trans hc) e hf hkc hd
theorem Sta.nameC (S : Sta Xc X env σ μ h₀ s₀ s) {t : T} (e : σ x = some t) (q : Sub s.heap h') (hk : env.kindOf x = some .cell) (hcl : cl.lookup x = env.cells.lookup x) (hkc : (compEnvC scope cl C env).kindOf x = some .cell) (hf : scope.kind = .function)
    (hd : (x == ("__debug__" : Str)) = false) : Ev prog w A (compEnvC scope cl C env) X h' (.Name x pos) t :=
  let ⟨v, a, b⟩ := S.vars x t e; Ev.name (loads_comp (a.mono q) hk hcl hkc hf hd) (b.mono q)
theorem Sta.nameCF (S : Sta Xc X env σ μ h₀ s₀ s) {t : T} (e : σ x = some t) (q : Sub s.heap h') (hk : env.kindOf x = some .cell) (hcl : cl.lookup x = env.cells.lookup x) (hkc : (compEnvC scope cl C env).kindOf x = some .cell) (hf : scope.kind = .function)
    (hd : (x == ("__debug__" : Str)) = false) : Ev prog w A (compEnvC scope cl C env) [] h' (.Name x pos) t :=
  let ⟨v, a, b⟩ := S.vars x t e; Ev.name (loads_comp (a.mono q) hk hcl hkc hf hd) (rep_free (b.mono q))
theorem Sta.mutCF (S : Sta Xc X env σ μ h₀ s₀ s) {a : Addr} {ts : List T} (e : (x, a, ts) ∈ μ) (q : Sub s.heap h') (hk : env.kindOf x = some .cell) (hcl : cl.lookup x = env.cells.lookup x) (hkc : (compEnvC scope cl C env).kindOf x = some .cell) (hf : scope.kind = .function)
    (hd : (x == ("__debug__" : Str)) = false) : Ev prog w A (compEnvC scope cl C env) [] h' (.Name x pos) (.list ts) :=
  let ⟨v, vs, p, r⟩ := S.muts _ e; Ev.name (loads_comp (v.mono q) hk hcl hkc hf hd) (.list (fun m => nomatch m) (p.at fun o e => q _ o e) ((reps_free r).mono q))
theorem ev_own {Y : List Addr} {m : Str → Option Value} {v : Value} {t : T} (n : h'.Ns C m) (e : m x = some v) (r : Rep Y h' v t) (hkc : (compEnvC scope cl C env).kindOf x = some .local) (hf : scope.kind = .function) (hd : (x == ("__debug__" : Str)) = false) :
    Ev prog w A (compEnvC scope cl C env) Y h' (.Name x pos) t := Ev.name (loads_local (env := compEnvC scope cl C env) n e hf hkc hd) r
theorem Sta.keeps (S : Sta Xc X env σ μ s₀.heap s₀ s) : Keeps s₀ s := by
  obtain ⟨h, tk, rfl⟩ := S.sh
  exact ⟨h, tk, rfl, S.keep⟩
theorem filter_ints (p : Int → Bool) (q : T → Bool) (hq : ∀ i, q (.int i) = p i) (l : List Int) : (l.map T.int).filter q = (l.filter p).map T.int := by
  induction l with
  | nil => rfl
  | cons a l ih => simp only [List.map_cons, List.filter_cons, hq, ih]; split <;> rfl
/-- a mutable list is handed back -/
theorem Sta.retMut (S : Sta Xc X env σ μ s₀.heap s₀ s) {a : Addr} {ts : List T} {np : Pos} {rest : List Stmt} {Q : Flow → Shared → Prop} {E : Value → Shared → Prop} (m : (x, a, ts) ∈ μ) (hk : env.scope.kind = .function) (hd : (x == ("__debug__" : Str)) = false)
    (hc : ∀ b ∈ Xc, ∃ o, s₀.heap.get? b = some o)
    (k : ∀ v s', Rep Xc s'.heap v (.list ts) → Keeps s₀ s' → Q (.ret v) s') : wpAny (model prog w) A (execs (.Return (some (.Name x np)) pos :: rest) env) Q E s := by
  obtain ⟨hv, vs, hp, hr⟩ := S.muts _ m
  refine wpAny_execs_cons (wpAny_Return_some ((hv.loads hk hd) _ _ _ _ _ _ (Sub.refl _) ?_))
  refine k _ _ (.list (fun q => ?_) hp (hr.weaken fun b q => .inl (S.cal b q))) S.keeps
  obtain ⟨o, e⟩ := hc a q
  have ho : a ∈ own env μ := List.mem_cons_of_mem _ (List.mem_append_right _ (List.mem_map_of_mem (f := fun p : Str × Addr × List T => p.2.1) m))
  rw [S.off a ho] at e; cases e
theorem mu_ne1 {x y : Str} {a : Addr} {ts : List T} (h : x ≠ y) : ∀ p ∈ ([(x, a, ts)] : Mu), p.1 ≠ y := fun p hp => by
  rw [List.mem_singleton.mp hp]; exact h
theorem getD_get {α : Type} (l : List α) (k : Nat) (d : α) (h : k < l.length) : l[k]? = some (l.getD k d) := by
  rw [List.getD_eq_getElem?_getD, List.getElem?_eq_getElem h]; rfl
theorem get_int (l : List Int) (k : Nat) (h : k < l.length) : (l.map T.int)[k]? = some (.int (l.getD k 0)) := by
  rw [List.getElem?_map, getD_get l k 0 h]; rfl
theorem mul_small {a b : Int} (h : Builtin.Int.intBits a ≤ 64) : IntMulOk a b := IntMulOk.of_left h
end
end Mine
end

-- F11
section
open PySem PySem.W PyProof.Rows PySem.Calls
set_option linter.unusedVariables false
namespace Mine
section
variable {prog : Program} {w : World} {A : Around} {Xc X : List Addr} {σ : Str → Option T} {μ : Mu} {h₀ h h' : Heap} {s₀ s s' : Shared} {x : Str} {env : Env} {pos : Pos} {rest : List Stmt} {Q : Flow → Shared → Prop} {E : Value → Shared → Prop}

theorem Ev.neg {e : Expr} {i : Int} (he : Ev prog w A env X h e (.int i)) : Ev prog w A env X h (.UnaryOp .USub e pos) (.int (-i)) := fun s E q lv =>
  wpAny_UnaryOp (wpAny_mono (he s E q lv) (fun v s₁ h₁ => by
    obtain ⟨r, k⟩ := h₁
    obtain ⟨_, rfl⟩ := rep_int r
    exact PyProof.Rows.neg_int ⟨.int _ _, Kp.trans k (Kp.toks _ _)⟩) fun _ _ e => e)

theorem op_notin {a : Int} {l : List Int} (s : Shared) (E : Value → Shared → Prop) (u v : Value) (_ : Sub h s.heap) (_ : Live X s.heap) (ru : Rep X s.heap u (.int a)) (rv : Rep X s.heap v (.list (l.map .int))) :
    wpAny (model prog w) A (compareOp .NotIn u v) (fun v s' => v = .bool (!l.any (· == a)) ∧ Keeps s s') E s := by
  obtain ⟨_, rfl⟩ := rep_int ru
  obtain ⟨_, _, rfl, n, il, r⟩ := rep_list rv
  exact notin_list_ints il.isList (Reps.ints r) ⟨rfl, Kp.refl s⟩

/-- an item of a mutable list -/
theorem Sta.mutItem (S : Sta Xc X env σ μ h₀ s₀ s) {a : Addr} {ts : List T} {np : Pos} {slice : Expr} {k : Int} {t : T} (m : (x, a, ts) ∈ μ) (hk : env.scope.kind = .function) (hd : (x == ("__debug__" : Str)) = false)
    (hb : Ev prog w A env X s.heap slice (.int k)) (h0 : k < 0) (h1 : -(ts.length : Int) ≤ k) (h2 : ts.length ≤ 2 ^ 63) (e : ts[(k + ts.length).toNat]? = some t) :
    Ev prog w A env X s.heap (.Subscript (.Name x np) slice pos) t := fun s' E q lv => by
  obtain ⟨hv, vs, hp, hr⟩ := S.muts _ m
  refine Subscript_ ((hv.loads hk hd) _ _ _ _ _ _ q (wpAny_mono (hb s' E q lv) (fun v s₂ h₂ => ?_) fun _ _ e => e))
  obtain ⟨rv, kp⟩ := h₂
  obtain ⟨_, rfl⟩ := rep_int rv
  have hp' : s₂.heap.PlainList a vs.toArray := hp.at fun o e => Kp.sub kp _ o (q _ o e)
  have hl : vs.length = ts.length := hr.length
  obtain ⟨y, ey, ry⟩ := hr.get e
  obtain ⟨ops, hs⟩ := subscripted_false slice (.ref a) (.int k _)
  exact tail_any hp'.isList.typeIs list_getitem_lookup (wpAny_getItem_list_neg hp'.isList h0 (by simp; lia) (by lia) (by simp only [List.size_toArray, hl]; simpa using ey) ⟨(ry.mono q).mono (Kp.sub kp), kp⟩) hs

/-- y = [.. for ..], y a local -/
theorem Sta.assignComp (S : Sta Xc X env σ μ h₀ s₀ s) {Y : List Addr} {elt iter : Expr} {y x : Str} {px py : Pos} {ifs : List Expr} {scope : Scope} {cl : List (Str × Addr)} {lp : Pos} {ts : List T} (pz : T → Bool) (f : T → Int)
    (hclos : closureFor scope env = pure cl) (hcell : ∀ y ∈ scope.names, y.2 ≠ .cell) (hkind : scope.kind = .function)
    (hnames : ∀ y ∈ scope.names, y.2 = .local → scope.names.lookup y.1 = some .local) (hx : scope.names.lookup x = some .local)
    (hs : ∀ x, foldedSetIterable iter env x = pure x) (hY : Live Y s.heap)
    (src : Src prog w A env Y s.heap iter ts)
    (tests : ∀ (C : Addr) (h' : Heap) (m : Str → Option Value) (v : Value) (t : T), t ∈ ts → Sub s.heap h' → h'.Ns C m → m x = some v → Rep Y h' v t → Tests prog w A (compEnvC scope cl C env) Y h' ifs (pz t))
    (elts : ∀ (C : Addr) (h' : Heap) (m : Str → Option Value) (v : Value) (t : T), t ∈ ts → pz t = true → Sub s.heap h' → h'.Ns C m → m x = some v → Rep Y h' v t → Ev prog w A (compEnvC scope cl C env) Y h' elt (.int (f t)))
    (hk : env.scope.kind = .function) (hy : Storable env y) (hn : ∀ p ∈ μ, p.1 ≠ y)
    (hsw : swapsWith (.ListComp elt [⟨.Name x px, iter, ifs, 0⟩] scope lp) (some (.Name y py)) pos.line env = pure true)
    (k : ∀ X' s', Sta Xc X' env (upd σ y (.list (((ts.filter pz).map f).map .int))) μ h₀ s₀ s' → wpAny (model prog w) A (execs rest env) Q E s') :
    wpAny (model prog w) A (execs (.Assign [.Name y py] (.ListComp elt [⟨.Name x px, iter, ifs, 0⟩] scope lp) pos :: rest) env) Q E s := by
  refine wpAny_execs_cons ?_
  rw [exec_Assign_Name_used _ _ _ _ hsw]
  refine wpAny_bind (wpAny_standAt (wpAny_bind ?_))
  show wpAny _ A (do let _ ← comprehension (.ListComp elt [⟨.Name x px, iter, ifs, 0⟩] scope lp) scope env _ (PySem.newList []) false (eval iter env) (some (PySem.assign (.Name y py) env))) _ _ s
  refine wpAny_bind (wpAny_mono (comp_core (Q := fun _ s' => wpAny (model prog w) A (execs rest env) Q E s') pz f hclos hcell hkind hnames hx hs src tests elts (Sub.refl _) hY fun D C h' tk m' ys hD hC hDC hn' hl hpl hi keep => ?_) (fun _ s' hq => wpAny_pure (wpAny_pure hq)) fun _ _ e => e)
  show wpAny (model prog w) A (PySem.assign (.Name y py) env (.ref D)) _ _ _
  obtain ⟨oC, _, _, hoC, _⟩ := id hn'
  have S₁ : Sta Xc (C :: X) env σ μ h₀ s₀ { s with heap := h', toks := tk } := S.more hC (Kp.heap _ keep) ⟨_, hoC⟩
  have noX : ∀ {a : Addr}, s.heap.get? a = none → a ∉ own env μ := fun {a} e m => by
    obtain ⟨o, q⟩ := S.live a (S.sub a m)
    rw [e] at q; cases q
  have h0C : h₀.get? C = none := by
    cases z : h₀.get? C with
    | none => rfl
    | some o => rw [S.keep C o z] at hC; cases hC
  have hCX : C ∉ Xc := fun m => by
    obtain ⟨o, q⟩ := S.live C (S.cal C m)
    rw [hC] at q; cases q
  have rD : Rep (C :: X) h' (.ref D) (.list (((ts.filter pz).map f).map .int)) := by
    refine .list (fun m => ?_) hpl (ints_reps hi)
    rcases List.mem_cons.mp m with e | m
    · exact hDC e
    · obtain ⟨o, q⟩ := S.live D m
      rw [hD] at q; cases q
  have own0 : ∀ b, b ∈ own env [] → b ∈ own env μ := fun b m => by
    unfold own at m ⊢
    rcases List.mem_cons.mp m with e | m
    · exact e ▸ List.mem_cons_self ..
    · simp at m; exact List.mem_cons_of_mem _ (List.mem_append_left _ (by simpa using m))
  refine wpAny_assign_Name (S₁.storeRaw hk hy hn fun s₂ S₂ hv hap => ?_)
  have S₃ := S₂.put hv (rD.apart fun b o nb e => hap b o (fun m => nb (List.mem_cons_of_mem _ (S.sub b (own0 b m)))) e)
  refine ⟨m', hn'.at' fun o e => hap _ o (fun m => noX hC (own0 _ m)) e, fun h'' hs'' => ?_⟩
  obtain ⟨hq, tkq, eq⟩ := S₃.sh
  have := S₃.lose (h' := h'') s₂.toks (List.mem_cons_self ..) (noX hC) hCX h0C fun b o nb e => hs''.extBut b o nb e
  exact k _ _ this

/-- x.extend(e) -/
theorem Sta.extend {l₁ l₂ : Mu} {a : Addr} {ts : List T} (S : Sta Xc X env σ (l₁ ++ (x, a, ts) :: l₂) h₀ s₀ s) {e : Expr} {us : List T} {np ap cp : Pos} (he : Ev prog w A env X s.heap e (.list us)) (hl : ts.length ≤ 1000) (hu : us.length ≤ 1000) (hk : env.scope.kind = .function)
    (hd : (x == ("__debug__" : Str)) = false) (hline : (ap.endLine == cp.line) = true) (htr : backTo cp (starEach [e] env) = [(false, eval e env)])
    (hb : attributeBase (.Name x np) "extend" env (eval (.Name x np) env) = eval (.Name x np) env) (hi : interactive env = false)
    (hsw : swapsWith (.Call (.Attribute (.Name x np) "extend" ap) [e] [] cp) none pos.line env = pure false)
    (k : ∀ s', Sta Xc X env σ (l₁ ++ (x, a, ts ++ us) :: l₂) h₀ s₀ s' → wpAny (model prog w) A (execs rest env) Q E s') :
    wpAny (model prog w) A (execs (.Expr (.Call (.Attribute (.Name x np) "extend" ap) [e] [] cp) pos :: rest) env) Q E s := by
  obtain ⟨hv, vs, hp, hr⟩ := S.muts (x, a, ts) (List.mem_append_right _ (List.mem_cons_self ..))
  refine wpAny_execs_cons (wpAny_Expr_any (wpAny_Call_method1_late hb hline htr ?_) hi hsw)
  refine (hv.loads hk hd) _ _ _ _ _ _ (Sub.refl _) ?_
  obtain ⟨n, hp'⟩ := id hp
  refine ⟨"list", _, F.plainAttrs_list, F.slot_list_extend, F.type_list_extend, hp.isList.typeIs, (fun b e => by cases e; exact ⟨_, hp', rfl⟩), ?_⟩
  refine P.extend_list (wpAny_mono (he s E (Sub.refl _) S.live) (fun v s₁ h₁ => ?_) fun _ _ e => e)
  have S₁ := S.grow h₁.2
  have hp₁ := Kp.sub h₁.2 _ _ hp'
  obtain ⟨rv, kp⟩ := h₁
  obtain ⟨b, ws, rfl, nb, il, r⟩ := rep_list rv
  obtain ⟨n2, hb2⟩ := il
  have z1 : vs.length = ts.length := hr.length
  have z2 := r.length
  have hz : vs.toArray.size + ws.toArray.size ≤ sizeLine := by simp only [List.size_toArray]; rw [z1, z2]; exact Nat.le_trans (show _ ≤ 2000 by lia) (by decide)
  refine ⟨b, vs.toArray, ws.toArray, n, n2, Nat.le_trans (Nat.le_add_right _ _) hz, Nat.le_succ_of_le hz, extend_door hz, rfl, hp₁, hb2, ?_⟩
  refine k _ (S₁.setMut (vs := vs ++ ws) (Heap.SameBut.update ..) ?_ ((hr.mono (Kp.sub kp)).append r))
  have := IsL.update hp₁ (fun xs => xs ++ ws.toArray)
  exact ⟨_, by simpa using this⟩

/-- a comprehension whose parts are seen under Y -/
theorem Ev.compY {Y : List Addr} {elt iter : Expr} {x : Str} {px : Pos} {ifs : List Expr} {scope : Scope} {cl : List (Str × Addr)} {ts : List T} (lvY : Live Y h) (pz : T → Bool) (f : T → Int)
    (hclos : closureFor scope env = pure cl) (hcell : ∀ y ∈ scope.names, y.2 ≠ .cell) (hkind : scope.kind = .function)
    (hnames : ∀ y ∈ scope.names, y.2 = .local → scope.names.lookup y.1 = some .local) (hx : scope.names.lookup x = some .local)
    (hs : ∀ x, foldedSetIterable iter env x = pure x)
    (src : Src prog w A env Y h iter ts)
    (tests : ∀ (C : Addr) (h' : Heap) (m : Str → Option Value) (v : Value) (t : T), t ∈ ts → Sub h h' → h'.Ns C m → m x = some v → Rep Y h' v t → Tests prog w A (compEnvC scope cl C env) Y h' ifs (pz t))
    (elts : ∀ (C : Addr) (h' : Heap) (m : Str → Option Value) (v : Value) (t : T), t ∈ ts → pz t = true → Sub h h' → h'.Ns C m → m x = some v → Rep Y h' v t → Ev prog w A (compEnvC scope cl C env) Y h' elt (.int (f t))) :
    Ev prog w A env X h (.ListComp elt [⟨.Name x px, iter, ifs, 0⟩] scope pos) (.list (((ts.filter pz).map f).map .int)) := fun s E q lv => by
  rw [eval_ListComp]
  refine comp_core pz f hclos hcell hkind hnames hx hs src tests elts q (lvY.mono q) fun D C h' tk m' ys hD hC hDC hn hl hpl hi keep => ?_
  refine ⟨m', hn, fun h'' hs'' => ⟨?_, ?_⟩⟩
  · refine .list (vs := ys) ?_ (hpl.extBut hs''.extBut hDC) (ints_reps hi)
    intro m
    obtain ⟨o, ho⟩ := lv D m
    rw [hD] at ho; cases ho
  · exact ⟨h'', tk, rfl, fun b o e => hs''.extBut b o (by rintro rfl; rw [hC] at e; cases e) (keep b o e)⟩
theorem Ev.callBY {Y : List Addr} {f : Str} {np : Pos} {id : String} {e : Expr} {es : List Expr} {ts : List T} {t : T} (lvY : Live Y h) (l : Loads env h f (.builtin id)) (ha : Evs prog w A env Y h (e :: es) ts)
    (hst : starEach (e :: es) env = (false, eval e env) :: starEach es env) (hpl : ∀ pos, (backTo pos (starEach es env)).any (·.1) = false)
    (hc : ∀ (s : Shared) (E : Value → Shared → Prop) (vs : List Value), Sub h s.heap → Live X s.heap → Reps Y s.heap vs ts → wpAny (model prog w) A (call (.builtin id) vs) (fun v s' => Rep X s'.heap v t ∧ Keeps s s') E s) :
    Ev prog w A env X h (.Call (.Name f np) (e :: es) [] pos) t := fun s E q lv => by
  refine wpAny_Call_NameR (l _ _ _ _ _ _ q ?_)
  refine PyProof.Rows.callWith_builtin1 (wpAny_mono (ha pos s E q (lvY.mono q)) (fun vs s₁ h₁ => ?_) fun _ _ e => e) hst (hpl pos)
  exact wpAny_mono (hc s₁ E vs (q.trans (Kp.sub h₁.2)) (lv.mono (Kp.sub h₁.2)) h₁.1) (fun v s₂ h₂ => ⟨h₂.1, Kp.trans h₁.2 h₂.2⟩) fun _ _ e => e
/-- two lists of ints -/
theorem Ev.catL {l r : Expr} {us vs : List Int} (ha : Ev prog w A env X h l (.list (us.map .int))) (hb : Ev prog w A env X h r (.list (vs.map .int))) (hs : us.length + vs.length ≤ 1000) : Ev prog w A env X h (.BinOp l .Add r pos) (.list ((us ++ vs).map .int)) :=
  Ev.bin ha hb fun s E u v q lv ru rv => by
    obtain ⟨_, _, rfl, n, il, r⟩ := rep_list ru
    cases rv with
    | list n' il' r' =>
      obtain ⟨m, e⟩ := il
      obtain ⟨m', e'⟩ := il'
      have z1 := r.length
      have z2 := r'.length
      refine P.add_list e e' ⟨.list (Live.fresh lv) ⟨0, by rw [List.append_toArray]; exact Heap.get?_push_size _ rfl⟩ ?_, Kp.heap0 (Sub.push _ _)⟩ ?_
      · rw [List.map_append]; exact (r.append r').mono (Sub.push _ _)
      · simp only [List.size_toArray]; rw [z1, z2, List.length_map, List.length_map]; exact Nat.le_trans hs (by decide)
end
end Mine
end

-- P1
section
open PySem PySem.W PyProof.Rows PySem.Calls
set_option linter.unusedVariables false
namespace Mine
noncomputable def natT (l : List Nat) : List T := l.map fun (m : Nat) => T.int (m : Int)
theorem natT_length (l : List Nat) : (natT l).length = l.length := by simp [natT]
theorem rng_natT (n : Nat) : (rng 0 n).map T.int = natT (List.range n) := by simp [rng, natT]
theorem natT_append (l r : List Nat) : natT (l ++ r) = natT l ++ natT r := by simp [natT]
theorem natT_ints (l : List Nat) : natT l = (l.map fun (m : Nat) => (m : Int)).map T.int := by simp [natT]
theorem mem_natT {l : List Nat} {t : T} (m : t ∈ natT l) : ∃ k : Nat, t = .int (k : Int) ∧ k ∈ l := by
  obtain ⟨k, hk, rfl⟩ := List.mem_map.mp m
  exact ⟨k, rfl, hk⟩
theorem natT_get {l : List Nat} {i : Nat} {t : T} (h : (natT l)[i]? = some t) : ∃ k : Nat, t = .int (k : Int) ∧ l[i]? = some k := by
  unfold natT at h
  rw [List.getElem?_map] at h
  cases e : l[i]? with
  | none => rw [e] at h; cases h
  | some k => rw [e] at h; cases h; exact ⟨k, rfl, rfl⟩
theorem comp_natT (l : List Nat) (pz : T → Bool) (f : T → Int) (p : Nat → Bool) (g : Nat → Nat) (hp : ∀ a ∈ l, pz (.int (a : Int)) = p a) (hg : ∀ a ∈ l, p a = true → f (.int (a : Int)) = (g a : Int)) :
    (((natT l).filter pz).map f).map T.int = natT ((l.filter p).map g) := by
  induction l with
  | nil => rfl
  | cons a l ih =>
    have ih' := ih (fun b m => hp b (List.mem_cons_of_mem _ m)) fun b m => hg b (List.mem_cons_of_mem _ m)
    have ha := hp a (List.mem_cons_self ..)
    unfold natT at ih' ⊢
    simp only [List.map_cons, List.filter_cons, ha]
    cases e : p a with
    | true =>
      simp only [if_true, List.map_cons]
      rw [ih', hg a (List.mem_cons_self ..) e]
    | false =>
      simp only [Bool.false_eq_true, if_false]
      exact ih'

/-- the bits of a mask -/
noncomputable def bitN (m c : Nat) : Bool := m / 2 ^ c % 2 == 1
noncomputable def popN (n m : Nat) : Nat := (List.range n).countP (bitN m)
theorem bit_cast (m c : Nat) : ((m : Int) / 2 ^ c % 2) = ((m / 2 ^ c % 2 : Nat) : Int) := by
  simp
theorem bit_cases (m c : Nat) : m / 2 ^ c % 2 = 0 ∨ m / 2 ^ c % 2 = 1 := by lia

noncomputable def nexts (n m : Nat) : List Nat := ((List.range n).filter fun c => !bitN m c).map fun c => m + 2 ^ c
noncomputable def maxL : List Int → Int
  | [] => 0
  | a :: l => l.foldl max a
theorem foldl_max (l : List Int) : ∀ a : Int, (l.foldl max a = a ∨ l.foldl max a ∈ l) ∧ a ≤ l.foldl max a ∧ ∀ b ∈ l, b ≤ l.foldl max a := by
  induction l with
  | nil => intro a; simp
  | cons b l ih =>
    intro a
    simp only [List.foldl_cons]
    obtain ⟨h1, h2, h3⟩ := ih (max a b)
    refine ⟨?_, by lia, ?_⟩
    · rcases h1 with h1 | h1
      · rw [h1]
        rcases Int.le_total a b with h | h
        · right; rw [Int.max_eq_right h]; exact List.mem_cons_self ..
        · left; exact Int.max_eq_left h
      · right; exact List.mem_cons_of_mem _ h1
    · intro c hc
      rcases List.mem_cons.mp hc with rfl | hc
      · lia
      · exact h3 c hc
theorem maxL_mem {l : List Int} (h : l ≠ []) : maxL l ∈ l := by
  cases l with
  | nil => exact absurd rfl h
  | cons a l =>
    rcases (foldl_max l a).1 with e | e
    · show l.foldl max a ∈ a :: l
      rw [e]; exact List.mem_cons_self ..
    · exact List.mem_cons_of_mem _ e
theorem maxL_ge {l : List Int} : ∀ a ∈ l, a ≤ maxL l := by
  cases l with
  | nil => intro a h; cases h
  | cons b l =>
    intro a h
    rcases List.mem_cons.mp h with rfl | h
    · exact (foldl_max l a).2.1
    · exact (foldl_max l b).2.2 a h
noncomputable def rimOf (rims : List Int) (m : Nat) : Int := rims.getD m 0
noncomputable def stepMask (rims : List Int) (n : Nat) (after : List Nat) (m : Nat) : List Nat :=
  after ++ (nexts n m).filter fun one => rimOf rims one == maxL ((nexts n m).map (rimOf rims)) && !after.contains one
noncomputable def afterF (rims : List Int) (n : Nat) (masks : List Nat) : List Nat := masks.foldl (stepMask rims n) []
noncomputable def sortN (l : List Nat) : List Nat := l.mergeSort (fun a b => decide (a ≤ b))
noncomputable def waysAt (rims : List Int) (n : Nat) : Nat → List (List Nat)
  | 0 => [[0]]
  | i + 1 => waysAt rims n i ++ [sortN (afterF rims n ((waysAt rims n i).getD i []))]
theorem waysAt_length (rims : List Int) (n i : Nat) : (waysAt rims n i).length = i + 1 := by
  induction i with
  | zero => rfl
  | succ i ih => rw [waysAt, List.length_append, ih]; rfl
theorem sortN_perm (l : List Nat) : (sortN l).Perm l := List.mergeSort_perm _ _
theorem sortN_sorted (l : List Nat) : (sortN l).Pairwise (· ≤ ·) := by
  have := List.pairwise_mergeSort (le := fun a b : Nat => decide (a ≤ b)) (fun a b c h1 h2 => by simp at *; lia) (fun a b => by simp; lia) l
  exact this.imp fun h => by simpa using h

/-- a mask of i bits below 2 ^ n -/
noncomputable def Msk (n i m : Nat) : Prop := m < 2 ^ n ∧ popN n m = i
theorem f_next : ∀ n, n ≤ 6 → ∀ m, m < 2 ^ n → ∀ c, c < n → bitN m c = false → m + 2 ^ c < 2 ^ n ∧ popN n (m + 2 ^ c) = popN n m + 1 := by decide +kernel
theorem f_room : ∀ n, n ≤ 6 → ∀ m, m < 2 ^ n → popN n m < n → nexts n m ≠ [] := by decide +kernel
theorem Msk.next {n i m one : Nat} (hn : n ≤ 6) (h : Msk n i m) (ho : one ∈ nexts n m) : Msk n (i + 1) one := by
  obtain ⟨c, hc, rfl⟩ := List.mem_map.mp ho
  obtain ⟨h1, h2⟩ := List.mem_filter.mp hc
  have := f_next n hn m h.1 c (List.mem_range.mp h1) (by simpa using h2)
  exact ⟨this.1, by rw [this.2, h.2]⟩
theorem Msk.room {n i m : Nat} (hn : n ≤ 6) (h : Msk n i m) (hi : i < n) : nexts n m ≠ [] := f_room n hn m h.1 (by rw [h.2]; exact hi)
theorem nexts_nodup (n m : Nat) : (nexts n m).Nodup := by
  unfold nexts List.Nodup
  rw [List.pairwise_map]
  refine ((List.nodup_range (n := n)).sublist List.filter_sublist).imp fun {a b} h e => h ?_
  have e' : (2 : Nat) ^ a = 2 ^ b := by lia
  exact (Nat.pow_right_inj (by decide)).mp e'
theorem step_mem {rims : List Int} {n m : Nat} {after : List Nat} {x : Nat} (h : x ∈ stepMask rims n after m) : x ∈ after ∨ x ∈ nexts n m := by
  rcases List.mem_append.mp h with h | h
  · exact .inl h
  · exact .inr (List.mem_filter.mp h).1
theorem step_nodup {rims : List Int} {n m : Nat} {after : List Nat} (h : after.Nodup) : (stepMask rims n after m).Nodup := by
  unfold stepMask
  refine List.nodup_append.mpr ⟨h, (nexts_nodup n m).sublist List.filter_sublist, ?_⟩
  intro a ha b hb e
  subst e
  have := (List.mem_filter.mp hb).2
  simp at this
  exact this.2 ha
theorem after_all {rims : List Int} {n i : Nat} (hn : n ≤ 6) : ∀ (masks after : List Nat), (∀ m ∈ masks, Msk n i m) → (∀ m ∈ after, Msk n (i + 1) m) → after.Nodup →
    (∀ m ∈ masks.foldl (stepMask rims n) after, Msk n (i + 1) m) ∧ (masks.foldl (stepMask rims n) after).Nodup
  | [], after, _, h2, h3 => ⟨h2, h3⟩
  | m :: masks, after, h1, h2, h3 => by
    refine after_all hn masks (stepMask rims n after m) (fun k hk => h1 k (List.mem_cons_of_mem _ hk)) (fun k hk => ?_) (step_nodup h3)
    rcases step_mem hk with hk | hk
    · exact h2 k hk
    · exact (h1 m (List.mem_cons_self ..)).next hn hk
theorem ways_msk {rims : List Int} {n : Nat} (hn : n ≤ 6) : ∀ i, ∀ m ∈ (waysAt rims n i).getD i [], Msk n i m
  | 0, m, h => by
    have : m = 0 := by simpa [waysAt] using h
    subst this
    refine ⟨Nat.pow_pos (by decide), ?_⟩
    unfold popN
    rw [List.countP_eq_zero]
    intro c _
    simp [bitN]
  | i + 1, m, h => by
    rw [waysAt, List.getD_eq_getElem?_getD, List.getElem?_append_right (by rw [waysAt_length]; lia), waysAt_length] at h
    simp at h
    have hm := (sortN_perm _).mem_iff.mp h
    exact (after_all hn _ [] (ways_msk hn i) (fun _ h => by cases h) List.nodup_nil).1 m hm
/-- a list without doubles within 1 .. k -/
theorem nodup_len : ∀ (k : Nat) (l : List Nat), l.Nodup → (∀ x ∈ l, 1 ≤ x ∧ x ≤ k) → l.length ≤ k
  | 0, l, _, h => by
    cases l with
    | nil => simp
    | cons a l => have := h a (List.mem_cons_self ..); lia
  | k + 1, l, hn, h => by
    have h1 := nodup_len k (l.erase (k + 1)) (hn.erase _) (fun x hx => by
      have hx' := List.mem_of_mem_erase hx
      have := h x hx'
      have hne : x ≠ k + 1 := fun e => by
        subst e
        exact (List.Nodup.not_mem_erase hn) hx
      lia)
    have h2 : l.length ≤ (l.erase (k + 1)).length + 1 := by
      by_cases hm : (k + 1) ∈ l
      · rw [List.length_erase_of_mem hm]; lia
      · rw [List.erase_of_not_mem hm]; lia
    lia
theorem pop_zero (n : Nat) : popN n 0 = 0 := by
  unfold popN
  rw [List.countP_eq_zero]
  intro c _
  simp [bitN]
theorem after_short {rims : List Int} {n i : Nat} (hn : n ≤ 6) {masks : List Nat} (h : ∀ m ∈ masks, Msk n i m) (k : Nat) : (afterF rims n (masks.take k)).length < 64 := by
  obtain ⟨h1, h2⟩ := after_all (rims := rims) hn (masks.take k) [] (fun m hm => h m (List.mem_of_mem_take hm)) (fun _ h => by cases h) List.nodup_nil
  have := nodup_len 63 _ h2 (fun x hx => by
    have hx' := h1 x hx
    have l1 : x < 64 := Nat.lt_of_lt_of_le hx'.1 (Nat.pow_le_pow_right (by decide) hn)
    have l2 : x ≠ 0 := fun e => by
      subst e
      have := hx'.2
      rw [pop_zero] at this; lia
    lia)
  unfold afterF
  lia
theorem afterF_succ {rims : List Int} {n k m : Nat} {masks : List Nat} (h : masks[k]? = some m) : afterF rims n (masks.take (k + 1)) = stepMask rims n (afterF rims n (masks.take k)) m := by
  unfold afterF
  rw [List.take_add_one, h, List.foldl_append]
  rfl
theorem ways_len {rims : List Int} {n : Nat} (hn : n ≤ 6) (i : Nat) : ((waysAt rims n i).getD i []).length < 64 := by
  cases i with
  | zero => show (([[0]] : List (List Nat)).getD 0 []).length < 64; decide
  | succ i =>
    rw [waysAt, List.getD_eq_getElem?_getD, List.getElem?_append_right (by rw [waysAt_length]; lia), waysAt_length]
    simp only [Nat.sub_self, List.getElem?_cons_zero, Option.getD_some]
    rw [(sortN_perm _).length_eq]
    have := after_short (rims := rims) hn (ways_msk (rims := rims) hn i) ((waysAt rims n i).getD i []).length
    rwa [List.take_length] at this
theorem any_cast (l : List Nat) (k : Nat) : (l.map fun (m : Nat) => (m : Int)).any (· == (k : Int)) = l.contains k := by
  induction l with
  | nil => rfl
  | cons a l ih =>
    simp only [List.map_cons, List.any_cons, List.contains_cons, ih]
    congr 1
    rw [Bool.eq_iff_iff]
    simp only [beq_iff_eq]
    lia
theorem nexts_len (n m : Nat) : (nexts n m).length ≤ n := by
  unfold nexts
  rw [List.length_map]
  exact Nat.le_trans (List.length_filter_le _ _) (by rw [List.length_range]; lia)
theorem map_natT (l : List Nat) (f : T → Int) (g : Nat → Int) (h : ∀ a ∈ l, f (.int (a : Int)) = g a) : ((natT l).filter (fun _ => true)).map f = l.map g := by
  induction l with
  | nil => rfl
  | cons a l ih =>
    have := ih fun b m => h b (List.mem_cons_of_mem _ m)
    unfold natT at this ⊢
    simp only [List.map_cons, List.filter_cons, if_true]
    rw [this, h a (List.mem_cons_self ..)]
end Mine
end

-- F12
section
open PySem PySem.W PyProof.Rows PySem.Calls
set_option linter.unusedVariables false
namespace Mine
section
variable {prog : Program} {w : World} {A : Around} {Xc X : List Addr} {σ : Str → Option T} {μ : Mu} {h₀ h h' : Heap} {s₀ s s' : Shared} {x y : Str} {env : Env} {px py pos : Pos} {rest : List Stmt} {Q : Flow → Shared → Prop} {E : Value → Shared → Prop}

/-- a while that goes on N times -/
theorem Sta.whileDo (S : Sta Xc X env σ μ h₀ s₀ s) {test : Expr} {body : List Stmt} (N : Nat) (J : Nat → (Str → Option T) → Prop) (h0 : J 0 σ)
    (htest : ∀ i σ' s', i ≤ N → J i σ' → Sta Xc X env σ' μ h₀ s₀ s' → Tr prog w A env X s'.heap test (decide (i < N)))
    (turn : ∀ i σ' s' (E : Value → Shared → Prop), i < N → J i σ' → Sta Xc X env σ' μ h₀ s₀ s' → wpAny (model prog w) A (execs body env) (fun f s₂ => f = .next ∧ ∃ σ₂, J (i + 1) σ₂ ∧ Sta Xc X env σ₂ μ h₀ s₀ s₂) E s')
    (done : ∀ σ' s', J N σ' → Sta Xc X env σ' μ h₀ s₀ s' → wpAny (model prog w) A (execs rest env) Q E s') :
    wpAny (model prog w) A (execs (.While test body [] pos :: rest) env) Q E s := by
  refine wpAny_execs_cons (wpAny_While ?_)
  refine codeAny_whileLoop (fun n s' => ∃ i σ', n = N - i ∧ i ≤ N ∧ J i σ' ∧ Sta Xc X env σ' μ h₀ s₀ s') ?_ N ⟨0, σ, rfl, Nat.zero_le _, h0, S⟩
  rintro n s' ⟨i, σ', rfl, hi, hJ, S'⟩
  refine wpAny_mono (htest i σ' s' hi hJ S' s' _ (Sub.refl _) S'.live) (fun b s₁ h₁ => ?_) fun _ _ e => e
  obtain ⟨rfl, kp⟩ := h₁
  have S₁ := S'.grow kp
  by_cases hlt : i < N
  · rw [decide_eq_true hlt]
    refine wpAny_mono (turn i σ' s₁ _ hlt hJ S₁) (fun f s₂ h₂ => ?_) fun _ _ e => e
    obtain ⟨rfl, σ₂, hJ₂, S₂⟩ := h₂
    exact ⟨N - (i + 1), by lia, i + 1, σ₂, rfl, hlt, hJ₂, S₂⟩
  · rw [decide_eq_false hlt]
    have : i = N := by lia
    subst this
    exact wpAny_execs_nil (done σ' s₁ hJ S₁)

/-- x += c, x a local -/
theorem Sta.augAdd (S : Sta Xc X env σ μ h₀ s₀ s) {e : Expr} {i j : Int} (hx : σ x = some (.int i)) (he : Ev prog w A env X s.heap e (.int j)) (hk : env.scope.kind = .function) (hl : env.kindOf x = some .local) (hn : ∀ p ∈ μ, p.1 ≠ x)
    (k : ∀ s', Sta Xc X env (upd σ x (.int (i + j))) μ h₀ s₀ s' → wpAny (model prog w) A (execs rest env) Q E s') : wpAny (model prog w) A (execs (.AugAssign (.Name x px) .Add e pos :: rest) env) Q E s := by
  obtain ⟨v, hv, rv⟩ := S.vars x _ hx
  rcases hv with ⟨_, m, n, em⟩ | ⟨k', _⟩
  · refine wpAny_execs_cons (wpAny_AugAssign_Name (wpAny_loadName_local hk hl n em (wpAny_mono (he s E (Sub.refl _) S.live) (fun u s₁ h₁ => ?_) fun _ _ e => e)))
    obtain ⟨ru, kp⟩ := h₁
    obtain ⟨_, rfl⟩ := rep_int rv; obtain ⟨_, rfl⟩ := rep_int ru
    refine PySem.P.iadd_int ?_
    have S₁ := (S.grow kp).grow (Kp.toks _ (s₁.toks + 1))
    exact S₁.storeRaw hk (.inl hl) hn fun s₂ S₂ hv hap => k s₂ (S₂.put hv (.int _ _))
  · rw [hl] at k'; cases k'

/-- x = y = e, an int -/
theorem Sta.assign2 (S : Sta Xc X env σ μ h₀ s₀ s) {e : Expr} {t : T} (he : Ev prog w A env X s.heap e t) (hp : plainT t = true) (hk : env.scope.kind = .function) (hx : Storable env x) (hy : Storable env y) (hn : ∀ p ∈ μ, p.1 ≠ x) (hm : ∀ p ∈ μ, p.1 ≠ y)
    (hw : swappedStores [.Name x px, .Name y py] e env = pure none)
    (k : ∀ s', Sta Xc X env (upd (upd σ x t) y t) μ h₀ s₀ s' → wpAny (model prog w) A (execs rest env) Q E s') : wpAny (model prog w) A (execs (.Assign [.Name x px, .Name y py] e pos :: rest) env) Q E s := by
  refine wpAny_execs_cons (wpAny_Assign_two (wpAny_mono (he s E (Sub.refl _) S.live) (fun v s₁ h₁ => ?_) fun _ _ e => e) rfl hw)
  have S₁ := S.grow h₁.2
  refine wpAny_assign_Name (S₁.storeRaw hk hx hn fun s₂ S₂ hv hap => ?_)
  have S₃ := S₂.put hv (rep_plain h₁.1 hp)
  exact wpAny_assign_Name (S₃.storeRaw hk hy hm fun s₄ S₄ hv hap => k s₄ (S₄.put hv (rep_plain h₁.1 hp)))

/-- x[i] = e -/
theorem Sta.setAt {l₁ l₂ : Mu} {a : Addr} {ts : List T} (S : Sta Xc X env σ (l₁ ++ (x, a, ts) :: l₂) h₀ s₀ s) {e ie : Expr} {t : T} {i : Nat} {np sp : Pos} (he : Ev prog w A env X s.heap e t) (hi : Ev prog w A env X s.heap ie (.int i)) (hlt : i < ts.length) (hl : ts.length ≤ 1000) (hk : env.scope.kind = .function)
    (hd : (x == ("__debug__" : Str)) = false)
    (hsw : swapsWith e (some (.Subscript (.Name x np) ie sp)) pos.line env = pure false)
    (k : ∀ s', Sta Xc X env σ (l₁ ++ (x, a, ts.set i t) :: l₂) h₀ s₀ s' → wpAny (model prog w) A (execs rest env) Q E s') :
    wpAny (model prog w) A (execs (.Assign [.Subscript (.Name x np) ie sp] e pos :: rest) env) Q E s := by
  refine wpAny_execs_cons (wpAny_Assign_Subscript (wpAny_mono (he s E (Sub.refl _) S.live) (fun v s₁ h₁ => ?_) fun _ _ e => e) hsw)
  have S₁ := S.grow h₁.2
  obtain ⟨hv, vs, hp, hr⟩ := S₁.muts (x, a, ts) (List.mem_append_right _ (List.mem_cons_self ..))
  refine (hv.loads hk hd) _ _ _ _ _ _ (Sub.refl _) (wpAny_mono (hi s₁ E (Kp.sub h₁.2) S₁.live) (fun u s₂ h₂ => ?_) fun _ _ e => e)
  obtain ⟨ru, kp⟩ := h₂
  obtain ⟨_, rfl⟩ := rep_int ru
  have S₂ := S₁.grow kp
  obtain ⟨n, hp'⟩ := id hp
  have hp₂ := Kp.sub kp _ _ hp'
  have hl2 : vs.length = ts.length := hr.length
  refine ki_setAt hp₂ (by lia) (by lia) (by simp only [List.size_toArray]; lia) (k _ (S₂.setMut (vs := vs.set i v) (Heap.SameBut.update ..) ?_ ?_))
  · have := IsL.update hp₂ (fun xs => xs.setIfInBounds i v)
    exact ⟨_, by simpa using this⟩
  · have set_reps : ∀ {vs : List Value} {ts : List T} {h : Heap} {v : Value} {t : T}, Reps X h vs ts → Rep X h v t → ∀ i, Reps X h (vs.set i v) (ts.set i t) := by
      intro vs ts h v t r rv
      induction vs generalizing ts with
      | nil => cases r; intro i; exact .nil
      | cons a vs ih =>
        cases r with
        | cons ra r =>
          intro i
          cases i with
          | zero => exact .cons rv r
          | succ i => exact .cons ra (ih r i)
    exact set_reps (hr.mono (Kp.sub kp)) (h₁.1.mono (Kp.sub kp)) i

/-- an expression that makes a list -/
noncomputable def EvNew (prog : Program) (w : World) (A : Around) (env : Env) (h : Heap) (e : Expr) (ts : List T) : Prop :=
  ∀ (s : Shared) (E : Value → Shared → Prop), Sub h s.heap →
    wpAny (model prog w) A (eval e env) (fun v s' => (∃ (a : Addr) (vs : List Value), v = .ref a ∧ s.heap.get? a = Option.none ∧ s'.heap.PlainList a vs.toArray ∧ ∀ X h, Reps X h vs ts) ∧ Keeps s s') E s
theorem Sta.assignNew (S : Sta Xc X env σ μ h₀ s₀ s) {e : Expr} {ts : List T} (he : EvNew prog w A env s.heap e ts) (hk : env.scope.kind = .function) (hx : Storable env x) (hn : ∀ p ∈ μ, p.1 ≠ x)
    (hsw : swapsWith e (some (.Name x px)) pos.line env = pure false)
    (k : ∀ a s', Sta Xc (a :: X) env (del σ x) ((x, a, ts) :: μ) h₀ s₀ s' → wpAny (model prog w) A (execs rest env) Q E s') : wpAny (model prog w) A (execs (.Assign [.Name x px] e pos :: rest) env) Q E s := by
  refine wpAny_execs_cons (wpAny_Assign_Name (wpAny_mono (he s E (Sub.refl _)) (fun v s₁ h₁ => ?_) fun _ _ e => e) hsw)
  obtain ⟨⟨a, vs, rfl, hfr, hp, hr⟩, kp⟩ := h₁
  obtain ⟨n, hp'⟩ := id hp
  have S₂ : Sta Xc (a :: X) env σ μ h₀ s₀ s₁ := S.more hfr kp ⟨_, hp'⟩
  have hno : a ∉ own env μ := fun m => by
    obtain ⟨o, e⟩ := S.live _ (S.sub _ m)
    rw [hfr] at e; cases e
  refine S₂.storeRaw hk hx hn fun s₃ S₃ hv hap => k a s₃ ?_
  refine S₃.putMut hv (hp.at fun o e => hap _ o (fun m => hno (own_nil m)) e) (hr _ _) (List.mem_cons_self ..) hno ?_
  cases z : h₀.get? a with
  | none => rfl
  | some o => rw [S.keep _ o z] at hfr; cases hfr

theorem lower_fits {x : Str} (h : (Txt.lower x).length ≤ 1000) : Builtin.Str.tooLong (Txt.lower x).length = false := by
  unfold Builtin.Str.tooLong
  exact decide_eq_false (Nat.not_lt.mpr (Nat.le_trans h (by decide)))
/-- e.lower() -/
theorem Ev.lower {e : Expr} {u : Str} {ap cp : Pos} (he : Ev prog w A env X h e (.str u)) (hl : (Txt.lower u).length ≤ 1000) (hb : attributeBase e "lower" env (eval e env) = eval e env) (hline : (ap.endLine == cp.line) = true) :
    Ev prog w A env X h (.Call (.Attribute e "lower" ap) [] [] cp) (.str (Txt.lower u)) := fun s E q lv => by
  refine wpAny_Call_method_lateS hb rfl hline (wpAny_mono (he s E q lv) (fun v s₁ h₁ => ?_) fun _ _ e => e)
  obtain ⟨rv, kp⟩ := h₁
  obtain ⟨_, rfl⟩ := rep_str rv
  exact SB.lower (lower_fits hl) ⟨.str _ _, Kp.trans kp (Kp.toks _ _)⟩
end
end Mine
end

-- F13
section
open PySem PySem.W PyProof.Rows PySem.Calls
set_option linter.unusedVariables false
namespace Mine
section
variable {prog : Program} {w : World} {A : Around} {env : Env} {h : Heap} {pos : Pos}

theorem items_reps {a c : Int} {n : Nat} {acc : Array Value} (hi : ItemsOf (fun i v => ∃ t, v = Value.int (a + i * c) t) acc n) (X : List Addr) (h : Heap) : Reps X h acc.toList ((List.range n).map fun (i : Nat) => T.int (a + i * c)) := by
  obtain ⟨hs, hv⟩ := hi
  have key : ∀ (l : List Value) (k : Nat), (∀ (j : Nat) v, l[j]? = some v → ∃ t, v = Value.int (a + ((k + j : Nat) : Int) * c) t) → Reps X h l ((List.range' k l.length).map fun (i : Nat) => T.int (a + i * c)) := by
    intro l
    induction l with
    | nil => intro k _; exact .nil
    | cons v l ih =>
      intro k hk
      obtain ⟨t, rfl⟩ := hk 0 v rfl
      simp only [List.length_cons, List.range'_succ, List.map_cons]
      refine .cons (.int _ _) (ih (k + 1) fun j u hj => ?_)
      obtain ⟨t, e⟩ := hk (j + 1) u (by simpa using hj)
      exact ⟨t, by rw [e]; congr 3; lia⟩
  have := key acc.toList 0 (fun j v hj => by simpa using hv j v (by simpa using hj))
  rw [List.range_eq_range']
  have e : acc.toList.length = n := by simpa using hs
  rw [e] at this
  exact this

theorem list_of_range {s s₁ : Shared} {r : Addr} {a b c : Int} {t u v : Tok} {n : Nat} {E : Value → Shared → Prop} (hh : A.handled = none) (kp : Keeps s s₁) (hr : IsRange s₁.heap r a b c t u v) (hsm : Builtin.Range.small a b c = true) (hn : Builtin.Range.rangeSize a b c = (n : Int)) (hl : n ≤ 1000) :
    wpAny (model prog w) A (call (.type "list") [.ref r]) (fun v s' => (∃ (a' : Addr) (vs : List Value), v = .ref a' ∧ s.heap.get? a' = Option.none ∧ s'.heap.PlainList a' vs.toArray ∧ ∀ X h, Reps X h vs ((List.range n).map fun (i : Nat) => T.int (a + i * c))) ∧ Keeps s s') E s₁ := by
  refine call_list_range hh hr hsm hn (Nat.le_trans hl (by decide)) fun h' tk acc' c' hk hS hacc => ?_
  refine ⟨⟨s₁.heap.objs.size, acc'.toList, rfl, ?_, ⟨c', by rw [Array.toArray_toList]; exact hS⟩, items_reps hacc⟩, Kp.trans kp (Kp.heap _ hk)⟩
  cases z : s.heap.get? s₁.heap.objs.size with
  | none => rfl
  | some o => exact absurd (Heap.lt_size (Kp.sub kp _ _ z)) (Nat.lt_irrefl _)

theorem EvNew.range3 {f g : Str} {np mp rp : Pos} {e1 e2 e3 : Expr} {a b c : Int} {n : Nat} (hh : A.handled = none) (l : Loads env h f (.type "list")) (lr : Loads env h g (.type "range"))
    (x1 : Ev prog w A env [] h e1 (.int a)) (x2 : Ev prog w A env [] h e2 (.int b)) (x3 : Ev prog w A env [] h e3 (.int c)) (hc : c ≠ 0) (hc2 : c.natAbs < 1073741824) (hsm : Builtin.Range.small a b c = true) (hn : Builtin.Range.rangeSize a b c = (n : Int)) (hl : n ≤ 1000)
    (h1 : starEach [e1, e2, e3] env = (false, eval e1 env) :: starEach [e2, e3] env) (h2 : starEach [e2, e3] env = (false, eval e2 env) :: starEach [e3] env) (h3 : starEach [e3] env = (false, eval e3 env) :: starEach [] env)
    (h0 : starEach [.Call (.Name g mp) [e1, e2, e3] [] rp] env = (false, eval (.Call (.Name g mp) [e1, e2, e3] [] rp) env) :: starEach [] env) :
    EvNew prog w A env h (.Call (.Name f np) [.Call (.Name g mp) [e1, e2, e3] [] rp] [] pos) ((List.range n).map fun (i : Nat) => T.int (a + i * c)) := fun s E q => by
  refine wpAny_Call_NameR (l _ _ _ _ _ _ q ?_)
  refine PyProof.Rows.callWith_type1 (args_cons ?_ h0) h0 rfl
  refine wpAny_Call_NameR (lr _ _ _ _ _ _ q ?_)
  refine PyProof.Rows.callWith_type1 (wpAny_mono ((Evs.cons x1 (Evs.cons x2 (Evs.cons x3 Evs.nil h3) h2) h1) rp s E q (fun a m => nomatch m)) (fun vs s₁ h₁ => ?_) fun _ _ e => e) h1 (by rw [h2, h3]; rfl)
  obtain ⟨r, kp⟩ := h₁
  obtain ⟨v1, v2, v3, rfl, r1, r2, r3⟩ := reps3 r
  obtain ⟨_, rfl⟩ := rep_int r1; obtain ⟨_, rfl⟩ := rep_int r2; obtain ⟨_, rfl⟩ := rep_int r3
  refine call_range_3 hc ?_ (Or.inl (PyProof.noPylong_small hc2))
  refine args_nil ?_
  exact list_of_range hh (Kp.trans kp (Kp.heap _ (Sub.push _ _))) (IsRange.new ..) hsm hn hl
theorem EvNew.range2 {f g : Str} {np mp rp : Pos} {e1 e2 : Expr} {a b : Int} {n : Nat} (hh : A.handled = none) (l : Loads env h f (.type "list")) (lr : Loads env h g (.type "range"))
    (x1 : Ev prog w A env [] h e1 (.int a)) (x2 : Ev prog w A env [] h e2 (.int b)) (hsm : Builtin.Range.small a b 1 = true) (hn : Builtin.Range.rangeSize a b 1 = (n : Int)) (hl : n ≤ 1000)
    (h1 : starEach [e1, e2] env = (false, eval e1 env) :: starEach [e2] env) (h2 : starEach [e2] env = (false, eval e2 env) :: starEach [] env)
    (h0 : starEach [.Call (.Name g mp) [e1, e2] [] rp] env = (false, eval (.Call (.Name g mp) [e1, e2] [] rp) env) :: starEach [] env) :
    EvNew prog w A env h (.Call (.Name f np) [.Call (.Name g mp) [e1, e2] [] rp] [] pos) ((List.range n).map fun (i : Nat) => T.int (a + i * 1)) := fun s E q => by
  refine wpAny_Call_NameR (l _ _ _ _ _ _ q ?_)
  refine PyProof.Rows.callWith_type1 (args_cons ?_ h0) h0 rfl
  refine wpAny_Call_NameR (lr _ _ _ _ _ _ q ?_)
  refine PyProof.Rows.callWith_type1 (wpAny_mono ((Evs.cons x1 (Evs.cons x2 Evs.nil h2) h1) rp s E q (fun a m => nomatch m)) (fun vs s₁ h₁ => ?_) fun _ _ e => e) h1 (by rw [h2]; rfl)
  obtain ⟨r, kp⟩ := h₁
  obtain ⟨v1, v2, rfl, r1, r2⟩ := reps2 r
  obtain ⟨_, rfl⟩ := rep_int r1; obtain ⟨_, rfl⟩ := rep_int r2
  refine call_range_2 ?_
  refine args_nil ?_
  exact list_of_range hh (Kp.trans kp (Kp.heap _ (Sub.push _ _))) (IsRange.new ..) hsm hn hl
end
end Mine
end

-- S1
section
open PySem PySem.W PyProof.Rows PySem.Calls
set_option linter.unusedVariables false
namespace Mine
noncomputable def strOf (l : List Nat) : Str := ⟨l.toArray⟩
theorem strOf_length (l : List Nat) : (strOf l).length = l.length := by simp [strOf, Str.length]
theorem strOf_inj {a b : List Nat} : strOf a = strOf b ↔ a = b := by
  constructor
  · intro h
    have := congrArg Str.cps h
    simpa [strOf] using this
  · rintro rfl; rfl
theorem pick_drop {α : Type} (l : List α) : ∀ (k i : Nat), i + k = l.length → ((List.range k).map (i + ·)).filterMap (l[·]?) = l.drop i := by
  intro k
  induction k with
  | zero => intro i h; simp [List.drop_of_length_le (show l.length ≤ i by lia)]
  | succ k ih =>
    intro i h
    have hi : i < l.length := by lia
    rw [List.range_succ_eq_map, List.map_cons, List.map_map, List.filterMap_cons, Nat.add_zero, List.getElem?_eq_getElem hi]
    have := ih (i + 1) (by lia)
    rw [List.drop_eq_getElem_cons hi, ← this]
    simp only
    congr 2
    apply List.map_congr_left
    intro a _
    simp; lia
theorem idx_from (i n : Nat) (hi : i ≤ n) : Builtin.Str.strSliceIndices (some (i : Int)) none 1 n = (List.range (n - i)).map (i + ·) := by
  unfold Builtin.Str.strSliceIndices
  simp only [show (1 : Int) > 0 by decide, if_true]
  rw [if_neg (by lia), show max 0 (min (i : Int) n) = (i : Int) by lia]
  exact sliceRange_one i n
theorem idx_all (n : Nat) : Builtin.Str.strSliceIndices none none 1 n = (List.range n).map (0 + ·) := by
  unfold Builtin.Str.strSliceIndices
  simp only [show (1 : Int) > 0 by decide, if_true]
  have := sliceRange_one 0 n
  simpa using this
theorem slice_from (l : List Nat) (i : Nat) (hi : i ≤ l.length) : Txt.slice (strOf l) (some (i : Int)) none = strOf (l.drop i) := by
  unfold Txt.slice
  rw [strOf_length, idx_from i l.length hi]
  split
  · rename_i h
    have : l.length - i = l.length := by simpa using h
    rcases Nat.eq_zero_or_pos i with rfl | hp
    · rfl
    · have : l = [] := List.eq_nil_of_length_eq_zero (by lia)
      subst this
      simp
  · have := pick_drop l (l.length - i) i (by lia)
    show (⟨_⟩ : Str) = _
    unfold strOf
    congr 1
    rw [← this]
    simp
theorem slice_all (l : List Nat) : Txt.slice (strOf l) none none = strOf l := by
  unfold Txt.slice
  rw [strOf_length, idx_all, if_pos (by simp)]
theorem seq_nat (i n : Nat) (hi : i < n) : seqIndex? (i : Int) n = some i := by
  have h1 : ¬ ((i : Int) < 0) := by lia
  simp [seqIndex?, h1, hi]
theorem seq_last (n : Nat) (hn : 0 < n) : seqIndex? (-1) n = some (n - 1) := by
  have h2 : (0 : Int) ≤ -1 + (n : Int) := by lia
  have h3 : (-1 + (n : Int)) < n := by lia
  have h4 : (-1 + (n : Int)).toNat = n - 1 := by lia
  unfold seqIndex?
  simp only [show (-1 : Int) < 0 by decide, if_true]
  rw [if_pos (by simp [h2, h3]), h4]
theorem char_nat (l : List Nat) (i : Nat) (hi : i < l.length) : Txt.charAt (strOf l) (i : Int) = some (l.getD i 0) := by
  unfold Txt.charAt
  rw [strOf_length, seq_nat i _ hi]
  simp [strOf, List.getD_eq_getElem?_getD, hi]
theorem char_last (l : List Nat) (hl : 0 < l.length) : Txt.charAt (strOf l) (-1) = some (l.getD (l.length - 1) 0) := by
  unfold Txt.charAt
  rw [strOf_length, seq_last _ hl]
  simp only [Option.bind_some, strOf, List.getElem?_toArray, getD_get l (l.length - 1) 0 (by lia)]
end Mine
end

-- F14
section
open PySem PySem.W PyProof.Rows PySem.Calls
set_option linter.unusedVariables false
namespace Mine
section
variable {prog : Program} {w : World} {A : Around} {Xc X : List Addr} {σ : Str → Option T} {μ : Mu} {h₀ g h h' : Heap} {s₀ s s' : Shared} {x y : Str} {env : Env} {px py pos : Pos} {rest : List Stmt}

theorem Sta.lessBase (S : Sta Xc X env σ μ h₀ s₀ s) (q : Sub g h₀) : Sta Xc X env σ μ g s₀ s := by
  have no : ∀ a, h₀.get? a = none → g.get? a = none := fun a e => by
    cases z : g.get? a with
    | none => rfl
    | some o => rw [q a o z] at e; cases e
  exact { S with keep := q.trans S.keep, off := fun a m => no a (S.off a m), nw := fun a m => (S.nw a m).imp id (no a) }

/-- a mutable list's items change, new objects may be made -/
theorem Sta.setMutE {l₁ l₂ : Mu} {a : Addr} {ts ts' : List T} {vs : List Value} {h' : Heap} (tk : Nat) (S : Sta Xc X env σ (l₁ ++ (x, a, ts) :: l₂) h₀ s₀ s) (hs : ∀ b o, b ≠ a → s.heap.get? b = some o → h'.get? b = some o) (hp : h'.PlainList a vs.toArray) (r : Reps X h' vs ts') :
    Sta Xc X env σ (l₁ ++ (x, a, ts') :: l₂) h₀ s₀ { s with heap := h', toks := tk } := by
  have eo : own env (l₁ ++ (x, a, ts') :: l₂) = own env (l₁ ++ (x, a, ts) :: l₂) := by unfold own; simp
  have hmem : a ∈ own env (l₁ ++ (x, a, ts) :: l₂) := by unfold own; simp
  have hnd := S.sep
  unfold own at hnd
  rw [List.map_append, List.map_cons] at hnd
  have haX := S.sub a hmem
  have ap : ∀ b o, b ∉ X → s.heap.get? b = some o → h'.get? b = some o := fun b o nb e => hs b o (fun q => nb (q ▸ haX)) e
  rw [List.nodup_cons] at hnd
  obtain ⟨hnL, hnR⟩ := hnd
  have nl : env.locals ≠ a := fun q => hnL (q ▸ List.mem_append_right _ (List.mem_append_right _ (List.mem_cons_self ..)))
  obtain ⟨_, hnM, hdis⟩ := List.nodup_append.mp hnR
  have nc : ∀ c, c ∈ (oc env).map (·.2) → c ≠ a := fun c m => hdis c m a (List.mem_append_right _ (List.mem_cons_self ..))
  have cellK : ∀ {c v}, c ≠ a → s.heap.IsCell c v → h'.IsCell c v := fun {c v} n ⟨o, ho, hd⟩ => ⟨o, hs c o n ho, hd⟩
  have hv : ∀ x v, Var env s.heap x v → Var env h' x v := fun x v p => p.elim
    (fun ⟨k, m, n, e⟩ => .inl ⟨k, m, n.at' fun o e => hs _ o nl e, e⟩)
    (fun ⟨k, c', l, e⟩ => .inr ⟨k, c', l, cellK (nc _ (List.mem_map_of_mem (f := fun p : Str × Addr => p.2) (mem_oc k l))) e⟩)
  have hoth : ∀ p ∈ l₁ ++ l₂, p.2.1 ≠ a := by
    have h1 : ∀ b ∈ (l₁.map (·.2.1)), b ≠ a := fun b m => (List.nodup_append.mp hnM).2.2 b m a (List.mem_cons_self ..)
    have h2 := (List.nodup_cons.mp (List.nodup_append.mp hnM).2.1).1
    intro p m q
    rcases List.mem_append.mp m with m | m
    · exact h1 p.2.1 (List.mem_map_of_mem (f := fun p : Str × Addr × List T => p.2.1) m) q
    · have := List.mem_map_of_mem (f := fun p : Str × Addr × List T => p.2.1) m
      rw [q] at this
      exact h2 this
  refine { sh := ?_, keep := ?_, frame := ?_, cells := ?_, vars := ?_, muts := ?_, sep := by rw [eo]; exact S.sep, sub := by rw [eo]; exact S.sub, cal := S.cal, live := ?_, off := by rw [eo]; exact S.off, nw := S.nw }
  · obtain ⟨c, d, e⟩ := S.sh; exact ⟨h', tk, by rw [e]⟩
  · exact fun b o e => hs b o (fun q => by rw [q, S.off a hmem] at e; cases e) (S.keep b o e)
  · obtain ⟨m, n⟩ := S.frame; exact ⟨m, n.at' fun o e => hs _ o nl e⟩
  · intro p hp
    obtain ⟨v, e⟩ := S.cells p hp
    exact ⟨v, cellK (nc _ (List.mem_map_of_mem (f := fun p : Str × Addr => p.2) hp)) e⟩
  · intro y t e
    obtain ⟨v, c, d⟩ := S.vars y t e
    exact ⟨v, hv _ _ c, d.apart ap⟩
  · intro p m
    have hm : p = (x, a, ts') ∨ p ∈ l₁ ++ l₂ := by
      rcases List.mem_append.mp m with m | m
      · exact .inr (List.mem_append_left _ m)
      · rcases List.mem_cons.mp m with e | m
        · exact .inl e
        · exact .inr (List.mem_append_right _ m)
    rcases hm with e | m
    · subst e
      exact ⟨hv _ _ (S.muts (x, a, ts) (List.mem_append_right _ (List.mem_cons_self ..))).1, vs, hp, r⟩
    · have m' : p ∈ l₁ ++ (x, a, ts) :: l₂ := (List.mem_append.mp m).elim (List.mem_append_left _) fun m => List.mem_append_right _ (List.mem_cons_of_mem _ m)
      obtain ⟨c, us, d, e⟩ := S.muts p m'
      exact ⟨hv _ _ c, us, d.at fun o e => hs _ o (hoth p m) e, e.apart ap⟩
  · intro b hb
    by_cases q : b = a
    · obtain ⟨n, e⟩ := hp; exact ⟨_, q ▸ e⟩
    · obtain ⟨o, e⟩ := S.live b hb
      exact ⟨o, hs b o q e⟩

/-- the call of a def that a def has made -/
theorem enterX {name qual : Str} {params : Arguments} {body : List Stmt} {scope : Scope} {cl : List (Str × Addr)} {dV kV doc pm cdv ct : Value} {an : Option Addr} {f : Addr} {fo : Obj} {vs : List Value} {binds : List (Str × Value)} {Q E : Value → Shared → Prop}
    (hlim : s.heap.NoLimit) (lv : Live X s.heap) (ho : s.heap.get? f = some fo) (hd : fo.data = .func (fnX name qual params body scope cl dV kV doc pm an cdv ct)) (hcd : s.heap.CodeRec cdv qual) (hroom : A.depth < recursionLimit)
    (hbind : bindArgs (fnX name qual params body scope cl dV kV doc pm an cdv ct) ⟨vs, []⟩ = pure binds) (hloc : ∀ y ∈ binds, scope.names.lookup y.1 = some .local) (hcell : ∀ y ∈ scope.names, y.2 ≠ .cell)
    (hoc : ∀ L, oc (envX qual scope L f cdv cl) = []) (hco : scope.isCoroutine = false) (hgen : scope.isGenerator = false) (hk : scope.kind = .function)
    (k : ∀ (L : Addr) (s₁ : Shared), (∀ v t, Rep X s.heap v t → Rep (L :: X) s₁.heap v t) →
      (∀ x v, (envX qual scope L f cdv cl).kindOf x = some .local → binds.reverse.lookup x = some v → Var (envX qual scope L f cdv cl) s₁.heap x v) →
      Sta X (L :: X) (envX qual scope L f cdv cl) (fun _ => none) [] s.heap s s₁ →
      wpAny (model prog w) (A.deeper (envX qual scope L f cdv cl)) (execs body (envX qual scope L f cdv cl)) (fun fl s' => Q (match fl with | .ret v => v | _ => .none) s') (fun _ _ => False) s₁) :
    wpAny (model prog w) A (call (.ref f) vs) Q E s := by
  refine wpAny_call (codeAny_call_def (fd := fnX name qual params body scope cl dV kV doc pm an cdv ct) (body := body) (binds := binds) hroom ho hd hlim hcd rfl (BindsTo.of_eq hbind) hcell hloc (fun h₁ hns hk₁ => ?_) hco hgen hk)
  have fresh : s.heap.get? s.heap.objs.size = none := Heap.get?_none_of_le (Nat.le_refl _)
  have hfrm : ∃ o, h₁.get? s.heap.objs.size = some o := let ⟨o, _, _, ho, _⟩ := hns; ⟨o, ho⟩
  have eown : own (envX qual scope s.heap.objs.size f cdv cl) [] = [s.heap.objs.size] := by
    unfold own; rw [hoc]; rfl
  have S : Sta X (s.heap.objs.size :: X) (envX qual scope s.heap.objs.size f cdv cl) (fun _ => none) [] s.heap s { s with heap := h₁, toks := s.toks + binds.length } := by
    refine { sh := ⟨_, _, rfl⟩, keep := hk₁, frame := ⟨_, hns⟩, cells := ?_, vars := (fun _ _ e => by cases e), muts := (fun _ hp => by cases hp), sep := ?_, sub := ?_, cal := fun a m => List.mem_cons_of_mem _ m, live := ?_, off := ?_, nw := ?_ }
    · intro p hp; rw [hoc] at hp; cases hp
    · rw [eown]; simp
    · intro a m; rw [eown] at m; rw [List.mem_singleton.mp m]; exact List.mem_cons_self ..
    · intro a m
      rcases List.mem_cons.mp m with e | m
      · exact e ▸ hfrm
      · exact (lv.mono hk₁) a m
    · intro a m; rw [eown] at m; rw [List.mem_singleton.mp m]; exact fresh
    · intro a m
      rcases List.mem_cons.mp m with e | m
      · exact .inr (e ▸ fresh)
      · exact .inl m
  refine wpAny_mono (k s.heap.objs.size _ ?_ ?_ S) (fun fl s' hl => hl) fun _ _ e => e.elim
  · intro v t r
    exact (r.weaken fun a m => (List.mem_cons.mp m).elim (fun e => .inr (e ▸ fresh)) .inl).mono hk₁
  · intro y v k1 e1
    exact .inl ⟨k1, _, hns, e1⟩
end
end Mine
end

-- A1
section
open PySem PySem.W PyProof.Rows PySem.Calls
set_option linter.unusedVariables false
set_option maxRecDepth 100000
set_option maxHeartbeats 4000000
namespace Mine
noncomputable abbrev KK (w : World) : Frag := hd.heap_39 w.params
noncomputable abbrev pr : Program := Challenge.rw_re0103_01.row.prog
/-- places from the lowest at which a and b differ, twice -/
noncomputable def apartF (a b : Int) (bits : Nat) : Int := 2 * (((rng 1 (6 / bits)).filter fun k => (a - b) % 2 ^ (bits * k.toNat) != 0).length : Int)
noncomputable def T.num : T → Int
  | .int i => i
  | _ => 0
theorem mem_rngT {a : Int} {n : Nat} {t : T} (m : t ∈ (rng a n).map T.int) : ∃ k, t = .int k ∧ a ≤ k ∧ k < a + n := by
  obtain ⟨k, hk, rfl⟩ := List.mem_map.mp m
  exact ⟨k, rfl, mem_rng.mp hk⟩
theorem apart_c (w : World) {A : Around} {X : List Addr} {s : Shared} {E : Value → Shared → Prop} {vs : List Value} (hh : A.handled = none) (hdp : A.depth < recursionLimit) (G : Gl (KK w) s.heap) (lv : Live X s.heap) {a b : Int} {bits : Nat} (hb : bits = 2 ∨ bits = 3)
    (r : Reps X s.heap vs [.int a, .int b, .int bits]) : wpAny (model pr w) A (call (.ref 57) vs) (fun v s' => Rep X s'.heap v (.int (apartF a b bits)) ∧ Keeps s s') E s := by
  obtain ⟨v1, v2, v3, rfl, r1, r2, r3⟩ := reps3 r
  refine enter (K := KK w) (f := 57) G lv rfl rfl hdp rfl rfl (by decide) rfl rfl rfl fun L s₁ G₁ up var S => ?_
  have S₁ := ((S.add (var "a" v1 (.inr ⟨rfl, rfl, rfl⟩)) (up _ _ r1)).add (var "b" v2 (.inr ⟨rfl, rfl, rfl⟩)) (up _ _ r2)).add (var "bits" v3 (.inr ⟨rfl, rfl, rfl⟩)) (up _ _ r3)
  have hb1 : (6 : Int) / bits + 1 ≤ 100000 := by rcases hb with rfl | rfl <;> decide
  have hb2 : (-100000 : Int) ≤ 6 / bits + 1 := by rcases hb with rfl | rfl <;> decide
  have hb3 : ((6 : Int) / bits + 1 - 1).toNat = 6 / bits := by rcases hb with rfl | rfl <;> decide
  refine S₁.ret (Ev.mul Ev.int (Ev.callB (G₁.loadsB rfl (by decide +kernel) (by decide) rfl rfl rfl rfl rfl) (Evs.cons (Ev.comp (fun t => (a - b) % 2 ^ (bits * t.num.toNat) != 0) T.num rfl (by decide) rfl (by decide) rfl (fun _ => rfl)
    (Src.range2 hh (G₁.loadsB rfl (by decide +kernel) (by decide) rfl rfl rfl rfl rfl) Ev.int (Ev.add (Ev.fdiv Ev.int (S₁.name rfl rfl rfl) (by lia) (by lia)) Ev.int) hb2 hb1 (by decide) (by decide) rfl rfl) ?_ ?_) Evs.nil rfl) rfl (fun _ => rfl) fun s E vs _ _ r => c_len ?_ s E vs r) (IntMulOk.of_left (by decide +kernel))) S₁.live fun v s' rv kp => ⟨v, rfl, ?_, ?_⟩
  · intro C h' m v t ht q n e rv
    obtain ⟨k, rfl, k0, k1⟩ := mem_rngT ht
    rw [hb3] at k1
    have hk2 : (0 : Int) ≤ bits * k ∧ (bits : Int) * k < 1000 ∧ ((bits : Int) * k).toNat = bits * k.toNat := by
      rcases hb with rfl | rfl
      · have : k < 4 := by simpa using k1
        lia
      · have : k < 3 := by simpa using k1
        lia
    refine Tests.one (Tr.eq (Tr.cmp (Ev.mod (Ev.sub (S₁.nameC rfl q rfl rfl rfl rfl rfl) (S₁.nameC rfl q rfl rfl rfl rfl rfl)) (Ev.pow Ev.int (Ev.mul (S₁.nameC rfl q rfl rfl rfl rfl rfl) (ev_own n e rv rfl rfl rfl) (IntMulOk.of_left ?_)) hk2.1 hk2.2.1) ?_) Ev.int rfl op_ne) ?_)
    · rcases hb with rfl | rfl <;> decide +kernel
    · exact Int.pow_pos (by decide)
    · rw [hk2.2.2]
      rfl
  · intro C h' m v t ht hp q n e rv
    obtain ⟨k, rfl, k0, k1⟩ := mem_rngT ht
    exact ev_own n e rv rfl rfl rfl
  · rw [List.length_map, List.length_map]
    refine Nat.le_trans (List.length_filter_le _ _) ?_
    rw [List.length_map, rng_length, hb3]
    rcases hb with rfl | rfl <;> decide
  · rw [filter_ints (fun k => (a - b) % 2 ^ (bits * k.toNat) != 0) _ (fun _ => rfl), List.length_map, List.length_map, List.length_map, hb3] at rv
    exact rep_plain rv rfl
  · exact Kp.trans S₁.keeps kp
end Mine
end

-- A2
section
open PySem PySem.W PyProof.Rows PySem.Calls
set_option linter.unusedVariables false
set_option maxRecDepth 100000
set_option maxHeartbeats 4000000
namespace Mine
noncomputable def bitOn (m : Int) (j : Nat) : Bool := m / 2 ^ j % 2 == 1
noncomputable def pairSum (row : List Int) (top : Nat) (rest : Int) : Int := (((rng 0 top).filter fun j => bitOn rest j.toNat).map fun j => row.getD j.toNat 0).sum
noncomputable def rimsIn (row : List Int) (top : Nat) (acc : List Int) (k : Nat) : List Int := (List.range k).foldl (fun acc rest => acc ++ [acc.getD rest 0 + pairSum row top rest]) acc
noncomputable def rimsAt (far : List (List Int)) (i : Nat) : List Int := (List.range i).foldl (fun acc top => rimsIn (far.getD top []) top acc (2 ^ top)) [0]
theorem rimsIn_succ (row : List Int) (top : Nat) (acc : List Int) (k : Nat) : rimsIn row top acc (k + 1) = rimsIn row top acc k ++ [(rimsIn row top acc k).getD k 0 + pairSum row top k] := by
  unfold rimsIn; rw [List.range_succ, List.foldl_append]; rfl
theorem rimsIn_length (row : List Int) (top : Nat) (acc : List Int) (k : Nat) : (rimsIn row top acc k).length = acc.length + k := by
  induction k with
  | zero => rfl
  | succ k ih => rw [rimsIn_succ, List.length_append, ih]; rfl
theorem rimsAt_succ (far : List (List Int)) (i : Nat) : rimsAt far (i + 1) = rimsIn (far.getD i []) i (rimsAt far i) (2 ^ i) := by
  unfold rimsAt; rw [List.range_succ, List.foldl_append]; rfl
theorem rimsAt_length (far : List (List Int)) (i : Nat) : (rimsAt far i).length = 2 ^ i := by
  induction i with
  | zero => rfl
  | succ i ih => rw [rimsAt_succ, rimsIn_length, ih, Nat.pow_succ]; lia
noncomputable abbrev farT (far : List (List Int)) : T := .list (far.map fun row => .list (row.map .int))

theorem rims_c (w : World) {A : Around} {X : List Addr} {s : Shared} {E : Value → Shared → Prop} {vs : List Value} (hh : A.handled = none) (hdp : A.depth < recursionLimit) (G : Gl (KK w) s.heap) (lv : Live X s.heap) {far : List (List Int)} (hlen : far.length ≤ 6)
    (hrow : ∀ i, i < far.length → (far.getD i []).length = i)
    (r : Reps X s.heap vs [farT far]) : wpAny (model pr w) A (call (.ref 62) vs) (fun v s' => Rep X s'.heap v (.list ((rimsAt far far.length).map .int)) ∧ Keeps s s') E s := by
  obtain ⟨v1, rfl, r1⟩ := reps1 r
  refine enter (K := KK w) (f := 62) G lv rfl rfl hdp rfl rfl (by decide) rfl rfl rfl fun L s₁ G₁ up var S => ?_
  have S₁ := S.add (var "far" v1 (.inr ⟨rfl, rfl, rfl⟩)) (up _ _ r1)
  refine S₁.newList (Evs.cons Ev.int Evs.nil rfl) (by decide) rfl (.inl rfl) (fun p hp => by cases hp) rfl fun a s₂ S₂ => ?_
  refine S₂.forIn rfl (.inr ⟨rfl, _, rfl⟩) (fun _ => rfl) (Src.range1 hh ((G.mono S₂.keep).loadsB rfl (by decide +kernel) (by decide) rfl rfl rfl rfl rfl)
      (Ev.callB ((G.mono S₂.keep).loadsB rfl (by decide +kernel) (by decide) rfl rfl rfl rfl rfl) (Evs.cons (S₂.name rfl rfl rfl) Evs.nil rfl) rfl (fun _ => rfl) fun s E vs _ _ r => c_len ?_ s E vs r) ?_ ?_ rfl)
    (fun i σ μ => σ "far" = some (farT far) ∧ ∃ a, μ = [(("rims" : Str), a, (rimsAt far i).map .int)]) ⟨rfl, a, rfl⟩ ?_ ?_ ?_
  · rw [List.length_map]; lia
  · lia
  · rw [List.length_map]; lia
  · rintro i σ μ ⟨_, b, rfl⟩
    exact mu_ne1 (by decide)
  · -- a turn of the outer loop
    rintro i t σ μ X₁ g s₃ E₃ ht ⟨hσ, b, rfl⟩ hg S₃
    have hi : i < far.length := by
      have := (List.getElem?_eq_some_iff.mp ht).1
      rw [List.length_map, rng_length, List.length_map] at this
      lia
    have et : t = .int i := by
      rw [List.getElem?_map, rng_get _ _ _ (by rw [List.length_map]; lia)] at ht
      simp at ht; exact ht.symm
    subst et
    have hσ' : (upd σ "top" (.int i)) "far" = some (farT far) := hσ
    refine S₃.forIn rfl (.inr ⟨rfl, _, rfl⟩) (fun _ => rfl) (Src.range1 hh (((G.mono hg).mono S₃.keep).loadsB rfl (by decide +kernel) (by decide) rfl rfl rfl rfl rfl)
        (Ev.pow Ev.int (S₃.name rfl rfl rfl) (by lia) (by lia)) ?_ ?_ rfl)
      (fun k σ μ => σ "far" = some (farT far) ∧ σ "top" = some (.int i) ∧ ∃ a, μ = [(("rims" : Str), a, (rimsIn (far.getD i []) i (rimsAt far i) k).map .int)]) ⟨hσ', rfl, b, rfl⟩ ?_ ?_ ?_
    · have : (0 : Int) < 2 ^ (i : Int).toNat := Int.pow_pos (by decide)
      lia
    · have : (2 : Nat) ^ i ≤ 2 ^ 6 := Nat.pow_le_pow_right (by decide) (by lia)
      simp only [Int.toNat_natCast]
      have e : ((2 : Int) ^ i) = ((2 ^ i : Nat) : Int) := by simp
      lia
    · rintro k σ μ ⟨_, _, b, rfl⟩
      exact mu_ne1 (by decide)
    · -- a turn of the inner loop
      rintro k t σ μ X₂ g₂ s₄ E₄ ht ⟨hσ1, hσ2, b, rfl⟩ hg₂ S₄
      have e2i : (2 : Int) ^ (i : Int).toNat = ((2 ^ i : Nat) : Int) := by simp
      have hk : k < 2 ^ i := by
        have := (List.getElem?_eq_some_iff.mp ht).1
        rw [List.length_map, rng_length, e2i] at this
        lia
      have et : t = .int k := by
        rw [List.getElem?_map, rng_get _ _ _ (by rw [e2i]; lia)] at ht
        simp at ht; exact ht.symm
      subst et
      have h26 : (2 : Nat) ^ i ≤ 2 ^ 6 := Nat.pow_le_pow_right (by decide) (by lia)
      have hl1 : (rimsIn (far.getD i []) i (rimsAt far i) k).length = 2 ^ i + k := by rw [rimsIn_length, rimsAt_length]
      have nf : (upd σ "rest" (.int k)) "far" = some (farT far) := hσ1
      have nt : (upd σ "rest" (.int k)) "top" = some (.int i) := hσ2
      have G₄ := ((G.mono hg).mono hg₂).mono S₄.keep
      refine Sta.append (l₁ := []) (l₂ := []) S₄ (t := .int ((rimsIn (far.getD i []) i (rimsAt far i) k).getD k 0 + pairSum (far.getD i []) i k)) (Ev.plain ?_ rfl) (by rw [List.length_map, hl1]; lia) rfl rfl rfl rfl rfl rfl rfl fun s₅ S₅ => ?_
      · refine Ev.add (Ev.itemL (S₄.mutF (List.mem_singleton_self _) rfl rfl) (S₄.nameF rfl rfl rfl) (by lia) (by lia) ?_)
          (Ev.callB (id := "sum") (G₄.loadsB rfl (by decide +kernel) (by decide) rfl rfl rfl rfl rfl) (Evs.cons (Ev.comp (fun t => bitOn k t.num.toNat) (fun t => (far.getD i []).getD t.num.toNat 0) rfl (by decide) rfl (by decide) rfl (fun _ => rfl)
            (Src.range1 hh (G₄.loadsB rfl (by decide +kernel) (by decide) rfl rfl rfl rfl rfl) (S₄.nameF nt rfl rfl) (by lia) (by lia) rfl) ?_ ?_) Evs.nil rfl) rfl (fun _ => rfl) fun s E vs _ _ r => ?_)
        · have hk' : k < (rimsIn (far.getD i []) i (rimsAt far i) k).length := by lia
          exact get_int _ k hk'
        · intro C h' m v t ht q n e rv
          obtain ⟨j, rfl, j0, j1⟩ := mem_rngT ht
          have hj : j < 6 := by lia
          have p1 : (2 : Int) ^ j.toNat < 1073741824 := by
            have : (2 : Nat) ^ j.toNat ≤ 2 ^ 6 := Nat.pow_le_pow_right (by decide) (by lia)
            have e : (2 : Int) ^ j.toNat = ((2 ^ j.toNat : Nat) : Int) := by simp
            lia
          refine Tests.one (Tr.eq (Tr.cmp (Ev.mod (Ev.fdiv (S₄.nameCF rfl q rfl rfl rfl rfl rfl) (Ev.pow Ev.int (ev_own n e rv rfl rfl rfl) j0 (by lia)) (Int.pow_pos (by decide)) p1) Ev.int (by decide)) Ev.int rfl op_eq) rfl)
        · intro C h' m v t ht hp q n e rv
          obtain ⟨j, rfl, j0, j1⟩ := mem_rngT ht
          have hj : j.toNat < (far.getD i []).length := by rw [hrow i hi]; lia
          refine Ev.itemL (l := (far.getD i []).map .int) (Ev.itemL (S₄.nameCF nf q rfl rfl rfl rfl rfl) (S₄.nameCF nt q rfl rfl rfl rfl rfl) (by lia) (by lia) ?_) (ev_own n e rv rfl rfl rfl) j0 (by lia) ?_
          · rw [List.getElem?_map, Int.toNat_natCast, getD_get far i [] hi]; rfl
          · exact get_int _ _ hj
        · have e : pairSum (far.getD i []) i (k : Int) = ((((rng 0 (i : Int).toNat).map T.int).filter (fun t : T => bitOn k t.num.toNat)).map (fun t => (far.getD i []).getD t.num.toNat 0)).sum := by
            rw [filter_ints (fun j => bitOn k j.toNat) _ (fun _ => rfl), List.map_map]; rfl
          rw [e]
          exact c_sum (A := A.deeper _) hh s E vs r
      · refine wpAny_execs_nil ⟨rfl, _, _, _, ⟨nf, nt, b, ?_⟩, S₅⟩
        rw [rimsIn_succ, List.map_append]
        rfl
    · -- the inner loop's end
      rintro σ μ X' s' ⟨hσ1, hσ2, b, rfl⟩ S'
      refine wpAny_execs_nil ⟨rfl, σ, _, X', ⟨hσ1, b, ?_⟩, S'⟩
      rw [rimsAt_succ, List.length_map, rng_length]
      have e2i : ((2 : Int) ^ (i : Int).toNat).toNat = 2 ^ i := by
        have : (2 : Int) ^ (i : Int).toNat = ((2 ^ i : Nat) : Int) := by simp
        rw [this]; exact Int.toNat_natCast _
      rw [e2i]
  · -- the outer loop's end
    rintro σ μ X' s' ⟨hσ, b, rfl⟩ S'
    have hl : ((rng 0 (((far.map fun row => T.list (row.map .int)).length : Nat) : Int).toNat).map T.int).length = far.length := by
      rw [List.length_map, rng_length, List.length_map]; lia
    rw [hl] at S'
    refine S'.retMut (List.mem_singleton_self _) rfl rfl lv fun v s'' rv kp => ⟨v, rfl, rv, kp⟩
end Mine
end

-- A3
section
open PySem PySem.W PyProof.Rows PySem.Calls
set_option linter.unusedVariables false
set_option maxRecDepth 100000
set_option maxHeartbeats 4000000
namespace Mine
noncomputable abbrev rowsT (l : List (List Nat)) : List T := l.map fun r => T.list (natT r)
theorem mu_ne2 {x y z : Str} {a b : Addr} {ts us : List T} (h : x ≠ y) (h' : z ≠ y) : ∀ p ∈ ([(x, a, ts), (z, b, us)] : Mu), p.1 ≠ y := fun p hp => by
  rcases List.mem_cons.mp hp with rfl | hp
  · exact h
  · rw [List.mem_singleton.mp hp]; exact h'
theorem pow2_small {c : Nat} (h : c < 7) : (2 : Int) ^ c < 1073741824 := by
  have : (2 : Nat) ^ c ≤ 2 ^ 6 := Nat.pow_le_pow_right (by decide) (by lia)
  have e : (2 : Int) ^ c = ((2 ^ c : Nat) : Int) := by simp
  lia

theorem greedy_c (w : World) {A : Around} {X : List Addr} {s : Shared} {E : Value → Shared → Prop} {vs : List Value} (hh : A.handled = none) (hdp : A.depth < recursionLimit) (G : Gl (KK w) s.heap) (lv : Live X s.heap) {rims : List Int} {n : Nat} (hn : n ≤ 6)
    (hr : rims.length = 2 ^ n)
    (r : Reps X s.heap vs [.list (rims.map .int), .int n]) : wpAny (model pr w) A (call (.ref 67) vs) (fun v s' => Rep X s'.heap v (.list (rowsT (waysAt rims n n))) ∧ Keeps s s') E s := by
  obtain ⟨v1, v2, rfl, r1, r2⟩ := reps2 r
  refine enter (K := KK w) (f := 67) G lv rfl rfl hdp rfl rfl (by decide) rfl rfl rfl fun L s₁ G₁ up var S => ?_
  have S₁ := (S.add (var "rims" v1 (.inr ⟨rfl, rfl, rfl⟩)) (up _ _ r1)).add (var "count" v2 (.inl ⟨rfl, rfl⟩)) (up _ _ r2)
  refine S₁.newList (Evs.cons (Ev.disp (Evs.cons Ev.int Evs.nil rfl) (by decide)) Evs.nil rfl) (by decide) rfl (.inl rfl) (fun p hp => by cases hp) rfl fun a s₂ S₂ => ?_
  refine S₂.forIn rfl (.inl rfl) (fun _ => rfl) (Src.range1 hh ((G.mono S₂.keep).loadsB rfl (by decide +kernel) (by decide) rfl rfl rfl rfl rfl) (S₂.name rfl rfl rfl) (by lia) (by lia) rfl)
    (fun i σ μ => σ "rims" = some (.list (rims.map .int)) ∧ σ "count" = some (.int n) ∧ ∃ a, μ = [(("ways" : Str), a, rowsT (waysAt rims n i))]) ⟨rfl, rfl, a, rfl⟩ ?_ ?_ ?_
  · rintro i σ μ ⟨_, _, b, rfl⟩
    exact mu_ne1 (by decide)
  · -- a turn
    rintro i t σ μ X₁ g s₃ E₃ ht ⟨hσ1, hσ2, a₁, rfl⟩ hg S₃
    have hi : i < n := by
      have := (List.getElem?_eq_some_iff.mp ht).1
      rw [List.length_map, rng_length] at this
      lia
    have q1 : (upd σ "turn" t) "rims" = some (.list (rims.map .int)) := hσ1
    have q2 : (upd σ "turn" t) "count" = some (.int n) := hσ2
    refine S₃.newList Evs.nil (by decide) rfl (.inr ⟨rfl, _, rfl⟩) (mu_ne1 (by decide)) rfl fun b s₄ S₄ => ?_
    have hmsk := ways_msk (rims := rims) hn i
    have hlast : (rowsT (waysAt rims n i))[(-1 + ((rowsT (waysAt rims n i)).length : Int)).toNat]? = some (.list (natT ((waysAt rims n i).getD i []))) := by
      have hl : (rowsT (waysAt rims n i)).length = i + 1 := by rw [List.length_map, waysAt_length]
      rw [hl, show (-1 + ((i + 1 : Nat) : Int)).toNat = i by lia, List.getElem?_map, getD_get (waysAt rims n i) i [] (by rw [waysAt_length]; lia)]
      rfl
    have hwl : (rowsT (waysAt rims n i)).length = i + 1 := by rw [List.length_map, waysAt_length]
    have hmlen := ways_len (rims := rims) hn i
    have hsucc : waysAt rims n (i + 1) = waysAt rims n i ++ [sortN (afterF rims n ((waysAt rims n i).getD i []))] := rfl
    generalize hM : (waysAt rims n i).getD i [] = masks at hlast hmsk hmlen hsucc
    refine S₄.forIn rfl (.inr ⟨rfl, _, rfl⟩) (fun _ => rfl) (Src.list hh (S₄.mutItem (List.mem_cons_of_mem _ (List.mem_singleton_self _)) rfl rfl (Ev.neg Ev.int) (by decide) (by rw [hwl]; lia) (by rw [hwl]; lia) hlast) (by rw [natT_length]; lia))
      (fun k σ μ => σ "rims" = some (.list (rims.map .int)) ∧ σ "count" = some (.int n) ∧ ∃ a b, μ = [(("after" : Str), b, natT (afterF rims n (masks.take k))), (("ways" : Str), a, rowsT (waysAt rims n i))]) ⟨q1, q2, a₁, b, rfl⟩ ?_ ?_ ?_
    · rintro k σ μ ⟨_, _, a, b, rfl⟩
      exact mu_ne2 (by decide) (by decide)
    · -- a mask
      rintro k t σ μ X₂ g₂ s₅ E₅ ht ⟨hσ1, hσ2, a₂, b₂, rfl⟩ hg₂ S₅
      obtain ⟨m, rfl, hm⟩ := natT_get ht
      have hmk := hmsk m (List.mem_of_getElem? hm)
      have p1 : (upd σ "mask" (.int m)) "rims" = some (.list (rims.map .int)) := hσ1
      have p2 : (upd σ "mask" (.int m)) "count" = some (.int n) := hσ2
      have G₅ := ((G.mono hg).mono hg₂).mono S₅.keep
      refine S₅.assignComp (Y := X₂) (fun t => !bitN m t.num.toNat) (fun t => m + 2 ^ t.num.toNat) rfl (by decide) rfl (by decide) rfl (fun _ => rfl) S₅.live
        (Src.range1 hh (G₅.loadsB rfl (by decide +kernel) (by decide) rfl rfl rfl rfl rfl) (S₅.name p2 rfl rfl) (by lia) (by lia) rfl) ?_ ?_ rfl (.inl rfl) (mu_ne2 (by decide) (by decide)) rfl fun X₃ s₆ S₆ => ?_
      · intro C h' mm v t ht q nn e rv
        obtain ⟨j, rfl, j0, j1⟩ := mem_rngT ht
        have hj : j.toNat < 7 := by lia
        refine Tests.one (Tr.eq (Tr.cmp (Ev.mod (Ev.fdiv (S₅.nameC rfl q rfl rfl rfl rfl rfl) (Ev.pow Ev.int (ev_own nn e rv rfl rfl rfl) j0 (by lia)) (Int.pow_pos (by decide)) (pow2_small hj)) Ev.int (by decide)) Ev.int rfl op_eq) ?_)
        rw [bit_cast]
        simp only [T.num, bitN]
        rcases bit_cases m j.toNat with e | e <;> rw [e] <;> rfl
      · intro C h' mm v t ht hp q nn e rv
        obtain ⟨j, rfl, j0, j1⟩ := mem_rngT ht
        exact Ev.add (S₅.nameC rfl q rfl rfl rfl rfl rfl) (Ev.pow (b := j) Ev.int (ev_own nn e rv rfl rfl rfl) j0 (by lia))
      have e1 : (((((rng 0 (n : Int).toNat).map T.int).filter (fun t => !bitN m t.num.toNat)).map fun t => ((m : Int) + 2 ^ t.num.toNat)).map T.int) = natT (nexts n m) := by
        rw [Int.toNat_natCast, rng_natT]
        exact comp_natT _ _ _ (fun c => !bitN m c) (fun c => m + 2 ^ c) (fun a _ => rfl) (fun a _ _ => by simp [T.num])
      rw [e1] at S₆
      have hne := hmk.room hn hi
      have hin : ∀ one ∈ nexts n m, one < rims.length := fun one ho => by rw [hr]; exact (hmk.next hn ho).1
      have hnl : (natT (nexts n m)).length ≤ 100000 := by
        rw [natT_length]
        exact Nat.le_trans (nexts_len n m) (by lia)
      have G₆ := ((G.mono hg).mono hg₂).mono S₆.keep
      have p1' : (upd (upd σ "mask" (.int m)) "nexts" (.list (natT (nexts n m)))) "rims" = some (.list (rims.map .int)) := hσ1
      refine S₆.assign (t := .int (maxL ((nexts n m).map (rimOf rims)))) (Ev.callB (id := "max") (G₆.loadsB rfl (by decide +kernel) (by decide) rfl rfl rfl rfl rfl) (Evs.cons (Ev.comp (fun _ => true) (fun t => rimOf rims t.num.toNat) rfl (by decide) rfl (by decide) rfl (fun _ => rfl)
          (Src.list hh (S₆.name rfl rfl rfl) hnl) ?_ ?_) Evs.nil rfl) rfl (fun _ => rfl) fun s E vs _ _ r => ?_) rfl (.inr ⟨rfl, _, rfl⟩) (mu_ne2 (by decide) (by decide)) rfl fun s₇ S₇ => ?_
      · intro C h' mm v t ht q nn e rv
        exact Tests.nil
      · intro C h' mm v t ht hp q nn e rv
        obtain ⟨one, rfl, ho⟩ := mem_natT ht
        exact Ev.itemL (S₆.nameC p1' q rfl rfl rfl rfl rfl) (ev_own nn e rv rfl rfl rfl) (by lia) (by have := hin one ho; rw [hr] at this; have : (2 : Nat) ^ n ≤ 2 ^ 6 := Nat.pow_le_pow_right (by decide) hn; lia) (get_int rims one (hin one ho))
      · rw [map_natT (nexts n m) _ (rimOf rims) (fun a _ => rfl)] at r
        have hne' : (nexts n m).map (rimOf rims) ≠ [] := fun e => hne (List.map_eq_nil_iff.mp e)
        exact c_max (A := A.deeper _) hh (List.length_pos_iff.mpr hne') s E vs r (maxL_mem hne') maxL_ge
      have p1'' : (upd (upd (upd σ "mask" (.int m)) "nexts" (.list (natT (nexts n m)))) "top" (.int (maxL ((nexts n m).map (rimOf rims))))) "rims" = some (.list (rims.map .int)) := hσ1
      have p2'' : (upd (upd (upd σ "mask" (.int m)) "nexts" (.list (natT (nexts n m)))) "top" (.int (maxL ((nexts n m).map (rimOf rims))))) "count" = some (.int n) := hσ2
      have hshort := after_short (rims := rims) hn hmsk k
      refine Sta.extend (l₁ := []) S₇ (us := natT ((nexts n m).filter fun one => rimOf rims one == maxL ((nexts n m).map (rimOf rims)) && !(afterF rims n (masks.take k)).contains one)) (Ev.eq (Ev.compY (Y := []) (fun a m => nomatch m) (fun t => rimOf rims t.num.toNat == maxL ((nexts n m).map (rimOf rims)) && !(afterF rims n (masks.take k)).contains t.num.toNat) T.num rfl (by decide) rfl (by decide) rfl (fun _ => rfl)
          (Src.list hh (S₇.nameF rfl rfl rfl) hnl) ?_ ?_) ?_) (by rw [natT_length]; lia) ?_ rfl rfl rfl rfl rfl rfl rfl fun s₈ S₈ => ?_
      · intro C h' mm v t ht q nn e rv
        obtain ⟨one, rfl, ho⟩ := mem_natT ht
        have h63 : (one : Int) < 2 ^ 63 := by
          have h1 := hin one ho
          rw [hr] at h1
          have h2 : (2 : Nat) ^ n ≤ 2 ^ 6 := Nat.pow_le_pow_right (by decide) hn
          lia
        show Tests pr w _ _ _ _ _ (rimOf rims one == maxL ((nexts n m).map (rimOf rims)) && !(afterF rims n (masks.take k)).contains one)
        have hany : ((afterF rims n (masks.take k)).map fun (m : Nat) => (m : Int)).any (· == (one : Int)) = (afterF rims n (masks.take k)).contains one := any_cast _ _
        refine Tests.one (Tr.bool ?_)
        cases hb1 : (rimOf rims one == maxL ((nexts n m).map (rimOf rims))) with
        | false => exact AllT.stopA (Tr.eq (Tr.cmp (Ev.itemL (S₇.nameCF p1'' q rfl rfl rfl rfl rfl) (ev_own nn e rv rfl rfl rfl) (by lia) h63 (get_int rims one (hin one ho))) (S₇.nameCF rfl q rfl rfl rfl rfl rfl) rfl op_eq) hb1)
        | true =>
          refine AllT.goA (Tr.eq (Tr.cmp (Ev.itemL (S₇.nameCF p1'' q rfl rfl rfl rfl rfl) (ev_own nn e rv rfl rfl rfl) (by lia) h63 (get_int rims one (hin one ho))) (S₇.nameCF rfl q rfl rfl rfl rfl rfl) rfl op_eq) hb1) ?_
          cases hb2 : (afterF rims n (masks.take k)).contains one with
          | true => exact AllT.stopA (Tr.eq (Tr.cmp (ev_own nn e rv rfl rfl rfl) (Ev.eq (S₇.mutCF (List.mem_cons_self ..) q rfl rfl rfl rfl rfl) (congrArg T.list (natT_ints _))) rfl op_notin) (by rw [hany, hb2]; rfl))
          | false => exact AllT.goA (Tr.eq (Tr.cmp (ev_own nn e rv rfl rfl rfl) (Ev.eq (S₇.mutCF (List.mem_cons_self ..) q rfl rfl rfl rfl rfl) (congrArg T.list (natT_ints _))) rfl op_notin) (by rw [hany, hb2]; rfl)) AllT.nilA
      · intro C h' mm v t ht hp q nn e rv
        obtain ⟨one, rfl, ho⟩ := mem_natT ht
        exact ev_own nn e rv rfl rfl rfl
      · congr 1
        rw [comp_natT _ _ _ (fun one => rimOf rims one == maxL ((nexts n m).map (rimOf rims)) && !(afterF rims n (masks.take k)).contains one) id (fun a _ => rfl) (fun a _ _ => rfl), List.map_id]
      · rw [natT_length]
        exact Nat.le_trans (List.length_filter_le _ _) (Nat.le_trans (nexts_len n m) (by lia))
      · refine wpAny_execs_nil ⟨rfl, _, _, _, ⟨p1'', p2'', a₂, b₂, ?_⟩, S₈⟩
        rw [afterF_succ hm]
        unfold stepMask
        rw [natT_append]
        rfl
    · -- the inner loop's end
      rintro σ μ X' s' ⟨hσ1, hσ2, a₂, b₂, rfl⟩ S'
      rw [natT_length, List.take_length] at S'
      have hshort := after_short (rims := rims) hn hmsk masks.length
      rw [List.take_length] at hshort
      refine Sta.append (l₁ := [(("after" : Str), b₂, natT (afterF rims n masks))]) (l₂ := []) S' (t := .list (natT (sortN (afterF rims n masks)))) (Ev.eq (Ev.callBY (Y := []) (id := "sorted") (fun a m => nomatch m) (((G.mono hg).mono S'.keep).loadsB rfl (by decide +kernel) (by decide) rfl rfl rfl rfl rfl)
        (Evs.cons (Ev.eq (S'.mutF (List.mem_cons_self ..) rfl rfl) (congrArg T.list (natT_ints _))) Evs.nil rfl) rfl (fun _ => rfl) fun s E vs _ lv r => c_sorted (l' := (sortN (afterF rims n masks)).map fun (m : Nat) => (m : Int)) (by rw [List.length_map]; exact hshort) ((sortN_perm _).map _) ?_ s E vs lv r) (congrArg T.list (natT_ints _).symm)) (by rw [hwl]; lia) rfl rfl rfl rfl rfl rfl rfl fun s₅ S₅ => ?_
      · rw [List.pairwise_map]
        exact (sortN_sorted _).imp fun h => by lia
      · refine wpAny_execs_nil ⟨rfl, _, _, _, ⟨hσ1, hσ2, a₂, ?_⟩, S₅.drop (List.sublist_cons_self _ _)⟩
        rw [hsucc]
        simp
  · rintro σ μ X' s' ⟨_, _, b, rfl⟩ S'
    rw [List.length_map, rng_length, Int.toNat_natCast] at S'
    exact S'.retMut (List.mem_singleton_self _) rfl rfl lv fun v s'' rv kp => ⟨v, rfl, rv, kp⟩
end Mine
end

-- A4
section
open PySem PySem.W PyProof.Rows PySem.Calls
set_option linter.unusedVariables false
set_option maxRecDepth 100000
set_option maxHeartbeats 4000000
namespace Mine
noncomputable def sizesAt : Nat → List Nat
  | 0 => [0]
  | i + 1 => sizesAt i ++ (sizesAt i).map (· + 1)
theorem sizesAt_length : ∀ i, (sizesAt i).length = 2 ^ i
  | 0 => rfl
  | i + 1 => by rw [sizesAt, List.length_append, List.length_map, sizesAt_length i, Nat.pow_succ]; lia
noncomputable def masksOf (n k : Nat) : List Nat := (List.range (2 ^ n)).filter fun m => (sizesAt n).getD m 0 == k
noncomputable def bestRow (rims : List Int) (n k : Nat) : List Nat := (masksOf n k).filter fun m => rimOf rims m == maxL ((masksOf n k).map (rimOf rims))
noncomputable def bestF (rims : List Int) (n : Nat) : List (List Nat) := (List.range (n + 1)).map (bestRow rims n)
theorem masks_some : ∀ n, n ≤ 6 → ∀ k, k ≤ n → masksOf n k ≠ [] := by decide +kernel
theorem masks_len (n k : Nat) : (masksOf n k).length ≤ 2 ^ n := Nat.le_trans (List.length_filter_le _ _) (by rw [List.length_range]; lia)
theorem masks_lt {n k m : Nat} (h : m ∈ masksOf n k) : m < 2 ^ n := List.mem_range.mp (List.mem_filter.mp h).1

theorem sizes_eq (i : Nat) : ((((sizesAt i).map fun (m : Nat) => (m : Int)) ++ ((natT (sizesAt i)).filter (fun _ => true)).map fun (t : T) => t.num + 1).map T.int) = natT (sizesAt (i + 1)) := by
  rw [map_natT _ _ (fun (a : Nat) => (a : Int) + 1) (fun a _ => rfl), sizesAt, natT_append, List.map_append, ← natT_ints]
  congr 1
  unfold natT
  rw [List.map_map, List.map_map]
  apply List.map_congr_left
  intro a _
  simp

theorem best_c (w : World) {A : Around} {X : List Addr} {s : Shared} {E : Value → Shared → Prop} {vs : List Value} (hh : A.handled = none) (hdp : A.depth < recursionLimit) (G : Gl (KK w) s.heap) (lv : Live X s.heap) {rims : List Int} {n : Nat} (hn : n ≤ 6)
    (hr : rims.length = 2 ^ n)
    (r : Reps X s.heap vs [.list (rims.map .int), .int n]) : wpAny (model pr w) A (call (.ref 72) vs) (fun v s' => Rep X s'.heap v (.list (rowsT (bestF rims n))) ∧ Keeps s s') E s := by
  obtain ⟨v1, v2, rfl, r1, r2⟩ := reps2 r
  have h26 : (2 : Nat) ^ n ≤ 2 ^ 6 := Nat.pow_le_pow_right (by decide) hn
  refine enter (K := KK w) (f := 72) G lv rfl rfl hdp rfl rfl (by decide) rfl rfl rfl fun L s₁ G₁ up var S => ?_
  have S₁ := (S.add (var "rims" v1 (.inr ⟨rfl, rfl, rfl⟩)) (up _ _ r1)).add (var "count" v2 (.inl ⟨rfl, rfl⟩)) (up _ _ r2)
  refine S₁.assign (Ev.disp (Evs.cons Ev.int Evs.nil rfl) (by decide)) rfl (.inr ⟨rfl, _, rfl⟩) (fun p hp => by cases hp) rfl fun s₂ S₂ => ?_
  refine S₂.forIn rfl (.inl rfl) (fun _ => rfl) (Src.range1 hh ((G.mono S₂.keep).loadsB rfl (by decide +kernel) (by decide) rfl rfl rfl rfl rfl) (S₂.name rfl rfl rfl) (by lia) (by lia) rfl)
    (fun i σ μ => σ "rims" = some (.list (rims.map .int)) ∧ σ "count" = some (.int n) ∧ σ "sizes" = some (.list (natT (sizesAt i))) ∧ μ = []) ⟨rfl, rfl, rfl, rfl⟩ ?_ ?_ ?_
  · rintro i σ μ ⟨_, _, _, rfl⟩ p hp
    cases hp
  · -- sizes = sizes + ..
    rintro i t σ μ X₁ g s₃ E₃ ht ⟨hσ1, hσ2, hσ3, rfl⟩ hg S₃
    have hi : i < n := by
      have := (List.getElem?_eq_some_iff.mp ht).1
      rw [List.length_map, rng_length] at this
      lia
    have q1 : (upd σ "turn" t) "rims" = some (.list (rims.map .int)) := hσ1
    have q2 : (upd σ "turn" t) "count" = some (.int n) := hσ2
    have q3 : (upd σ "turn" t) "sizes" = some (.list (natT (sizesAt i))) := hσ3
    have hsl : (sizesAt i).length ≤ 64 := by
      rw [sizesAt_length]; exact Nat.pow_le_pow_right (by decide) (show i ≤ 6 by lia)
    refine S₃.assign (t := .list (natT (sizesAt (i + 1)))) (Ev.eq (Ev.catL (us := (sizesAt i).map fun (m : Nat) => (m : Int)) (vs := ((natT (sizesAt i)).filter (fun _ => true)).map fun t => t.num + 1) (Ev.eq (S₃.name q3 rfl rfl) (congrArg T.list (natT_ints _)))
        (Ev.comp (fun _ => true) (fun t => t.num + 1) rfl (by decide) rfl (by decide) rfl (fun _ => rfl) (Src.list hh (S₃.name q3 rfl rfl) (by rw [natT_length]; lia)) ?_ ?_) ?_) ?_) rfl (.inr ⟨rfl, _, rfl⟩) (fun p hp => by cases hp) rfl fun s₄ S₄ => ?_
    · intro C h' mm v t ht q nn e rv
      exact Tests.nil
    · intro C h' mm v t ht hp q nn e rv
      obtain ⟨one, rfl, ho⟩ := mem_natT ht
      exact Ev.add (ev_own nn e rv rfl rfl rfl) Ev.int
    · rw [map_natT (sizesAt i) _ (fun (a : Nat) => (a : Int) + 1) (fun a _ => rfl), List.length_map, List.length_map]; lia
    · exact congrArg T.list (sizes_eq i)
    · exact wpAny_execs_nil ⟨rfl, upd (upd σ "turn" t) "sizes" (.list (natT (sizesAt (i + 1)))), _, _, ⟨hσ1, hσ2, rfl, rfl⟩, S₄⟩
  · rintro σ μ X' s' ⟨hσ1, hσ2, hσ3, rfl⟩ S'
    rw [List.length_map, rng_length, Int.toNat_natCast] at hσ3
    refine S'.newList Evs.nil (by decide) rfl (.inl rfl) (fun p hp => by cases hp) rfl fun b s₃ S₃ => ?_
    have q1 : (del σ "rows") "rims" = some (.list (rims.map .int)) := hσ1
    have q2 : (del σ "rows") "count" = some (.int n) := hσ2
    have q3 : (del σ "rows") "sizes" = some (.list (natT (sizesAt n))) := hσ3
    refine S₃.forIn rfl (.inr ⟨rfl, _, rfl⟩) (fun _ => rfl) (Src.range1 hh ((G.mono S₃.keep).loadsB rfl (by decide +kernel) (by decide) rfl rfl rfl rfl rfl) (Ev.add (S₃.name q2 rfl rfl) Ev.int) (by lia) (by lia) rfl)
      (fun i σ μ => σ "rims" = some (.list (rims.map .int)) ∧ σ "count" = some (.int n) ∧ σ "sizes" = some (.list (natT (sizesAt n))) ∧ ∃ a, μ = [(("rows" : Str), a, rowsT ((List.range i).map (bestRow rims n)))]) ⟨q1, q2, q3, b, rfl⟩ ?_ ?_ ?_
    · rintro i σ μ ⟨_, _, _, b, rfl⟩
      exact mu_ne1 (by decide)
    · rintro i t σ μ X₁ g s₄ E₄ ht ⟨hσ1, hσ2, hσ3, b, rfl⟩ hg S₄
      have hi : i ≤ n := by
        have := (List.getElem?_eq_some_iff.mp ht).1
        rw [List.length_map, rng_length] at this
        lia
      have et : t = .int i := by
        rw [List.getElem?_map, rng_get _ _ _ (by lia)] at ht
        simp at ht; exact ht.symm
      subst et
      have q1 : (upd σ "size" (.int i)) "rims" = some (.list (rims.map .int)) := hσ1
      have q3 : (upd σ "size" (.int i)) "sizes" = some (.list (natT (sizesAt n))) := hσ3
      have G₄ := (G.mono hg).mono S₄.keep
      refine S₄.assignComp (Y := X₁) (fun t => (sizesAt n).getD t.num.toNat 0 == i) T.num rfl (by decide) rfl (by decide) rfl (fun _ => rfl) S₄.live
        (Src.range1 hh (G₄.loadsB rfl (by decide +kernel) (by decide) rfl rfl rfl rfl rfl) (Ev.callB (id := "len") (G₄.loadsB rfl (by decide +kernel) (by decide) rfl rfl rfl rfl rfl) (Evs.cons (S₄.name q1 rfl rfl) Evs.nil rfl) rfl (fun _ => rfl) fun s E vs _ _ r => c_len ?_ s E vs r) ?_ ?_ rfl) ?_ ?_ rfl (.inl rfl) (mu_ne1 (by decide)) rfl fun X₃ s₆ S₆ => ?_
      · rw [List.length_map]; lia
      · lia
      · rw [List.length_map]; lia
      · intro C h' mm v t ht q nn e rv
        obtain ⟨j, rfl, j0, j1⟩ := mem_rngT ht
        rw [List.length_map, Int.toNat_natCast, hr] at j1
        have hj : j.toNat < (sizesAt n).length := by rw [sizesAt_length]; lia
        refine Tests.one (Tr.eq (Tr.cmp (Ev.itemL (t := .int ((sizesAt n).getD j.toNat 0 : Nat)) (S₄.nameC q3 q rfl rfl rfl rfl rfl) (ev_own nn e rv rfl rfl rfl) j0 (by lia) ?_) (S₄.nameC rfl q rfl rfl rfl rfl rfl) rfl op_eq) ?_)
        · unfold natT
          rw [List.getElem?_map, getD_get (sizesAt n) j.toNat 0 hj]; rfl
        · rw [Bool.eq_iff_iff]
          simp only [T.num, beq_iff_eq]
          lia
      · intro C h' mm v t ht hp q nn e rv
        obtain ⟨j, rfl, j0, j1⟩ := mem_rngT ht
        exact ev_own nn e rv rfl rfl rfl
      have e1 : (((((rng 0 (((rims.map T.int).length : Nat) : Int).toNat).map T.int).filter (fun t => (sizesAt n).getD t.num.toNat 0 == i)).map T.num).map T.int) = natT (masksOf n i) := by
        rw [List.length_map, Int.toNat_natCast, rng_natT, hr]
        unfold masksOf
        rw [comp_natT _ _ _ (fun m => (sizesAt n).getD m 0 == i) id (fun a _ => rfl) (fun a _ _ => rfl), List.map_id]
      rw [e1] at S₆
      have hne := masks_some n hn i hi
      have hin : ∀ m ∈ masksOf n i, m < rims.length := fun m hm => by rw [hr]; exact masks_lt hm
      have h63 : ∀ m ∈ masksOf n i, (m : Int) < 2 ^ 63 := fun m hm => by have := masks_lt hm; lia
      have hml := masks_len n i
      have G₆ := (G.mono hg).mono S₆.keep
      have p1 : (upd (upd σ "size" (.int i)) "masks" (.list (natT (masksOf n i)))) "rims" = some (.list (rims.map .int)) := hσ1
      refine S₆.assign (t := .int (maxL ((masksOf n i).map (rimOf rims)))) (Ev.callB (id := "max") (G₆.loadsB rfl (by decide +kernel) (by decide) rfl rfl rfl rfl rfl) (Evs.cons (Ev.comp (fun _ => true) (fun t => rimOf rims t.num.toNat) rfl (by decide) rfl (by decide) rfl (fun _ => rfl)
          (Src.list hh (S₆.name rfl rfl rfl) (by rw [natT_length]; lia)) ?_ ?_) Evs.nil rfl) rfl (fun _ => rfl) fun s E vs _ _ r => ?_) rfl (.inr ⟨rfl, _, rfl⟩) (mu_ne1 (by decide)) rfl fun s₇ S₇ => ?_
      · intro C h' mm v t ht q nn e rv
        exact Tests.nil
      · intro C h' mm v t ht hp q nn e rv
        obtain ⟨one, rfl, ho⟩ := mem_natT ht
        exact Ev.itemL (S₆.nameC p1 q rfl rfl rfl rfl rfl) (ev_own nn e rv rfl rfl rfl) (by lia) (h63 one ho) (get_int rims one (hin one ho))
      · rw [map_natT (masksOf n i) _ (rimOf rims) (fun a _ => rfl)] at r
        have hne' : (masksOf n i).map (rimOf rims) ≠ [] := fun e => hne (List.map_eq_nil_iff.mp e)
        exact c_max (A := A.deeper _) hh (List.length_pos_iff.mpr hne') s E vs r (maxL_mem hne') maxL_ge
      have p1' : (upd (upd (upd σ "size" (.int i)) "masks" (.list (natT (masksOf n i)))) "top" (.int (maxL ((masksOf n i).map (rimOf rims))))) "rims" = some (.list (rims.map .int)) := hσ1
      have p2' : (upd (upd (upd σ "size" (.int i)) "masks" (.list (natT (masksOf n i)))) "top" (.int (maxL ((masksOf n i).map (rimOf rims))))) "count" = some (.int n) := hσ2
      have p3' : (upd (upd (upd σ "size" (.int i)) "masks" (.list (natT (masksOf n i)))) "top" (.int (maxL ((masksOf n i).map (rimOf rims))))) "sizes" = some (.list (natT (sizesAt n))) := hσ3
      refine Sta.append (l₁ := []) (l₂ := []) S₇ (t := .list (natT (bestRow rims n i))) (Ev.eq (Ev.comp (fun t => rimOf rims t.num.toNat == maxL ((masksOf n i).map (rimOf rims))) T.num rfl (by decide) rfl (by decide) rfl (fun _ => rfl)
          (Src.list hh (S₇.name rfl rfl rfl) (by rw [natT_length]; lia)) ?_ ?_) ?_) (by rw [List.length_map, List.length_map, List.length_range]; lia) rfl rfl rfl rfl rfl rfl rfl fun s₈ S₈ => ?_
      · intro C h' mm v t ht q nn e rv
        obtain ⟨one, rfl, ho⟩ := mem_natT ht
        exact Tests.one (Tr.cmp (Ev.itemL (S₇.nameC p1' q rfl rfl rfl rfl rfl) (ev_own nn e rv rfl rfl rfl) (by lia) (h63 one ho) (get_int rims one (hin one ho))) (S₇.nameC rfl q rfl rfl rfl rfl rfl) rfl op_eq)
      · intro C h' mm v t ht hp q nn e rv
        obtain ⟨one, rfl, ho⟩ := mem_natT ht
        exact ev_own nn e rv rfl rfl rfl
      · congr 1
        unfold bestRow
        rw [comp_natT _ _ _ (fun m => rimOf rims m == maxL ((masksOf n i).map (rimOf rims))) id (fun a _ => rfl) (fun a _ _ => rfl), List.map_id]
      · refine wpAny_execs_nil ⟨rfl, _, _, _, ⟨p1', p2', p3', b, ?_⟩, S₈⟩
        rw [List.range_succ, List.map_append]
        show [(("rows" : Str), b, rowsT ((List.range i).map (bestRow rims n)) ++ [T.list (natT (bestRow rims n i))])] = _
        rw [show rowsT ((List.range i).map (bestRow rims n) ++ [i].map (bestRow rims n)) = rowsT ((List.range i).map (bestRow rims n)) ++ [T.list (natT (bestRow rims n i))] from List.map_append ..]
    · rintro σ μ X' s' ⟨_, _, _, b, rfl⟩ S'
      have e : ((rng 0 ((n : Int) + 1).toNat).map T.int).length = n + 1 := by rw [List.length_map, rng_length]; lia
      rw [e] at S'
      exact S'.retMut (List.mem_singleton_self _) rfl rfl lv fun v s'' rv kp => ⟨v, rfl, rv, kp⟩
end Mine
end

-- A5
section
open PySem PySem.W PyProof.Rows PySem.Calls
set_option linter.unusedVariables false
set_option maxRecDepth 100000
set_option maxHeartbeats 4000000
namespace Mine
/-- a sign that is its own small letter -/
noncomputable def LowOk (c : Nat) : Prop := Txt.lower (strOf [c]) = strOf [c]

theorem subst_c (w : World) {A : Around} {X : List Addr} {s : Shared} {E : Value → Shared → Prop} {vs : List Value} (hdp : A.depth < recursionLimit) (G : Gl (KK w) s.heap) (lv : Live X s.heap) {c d : Nat} (hcd : c ≠ d) (hc : LowOk c) (hd : LowOk d)
    (r : Reps X s.heap vs [.str (strOf [c]), .str (strOf [d])]) : wpAny (model pr w) A (call (.ref 31) vs) (fun v s' => Rep X s'.heap v (.int 2) ∧ Keeps s s') E s := by
  obtain ⟨v1, v2, rfl, r1, r2⟩ := reps2 r
  refine enter (K := KK w) (f := 31) G lv rfl rfl hdp rfl rfl (by decide) rfl rfl rfl fun L s₁ G₁ up var S => ?_
  have S₁ := (S.add (var "ch_a" v1 (.inl ⟨rfl, rfl⟩)) (up _ _ r1)).add (var "ch_b" v2 (.inl ⟨rfl, rfl⟩)) (up _ _ r2)
  have hne : (strOf [c] == strOf [d]) = false := by
    rw [beq_eq_false_iff_ne]; intro e
    have := strOf_inj.mp e
    simp at this; exact hcd this
  refine S₁.ifF (Tr.eq (Tr.cmp (S₁.name rfl rfl rfl) (S₁.name rfl rfl rfl) rfl op_eqS) hne) S₁.live fun s₂ S₂ => ?_
  refine S₂.ifF (Tr.eq (Tr.cmp (Ev.lower (S₂.name rfl rfl rfl) (by rw [hc, strOf_length]; simp) rfl rfl) (Ev.lower (S₂.name rfl rfl rfl) (by rw [hd, strOf_length]; simp) rfl rfl) rfl op_eqS) (by rw [hc, hd]; exact hne)) S₂.live fun s₃ S₃ => ?_
  exact S₃.ret (Ev.name ((G.mono S₃.keep).loads rfl rfl rfl rfl rfl) (.int 2 _)) S₃.live fun v s' rv kp => ⟨v, rfl, rep_plain rv rfl, Kp.trans S₃.keeps kp⟩
theorem item_at (l : List Nat) (i : Nat) (hi : i < l.length) : Txt.item (strOf l) (i : Int) = strOf [l.getD i 0] := by
  unfold Txt.item
  rw [char_nat l i hi]; rfl
theorem item_last (l : List Nat) (hl : 0 < l.length) : Txt.item (strOf l) (-1) = strOf [l.getD (l.length - 1) 0] := by
  unfold Txt.item
  rw [char_last l hl]; rfl
theorem one_beq (c d : Nat) : (strOf [c] == strOf [d]) = (c == d) := by
  rw [Bool.eq_iff_iff, beq_iff_eq, beq_iff_eq, strOf_inj]; simp
theorem getD_mem {l : List Nat} {i : Nat} (h : i < l.length) : l.getD i 0 ∈ l := by
  have := getD_get l i 0 h
  exact List.mem_of_getElem? this
theorem fits_nat {i : Nat} (h : i < 1000) : fitsSsize (i : Int) = true := by
  simp [fitsSsize]; lia
noncomputable def rowI (k i j : Nat) : List Int := (List.range k).map fun t => if t < j then 2 * max ((i : Int) + 1) (t + 1) else 2 * max (i : Int) (t + 1)
theorem rowI_len (k i j : Nat) : (rowI k i j).length = k := by simp [rowI]
theorem rowI_get (k i j : Nat) (h : j < k) : (rowI k i j).getD j 0 = 2 * max (i : Int) (j + 1) := by
  simp [rowI, List.getD_eq_getElem?_getD, h]
theorem rowI_set (k i j : Nat) (h : j < k) : (rowI k i j).set j (2 * max ((i : Int) + 1) (j + 1)) = rowI k i (j + 1) := by
  apply List.ext_getElem
  · simp [rowI]
  · intro t h1 h2
    simp only [rowI, List.getElem_set, List.getElem_map, List.getElem_range]
    by_cases e : j = t
    · subst e; simp
    · rw [if_neg e]
      by_cases e2 : t < j
      · rw [if_pos e2, if_pos (by lia)]
      · rw [if_neg e2, if_neg (by lia)]
theorem rowI_done (k i : Nat) : rowI k i k = rowI k (i + 1) 0 := by
  apply List.ext_getElem
  · simp [rowI]
  · intro t h1 h2
    have : t < k := by simpa [rowI] using h1
    simp [rowI, this]

theorem Sta.lenS {prog : Program} {w : World} {A : Around} {Xc X : List Addr} {σ : Str → Option T} {μ : Mu} {h₀ : Heap} {s₀ s : Shared} {x : Str} {env : Env} {np nq pos : Pos} {K : Frag} {l : List Nat} (S : Sta Xc X env σ μ h₀ s₀ s) (G : Gl K s.heap) (e : σ x = some (.str (strOf l))) (hu : l.length ≤ 1000)
    (hnl : nsIn K mainGlobals "len" = some none) (hd : (x == ("__debug__" : Str)) = false) (hg : env.globals = mainGlobals) (hb : env.builtins = builtinsNs) (hk : env.scope.kind = .function) (hx : env.kindOf "len" = some .globalImplicit)
    (hst : starEach [Expr.Name x nq] env = (false, eval (.Name x nq) env) :: starEach [] env) : Ev prog w A env X s.heap (.Call (.Name "len" np) [.Name x nq] [] pos) (.int (l.length : Int)) :=
  Ev.eq (Ev.callB (id := "len") (G.loadsB hnl (by decide +kernel) (by decide) hg hb hk hx rfl) (Evs.cons (S.name e hk hd) Evs.nil hst) hst (fun _ => rfl) fun s E vs _ _ r => c_lenS (by rw [strOf_length]; lia) s E vs r) (by rw [strOf_length])

theorem res_mid (i j : Int) : min (min (2 * max (i + 1) j) (2 * max i (j + 1)) + 2) (2 * max i j + 2) = 2 * max (i + 1) (j + 1) := by
  rcases Int.lt_trichotomy i j with h | h | h
  · rw [Int.max_eq_right (Int.add_one_le_of_lt h), Int.max_eq_right (show i ≤ j + 1 by lia), Int.max_eq_right (Int.le_of_lt h), Int.max_eq_right (show i + 1 ≤ j + 1 by lia), Int.min_eq_left (show 2 * j ≤ 2 * (j + 1) by lia), Int.min_self, Int.mul_add]; rfl
  · subst h
    rw [Int.max_self, Int.max_eq_left (show i ≤ i + 1 by lia), Int.max_eq_right (show i ≤ i + 1 by lia), Int.max_self, Int.min_self, Int.min_eq_right (show 2 * i + 2 ≤ 2 * (i + 1) + 2 by lia), Int.mul_add]; rfl
  · rw [Int.max_eq_left (show j ≤ i + 1 by lia), Int.max_eq_left (show j + 1 ≤ i by lia), Int.max_eq_left (Int.le_of_lt h), Int.max_eq_left (show j + 1 ≤ i + 1 by lia), Int.min_eq_right (show 2 * i ≤ 2 * (i + 1) by lia), Int.min_self, Int.mul_add]; rfl
theorem res_low (i : Int) (h : 0 ≤ i) : min (min (2 * i) (2 * max i (0 + 1)) + 2) (2 * max i 0 + 2) = 2 * max (i + 1) (0 + 1) := by
  have h1 : i ≤ max i (0 + 1) := Int.le_max_left ..
  rw [Int.max_eq_left h, Int.max_eq_left (show 0 + 1 ≤ i + 1 by lia), Int.min_eq_left (show 2 * i ≤ 2 * max i (0 + 1) by lia), Int.min_self, Int.mul_add]; rfl
/-- what holds between two turns of the inner loop -/
inductive LevIn (ra rb : List Nat) (mc : Int) (i j : Nat) (σ : Str → Option T) (μ : Mu) : Prop
  | mk (mn : Int) (b : Addr) (u1 : σ "a" = some (.str (strOf ra))) (u2 : σ "b" = some (.str (strOf rb))) (u3 : σ "max_cost" = some (.int mc)) (u4 : σ "bchar" = some (.str (strOf [rb.getD i 0]))) (u5 : σ "distance" = some (.int (2 * max (i : Int) j)))
    (u6 : σ "result" = some (.int (if j = 0 then 2 * (i : Int) else 2 * max ((i : Int) + 1) j))) (u7 : σ "minimum" = some (.int mn)) (u8 : 1 ≤ j → mn ≤ 2 * ((i : Int) + 1)) (e : μ = [(("row" : Str), b, (rowI ra.length i j).map T.int)])
inductive LevOut (ra rb : List Nat) (mc : Int) (i : Nat) (σ : Str → Option T) (μ : Mu) : Prop
  | mk (b : Addr) (p1 : σ "a" = some (.str (strOf ra))) (p2 : σ "b" = some (.str (strOf rb))) (p3 : σ "max_cost" = some (.int mc)) (p4 : σ "result" = some (.int (if i = 0 then 0 else 2 * max (i : Int) ra.length))) (e : μ = [(("row" : Str), b, (rowI ra.length i 0).map T.int)])
theorem lev_c (w : World) {A : Around} {X : List Addr} {s : Shared} {E : Value → Shared → Prop} {vs : List Value} (hh : A.handled = none) (hdp : A.depth + 1 < recursionLimit) (G : Gl (KK w) s.heap) (lv : Live X s.heap) {P ra rb : List Nat} {mc : Int}
    (hk : rb.length = ra.length) (h1 : 1 ≤ ra.length) (h3 : ra.length ≤ 3) (hP : P.length ≤ 3) (hne : ∀ c ∈ ra, ∀ d ∈ rb, c ≠ d) (hla : ∀ c ∈ ra, LowOk c) (hlb : ∀ c ∈ rb, LowOk c) (hmc : 2 * (ra.length : Int) ≤ mc)
    (r : Reps X s.heap vs [.str (strOf (P ++ ra)), .str (strOf (P ++ rb)), .int mc]) : wpAny (model pr w) A (call (.ref 38) vs) (fun v s' => Rep X s'.heap v (.int (2 * (ra.length : Int))) ∧ Keeps s s') E s := by
  obtain ⟨v1, v2, v3, rfl, r1, r2, r3⟩ := reps3 r
  refine enter (K := KK w) (f := 38) G lv rfl rfl (by lia) rfl rfl (by decide) rfl rfl rfl fun L s₁ G₁ up var S => ?_
  have S₁ := ((S.add (var "a" v1 (.inl ⟨rfl, rfl⟩)) (up _ _ r1)).add (var "b" v2 (.inl ⟨rfl, rfl⟩)) (up _ _ r2)).add (var "max_cost" v3 (.inl ⟨rfl, rfl⟩)) (up _ _ r3)
  have la : (P ++ ra).length = P.length + ra.length := List.length_append ..
  have lb : (P ++ rb).length = P.length + ra.length := by rw [List.length_append, hk]
  have hab : (strOf (P ++ ra) == strOf (P ++ rb)) = false := by
    rw [beq_eq_false_iff_ne]; intro e
    have e' := List.append_cancel_left (strOf_inj.mp e)
    have m1 := getD_mem (l := ra) (i := 0) (by lia)
    exact hne _ m1 _ (e' ▸ m1) rfl
  refine S₁.ifF (Tr.eq (Tr.cmp (S₁.name rfl rfl rfl) (S₁.name rfl rfl rfl) rfl op_eqS) hab) S₁.live fun s₂ S₂ => ?_
  refine S₂.assign Ev.int rfl (.inl rfl) (fun p hp => by cases hp) rfl fun s₃ S₃ => ?_
  refine S₃.whileDo P.length (fun i σ => σ "pre" = some (.int i) ∧ σ "a" = some (.str (strOf (P ++ ra))) ∧ σ "b" = some (.str (strOf (P ++ rb))) ∧ σ "max_cost" = some (.int mc)) ⟨rfl, rfl, rfl, rfl⟩ ?_ ?_ ?_
  · rintro i σ s' hi ⟨q1, q2, q3, q4⟩ S'
    have hia : i ≤ (P ++ ra).length := by lia
    have hib : i ≤ (P ++ rb).length := by lia
    have i1 : i < (P ++ ra).length := by lia
    have i2 : i < (P ++ rb).length := by lia
    have ta : truth (.str (Txt.slice (strOf (P ++ ra)) (some (i : Int)) none)) = true := by
      rw [slice_from _ i hia]; simp only [truth, strOf_length, List.length_drop]
      rw [bne_iff_ne]; lia
    have tb : truth (.str (Txt.slice (strOf (P ++ rb)) (some (i : Int)) none)) = true := by
      rw [slice_from _ i hib]; simp only [truth, strOf_length, List.length_drop]
      rw [bne_iff_ne]; lia
    have fa : (strOf (P ++ ra)).length ≤ 1000 := by rw [strOf_length]; lia
    have fb : (strOf (P ++ rb)).length ≤ 1000 := by rw [strOf_length]; lia
    have ea : TFit (.str (Txt.slice (strOf (P ++ ra)) (some (i : Int)) none)) := Nat.le_trans (Txt.slice_le _ _ _) fa
    have eb : TFit (.str (Txt.slice (strOf (P ++ rb)) (some (i : Int)) none)) := Nat.le_trans (Txt.slice_le _ _ _) fb
    have hcmp : (Txt.item (strOf (P ++ ra)) (i : Int) == Txt.item (strOf (P ++ rb)) (i : Int)) = decide (i < P.length) := by
      rw [item_at _ i i1, item_at _ i i2, one_beq]
      by_cases hlt : i < P.length
      · rw [decide_eq_true hlt]
        simp [List.getD_eq_getElem?_getD, List.getElem?_append_left hlt]
      · rw [decide_eq_false hlt]
        have e : i = P.length := by lia
        rw [beq_eq_false_iff_ne]
        simp only [List.getD_eq_getElem?_getD]
        rw [List.getElem?_append_right (by lia), List.getElem?_append_right (by lia), ← List.getD_eq_getElem?_getD, ← List.getD_eq_getElem?_getD]
        exact hne _ (getD_mem (by lia)) _ (getD_mem (by lia))
    refine Tr.bool (AllT.goA (Tr.eq (Tr.of (Ev.sliceS (S'.name q2 rfl rfl) (EvP.int (S'.name q1 rfl rfl)) EvP.none fa) ea (fun _ => rfl)) ta)
      (AllT.goA (Tr.eq (Tr.of (Ev.sliceS (S'.name q3 rfl rfl) (EvP.int (S'.name q1 rfl rfl)) EvP.none fb) eb (fun _ => rfl)) tb) ?_))
    have na : (Txt.charAt (strOf (P ++ ra)) (i : Int)).isSome = true := by rw [char_nat _ i i1]; rfl
    have nb : (Txt.charAt (strOf (P ++ rb)) (i : Int)).isSome = true := by rw [char_nat _ i i2]; rfl
    cases hd : decide (i < P.length) with
    | false => exact AllT.stopA (Tr.eq (Tr.cmp (Ev.itemS (S'.name q2 rfl rfl) (S'.name q1 rfl rfl) (fits_nat (by lia)) na) (Ev.itemS (S'.name q3 rfl rfl) (S'.name q1 rfl rfl) (fits_nat (by lia)) nb) rfl op_eqS) (hcmp.trans hd))
    | true => exact AllT.goA (Tr.eq (Tr.cmp (Ev.itemS (S'.name q2 rfl rfl) (S'.name q1 rfl rfl) (fits_nat (by lia)) na) (Ev.itemS (S'.name q3 rfl rfl) (S'.name q1 rfl rfl) (fits_nat (by lia)) nb) rfl op_eqS) (hcmp.trans hd)) AllT.nilA
  · rintro i σ s' E' hi ⟨q1, q2, q3, q4⟩ S'
    exact S'.augAdd q1 Ev.int rfl rfl (fun p hp => by cases hp) fun s'' S'' => wpAny_execs_nil ⟨rfl, upd σ "pre" (.int (i + 1)), ⟨rfl, q2, q3, q4⟩, S''⟩
  rintro σ s' ⟨q1, q2, q3, q4⟩ S'
  have fa : (strOf (P ++ ra)).length ≤ 1000 := by rw [strOf_length]; lia
  have fb : (strOf (P ++ rb)).length ≤ 1000 := by rw [strOf_length]; lia
  have sa : Txt.slice (strOf (P ++ ra)) (some (P.length : Int)) none = strOf ra := by rw [slice_from _ _ (by lia), List.drop_left]
  have sb : Txt.slice (strOf (P ++ rb)) (some (P.length : Int)) none = strOf rb := by rw [slice_from _ _ (by lia), List.drop_left]
  refine S'.assign (Ev.eq (Ev.sliceS (S'.name q2 rfl rfl) (EvP.int (S'.name q1 rfl rfl)) EvP.none fa) (congrArg T.str sa)) rfl (.inl rfl) (fun p hp => by cases hp) rfl fun s₄ S₄ => ?_
  refine S₄.assign (Ev.eq (Ev.sliceS (S₄.name q3 rfl rfl) (EvP.int (S₄.name q1 rfl rfl)) EvP.none fb) (congrArg T.str sb)) rfl (.inl rfl) (fun p hp => by cases hp) rfl fun s₅ S₅ => ?_
  refine S₅.assign Ev.int rfl (.inl rfl) (fun p hp => by cases hp) rfl fun s₆ S₆ => ?_
  have ga : (strOf ra).length ≤ 1000 := by rw [strOf_length]; lia
  have gb : (strOf rb).length ≤ 1000 := by rw [strOf_length]; lia
  have ta : truth (.str (strOf ra)) = true := by simp only [truth, strOf_length]; rw [bne_iff_ne]; lia
  have tb : truth (.str (strOf rb)) = true := by simp only [truth, strOf_length]; rw [bne_iff_ne]; lia
  have ea : Txt.slice (strOf ra) none none = strOf ra := slice_all ra
  have eb : Txt.slice (strOf rb) none none = strOf rb := slice_all rb
  -- nothing in common at the end
  refine S₆.whileDo 0 (fun i σ => σ "post" = some (.int 0) ∧ σ "a" = some (.str (strOf ra)) ∧ σ "b" = some (.str (strOf rb)) ∧ σ "max_cost" = some (.int mc)) ⟨rfl, rfl, rfl, q4⟩ ?_ ?_ ?_
  · rintro i σ s' hi ⟨q1, q2, q3, q4⟩ S'
    have z : decide (i < 0) = false := decide_eq_false (by lia)
    rw [z]
    have na : (Txt.charAt (strOf ra) (-1)).isSome = true := by rw [char_last _ (by lia)]; rfl
    have nb : (Txt.charAt (strOf rb) (-1)).isSome = true := by rw [char_last _ (by lia)]; rfl
    have hcmp : (Txt.item (strOf ra) (-1) == Txt.item (strOf rb) (-1)) = false := by
      rw [item_last _ (by lia), item_last _ (by lia), one_beq, beq_eq_false_iff_ne]
      exact hne _ (getD_mem (by lia)) _ (getD_mem (by lia))
    exact Tr.bool (AllT.goA (Tr.eq (Tr.of (Ev.eq (Ev.sliceS (S'.name q2 rfl rfl) EvP.none (EvP.non (Ev.orF (S'.name q1 rfl rfl) trivial rfl Ev.none)) ga) (congrArg T.str ea)) ga (fun _ => rfl)) ta)
      (AllT.goA (Tr.eq (Tr.of (Ev.eq (Ev.sliceS (S'.name q3 rfl rfl) EvP.none (EvP.non (Ev.orF (S'.name q1 rfl rfl) trivial rfl Ev.none)) gb) (congrArg T.str eb)) gb (fun _ => rfl)) tb)
      (AllT.stopA (Tr.eq (Tr.cmp (Ev.itemS (k := -1) (S'.name q2 rfl rfl) (Ev.sub (S'.name q1 rfl rfl) Ev.int) (by decide) na) (Ev.itemS (k := -1) (S'.name q3 rfl rfl) (Ev.sub (S'.name q1 rfl rfl) Ev.int) (by decide) nb) rfl op_eqS) hcmp))))
  · rintro i σ s' E' hi
    lia
  rintro σ s' ⟨q1, q2, q3, q4⟩ S'
  refine S'.assign (Ev.eq (Ev.sliceS (S'.name q2 rfl rfl) EvP.none (EvP.non (Ev.orF (S'.name q1 rfl rfl) trivial rfl Ev.none)) ga) (congrArg T.str ea)) rfl (.inl rfl) (fun p hp => by cases hp) rfl fun s₇ S₇ => ?_
  refine S₇.assign (Ev.eq (Ev.sliceS (S₇.name q3 rfl rfl) EvP.none (EvP.non (Ev.orF (S₇.name q1 rfl rfl) trivial rfl Ev.none)) gb) (congrArg T.str eb)) rfl (.inl rfl) (fun p hp => by cases hp) rfl fun s₈ S₈ => ?_
  refine S₈.ifF (Tr.bool (AllT.goO (Tr.eq (Tr.not (Tr.of (S₈.name rfl rfl rfl) ga (fun _ => rfl))) (by rw [ta]; rfl)) (AllT.goO (Tr.eq (Tr.not (Tr.of (S₈.name rfl rfl rfl) gb (fun _ => rfl))) (by rw [tb]; rfl)) AllT.nilO))) S₈.live fun s₉ S₉ => ?_
  have hla3 : (ra.length : Int) ≤ 3 := by lia
  have kI : (rb.length : Int) = ra.length := by lia
  refine S₉.ifF (Tr.bool (AllT.goO (Tr.eq (Tr.cmp (S₉.lenS (l := ra) (G.mono S₉.keep) rfl (by lia) rfl rfl rfl rfl rfl rfl rfl) (Ev.name ((G.mono S₉.keep).loads rfl rfl rfl rfl rfl) (.int 40 _)) rfl op_gt) (decide_eq_false (by lia)))
    (AllT.goO (Tr.eq (Tr.cmp (S₉.lenS (l := rb) (G.mono S₉.keep) rfl (by lia) rfl rfl rfl rfl rfl rfl rfl) (Ev.name ((G.mono S₉.keep).loads rfl rfl rfl rfl rfl) (.int 40 _)) rfl op_gt) (decide_eq_false (by lia))) AllT.nilO))) S₉.live fun s₁₀ S₁₀ => ?_
  refine S₁₀.ifF (Tr.eq (Tr.cmp (S₁₀.lenS (l := rb) (G.mono S₁₀.keep) rfl (by lia) rfl rfl rfl rfl rfl rfl rfl) (S₁₀.lenS (l := ra) (G.mono S₁₀.keep) rfl (by lia) rfl rfl rfl rfl rfl rfl rfl) rfl op_lt) (decide_eq_false (by lia))) S₁₀.live fun s₁₁ S₁₁ => ?_
  have m0 : IntMulOk ((rb.length : Int) - ra.length) 2 := by rw [kI, Int.sub_self]; exact IntMulOk.of_left (by decide +kernel)
  refine S₁₁.ifF (Tr.eq (Tr.cmp (Ev.mul (Ev.sub (S₁₁.lenS (l := rb) (G.mono S₁₁.keep) rfl (by lia) rfl rfl rfl rfl rfl rfl rfl) (S₁₁.lenS (l := ra) (G.mono S₁₁.keep) rfl (by lia) rfl rfl rfl rfl rfl rfl rfl)) (Ev.name ((G.mono S₁₁.keep).loads rfl rfl rfl rfl rfl) (.int 2 _)) m0) (S₁₁.name q4 rfl rfl) rfl op_gt) (decide_eq_false (by lia))) S₁₁.live fun s₁₂ S₁₂ => ?_
  have hsm : Builtin.Range.small 2 (2 * ((ra.length : Int) + 1)) 2 = true ∧ Builtin.Range.rangeSize 2 (2 * ((ra.length : Int) + 1)) 2 = (ra.length : Int) := by
    have h4 : ra.length = 1 ∨ ra.length = 2 ∨ ra.length = 3 := by lia
    rcases h4 with e | e | e <;> rw [e] <;> decide +kernel
  have hrow : ((List.range ra.length).map fun (i : Nat) => T.int (2 + i * 2)) = (rowI ra.length 0 0).map T.int := by
    unfold rowI
    rw [List.map_map]
    apply List.map_congr_left
    intro t _
    simp only [Function.comp, Nat.not_lt_zero, if_false]
    congr 1; lia
  refine S₁₂.assignNew (ts := (rowI ra.length 0 0).map T.int) (hrow ▸ EvNew.range3 hh ((G.mono S₁₂.keep).loadsB rfl (by decide +kernel) (by decide) rfl rfl rfl rfl rfl) ((G.mono S₁₂.keep).loadsB rfl (by decide +kernel) (by decide) rfl rfl rfl rfl rfl)
    (Ev.name ((G.mono S₁₂.keep).loads rfl rfl rfl rfl rfl) (.int 2 _)) (Ev.mul (Ev.name ((G.mono S₁₂.keep).loads rfl rfl rfl rfl rfl) (.int 2 _)) (Ev.add (Ev.free S₁₂.live (S₁₂.lenS (l := ra) (G.mono S₁₂.keep) rfl (by lia) rfl rfl rfl rfl rfl rfl rfl)) Ev.int) (IntMulOk.of_left (by decide +kernel))) (Ev.name ((G.mono S₁₂.keep).loads rfl rfl rfl rfl rfl) (.int 2 _)) (by decide) (by decide) hsm.1 hsm.2 (by lia) rfl rfl rfl rfl) rfl (.inl rfl) (fun p hp => by cases hp) rfl fun a s₁₃ S₁₃ => ?_
  refine S₁₃.assign Ev.int rfl (.inl rfl) (mu_ne1 (by decide)) rfl fun s₁₄ S₁₄ => ?_
  refine S₁₄.forIn rfl (.inl rfl) (fun _ => rfl) (Src.range1 hh ((G.mono S₁₄.keep).loadsB rfl (by decide +kernel) (by decide) rfl rfl rfl rfl rfl) (S₁₄.lenS (l := rb) (G.mono S₁₄.keep) rfl (by lia) rfl rfl rfl rfl rfl rfl rfl) (by lia) (by lia) rfl)
    (LevOut ra rb mc) ⟨a, rfl, rfl, q4, rfl, rfl⟩ ?_ ?_ ?_
  · rintro i σ μ ⟨b, _, _, _, _, rfl⟩
    exact mu_ne1 (by decide)
  · rintro i t σ μ X₁ g s₁₅ E₁₅ ht ⟨b, p1, p2, p3, p4, rfl⟩ hg S₁₅
    have hi : i < rb.length := by
      have := (List.getElem?_eq_some_iff.mp ht).1
      rw [List.length_map, rng_length] at this
      lia
    have et : t = .int i := by
      rw [List.getElem?_map, rng_get _ _ _ (by lia)] at ht
      simp at ht; exact ht.symm
    subst et
    have nb : (Txt.charAt (strOf rb) (i : Int)).isSome = true := by rw [char_nat _ i hi]; rfl
    have z2 : (upd σ "bindex" (.int i)) "b" = some (.str (strOf rb)) := p2
    refine S₁₅.assign (Ev.eq (Ev.itemS (S₁₅.name z2 rfl rfl) (S₁₅.name rfl rfl rfl) (fits_nat (by lia)) nb) (congrArg T.str (item_at rb i hi))) rfl (.inl rfl) (mu_ne1 (by decide)) rfl fun s₁₆ S₁₆ => ?_
    refine S₁₆.assign2 (Ev.mul (S₁₆.name (t := .int i) rfl rfl rfl) (Ev.name (((G.mono hg).mono S₁₆.keep).loads rfl rfl rfl rfl rfl) (.int 2 _)) (IntMulOk.of_right (by decide +kernel))) rfl rfl (.inl rfl) (.inl rfl) (mu_ne1 (by decide)) (mu_ne1 (by decide)) rfl fun s₁₇ S₁₇ => ?_
    refine S₁₇.assign Ev.int rfl (.inl rfl) (mu_ne1 (by decide)) rfl fun s₁₈ S₁₈ => ?_
    refine S₁₈.forIn rfl (.inl rfl) (fun _ => rfl) (Src.range1 hh (((G.mono hg).mono S₁₈.keep).loadsB rfl (by decide +kernel) (by decide) rfl rfl rfl rfl rfl) (S₁₈.lenS (l := ra) ((G.mono hg).mono S₁₈.keep) p1 (by lia) rfl rfl rfl rfl rfl rfl rfl) (by lia) (by lia) rfl)
      (LevIn ra rb mc i)
      ⟨9223372036854775807, b, p1, p2, p3, rfl, ?_, ?_, rfl, fun h => absurd h (by decide), rfl⟩ ?_ ?_ ?_
    · show some (T.int ((i : Int) * 2)) = _
      congr 2; simp; lia
    · show some (T.int ((i : Int) * 2)) = _
      congr 2; simp; lia
    · rintro j σ μ ⟨_, b, _, _, _, _, _, _, _, _, rfl⟩
      exact mu_ne1 (by decide)
    · rintro j t σ μ X₂ g₂ s₁₉ E₁₉ ht ⟨mn, b, u1, u2, u3, u4, u5, u6, u7, u8, rfl⟩ hg₂ S₁₉
      have hj : j < ra.length := by
        have := (List.getElem?_eq_some_iff.mp ht).1
        rw [List.length_map, rng_length] at this
        lia
      have et : t = .int j := by
        rw [List.getElem?_map, rng_get _ _ _ (by lia)] at ht
        simp at ht; exact ht.symm
      subst et
      have GG : ∀ {hp : Heap}, Sub g₂ hp → Gl (KK w) hp := fun {hp} q => ((G.mono hg).mono hg₂).mono q
      have na : (Txt.charAt (strOf ra) (j : Int)).isSome = true := by rw [char_nat _ j hj]; rfl
      have ca := getD_mem hj
      have cb := getD_mem hi
      have w1 : (upd σ "index" (.int j)) "a" = some (.str (strOf ra)) := u1
      have w4 : (upd σ "index" (.int j)) "bchar" = some (.str (strOf [rb.getD i 0])) := u4
      have w5 : (upd σ "index" (.int j)) "distance" = some (.int (2 * max (i : Int) j)) := u5
      refine S₁₉.assign (Ev.add (S₁₉.name w5 rfl rfl) (Ev.callF (t := .int 2) ((GG S₁₉.keep).loads rfl rfl rfl rfl rfl) ((GG S₁₉.keep).1 31 _ rfl) rfl (Evs.cons (S₁₉.name w4 rfl rfl) (Evs.cons (Ev.eq (Ev.itemS (S₁₉.name w1 rfl rfl) (S₁₉.name rfl rfl rfl) (fits_nat (by lia)) na) (congrArg T.str (item_at ra j hj))) Evs.nil rfl) rfl) rfl
        fun s E vs q lv r => subst_c w (by exact hdp) ((GG S₁₉.keep).mono q) lv (fun e => hne _ ca _ cb e.symm) (hlb _ cb) (hla _ ca) r)) rfl (.inl rfl) (mu_ne1 (by decide)) rfl fun s₂₀ S₂₀ => ?_
      refine S₂₀.assign (t := .int (2 * max (i : Int) (j + 1))) (Ev.plain (Ev.itemL (S₂₀.mutF (List.mem_singleton_self _) rfl rfl) (S₂₀.nameF rfl rfl rfl) (by lia) (by lia) (by rw [Int.toNat_natCast, get_int _ j (by rw [rowI_len]; exact hj), rowI_get _ _ _ hj])) rfl) rfl (.inl rfl) (mu_ne1 (by decide)) rfl fun s₂₁ S₂₁ => ?_
      refine S₂₁.assign (Ev.add (Ev.callB (id := "min") ((GG S₂₁.keep).loadsB rfl (by decide +kernel) (by decide) rfl rfl rfl rfl rfl) (Evs.cons (S₂₁.name u6 rfl rfl) (Evs.cons (S₂₁.name rfl rfl rfl) Evs.nil rfl) rfl) rfl (fun _ => rfl) fun s E vs _ _ r => c_min (A := A.deeper _) hh s E vs r) (Ev.name ((GG S₂₁.keep).loads rfl rfl rfl rfl rfl) (.int 2 _))) rfl (.inl rfl) (mu_ne1 (by decide)) rfl fun s₂₂ S₂₂ => ?_
      have hres : min (min (if j = 0 then 2 * (i : Int) else 2 * max ((i : Int) + 1) j) (2 * max (i : Int) (j + 1)) + 2) (2 * max (i : Int) j + 2) = 2 * max ((i : Int) + 1) (j + 1) := by
        by_cases e : j = 0
        · rw [if_pos e]; subst e; exact res_low i (Int.natCast_nonneg i)
        · rw [if_neg e]; exact res_mid i j
      refine S₂₂.assign (t := .int (2 * max ((i : Int) + 1) (j + 1))) (Ev.eq (Ev.callB (id := "min") ((GG S₂₂.keep).loadsB rfl (by decide +kernel) (by decide) rfl rfl rfl rfl rfl) (Evs.cons (S₂₂.name rfl rfl rfl) (Evs.cons (S₂₂.name rfl rfl rfl) Evs.nil rfl) rfl) rfl (fun _ => rfl) fun s E vs _ _ r => c_min (A := A.deeper _) hh s E vs r) (congrArg T.int hres)) rfl (.inl rfl) (mu_ne1 (by decide)) rfl fun s₂₃ S₂₃ => ?_
      refine Sta.setAt (l₁ := []) (l₂ := []) S₂₃ (i := j) (S₂₃.name rfl rfl rfl) (S₂₃.name rfl rfl rfl) (by rw [List.length_map, rowI_len]; exact hj) (by rw [List.length_map, rowI_len]; lia) rfl rfl rfl fun s₂₄ S₂₄ => ?_
      have hset : ((rowI ra.length i j).map T.int).set j (T.int (2 * max ((i : Int) + 1) (j + 1))) = (rowI ra.length i (j + 1)).map T.int := by
        rw [← rowI_set _ _ _ hj, List.map_set]
      rw [hset] at S₂₄
      have v6 : some (T.int (2 * max ((i : Int) + 1) (j + 1))) = some (T.int (if j + 1 = 0 then 2 * (i : Int) else 2 * max ((i : Int) + 1) ((j + 1 : Nat) : Int))) := by
        rw [if_neg (Nat.succ_ne_zero j)]; rfl
      by_cases hlt : 2 * max ((i : Int) + 1) (j + 1) < mn
      · refine S₂₄.ifT (Tr.eq (Tr.cmp (S₂₄.name (t := .int (2 * max ((i : Int) + 1) (j + 1))) rfl rfl rfl) (S₂₄.name u7 rfl rfl) rfl op_lt) (decide_eq_true hlt)) S₂₄.live fun s₂₅ kp => ?_
        have S₂₅ := S₂₄.grow kp
        refine S₂₅.assign (S₂₅.name (t := .int (2 * max ((i : Int) + 1) (j + 1))) rfl rfl rfl) rfl (.inl rfl) (mu_ne1 (by decide)) rfl fun s₂₆ S₂₆ => ?_
        refine wpAny_execs_nil (wpAny_execs_nil ⟨rfl, _, _, _, ?_, S₂₆⟩)
        refine ⟨2 * max ((i : Int) + 1) (j + 1), b, u1, u2, u3, u4, rfl, v6, rfl, fun _ => ?_, rfl⟩
        · by_cases e : j = 0
          · subst e; simp; lia
          · have := u8 (by lia); lia
      · refine S₂₄.ifF (Tr.eq (Tr.cmp (S₂₄.name (t := .int (2 * max ((i : Int) + 1) (j + 1))) rfl rfl rfl) (S₂₄.name u7 rfl rfl) rfl op_lt) (decide_eq_false hlt)) S₂₄.live fun s₂₅ S₂₅ => ?_
        refine wpAny_execs_nil ⟨rfl, _, _, _, ?_, S₂₅⟩
        refine ⟨mn, b, u1, u2, u3, u4, rfl, v6, u7, fun _ => ?_, rfl⟩
        · by_cases e : j = 0
          · subst e; simp at hlt; lia
          · have := u8 (by lia); lia
    · rintro σ μ X' s' ⟨mn, b, u1, u2, u3, u4, u5, u6, u7, u8, rfl⟩ S'
      have el : ((rng 0 (ra.length : Int).toNat).map T.int).length = ra.length := by rw [List.length_map, rng_length]; lia
      rw [el] at u6 u8 S'
      have hmn := u8 h1
      refine S'.ifF (Tr.eq (Tr.cmp (S'.name u7 rfl rfl) (S'.name u3 rfl rfl) rfl op_gt) (decide_eq_false (by lia))) S'.live fun s₂₀ S₂₀ => ?_
      refine wpAny_execs_nil ⟨rfl, _, _, _, ?_, S₂₀⟩
      refine ⟨b, u1, u2, u3, ?_, ?_⟩
      · rw [u6, if_neg (by lia), if_neg (Nat.succ_ne_zero i)]; rfl
      · rw [rowI_done]
  · rintro σ μ X' s' ⟨b, p1, p2, p3, p4, rfl⟩ S'
    rw [List.length_map, rng_length, Int.toNat_natCast, if_neg (by lia), kI, Int.max_self] at p4
    exact S'.ret (S'.name p4 rfl rfl) S'.live fun v s'' rv kp => ⟨v, rfl, rep_plain rv rfl, Kp.trans S'.keeps kp⟩
end Mine
end

-- A6
section
open PySem PySem.W PyProof.Rows PySem.Calls
set_option linter.unusedVariables false
set_option maxRecDepth 100000
set_option maxHeartbeats 4000000
namespace Mine
/-- the second statement of _int2digits: def inner -/
noncomputable def innerS (w : World) : Stmt := match (KK w).lookup 21 with
  | some ⟨_, _, .func fd, _⟩ => (match fd.body with
    | .stmts (_ :: st :: _) => st
    | _ => .Pass default)
  | _ => .Pass default
noncomputable def dgs (n : Nat) : Nat → Nat → Nat → List Nat
  | 0, _, x => [x]
  | f + 1, cnt, x => if cnt ≤ 1 then [x] else dgs n f (cnt / 2) (x % 2 ^ (n * (cnt / 2))) ++ dgs n f (cnt - cnt / 2) (x / 2 ^ (n * (cnt / 2)))
theorem dgs_len (n : Nat) : ∀ f cnt x, 1 ≤ cnt → cnt ≤ f + 1 → (dgs n f cnt x).length = cnt
  | 0, cnt, x, h1, h2 => by simp [dgs]; lia
  | f + 1, cnt, x, h1, h2 => by
    rw [dgs]
    split
    · simp; lia
    · rw [List.length_append, dgs_len n f _ _ (by lia) (by lia), dgs_len n f _ _ (by lia) (by lia)]; lia
theorem xor_low : ∀ s : Nat, s < 9 → ∀ x : Nat, x < 128 → Builtin.bitXor (x : Int) ((x : Int) / 2 ^ s * 2 ^ s) = ((x % 2 ^ s : Nat) : Int) := by decide +kernel

/-- what a call of inner asks of the heap -/
structure InC (h : Heap) (fo : Obj) (f cn cd ci a : Addr) (bits : Nat) (tkn : Tok) (cdv : Value) (qual : Str) : Prop where
  lim : h.NoLimit
  fn : h.get? f = some fo
  code : h.CodeRec cdv qual
  n : h.IsCell cn (some (.int bits tkn))
  d : h.IsCell cd (some (.ref a))
  i : h.IsCell ci (some (.ref f))
theorem InC.keep {h h' : Heap} {fo : Obj} {f cn cd ci a : Addr} {bits : Nat} {tkn : Tok} {cdv : Value} {qual : Str} {vs : Array Value} (c : InC h fo f cn cd ci a bits tkn cdv qual) (hp : h.PlainList a vs) (hfo : ∃ fd, fo.data = .func fd) (k : ∀ b o, b ≠ a → h.get? b = some o → h'.get? b = some o) :
    InC h' fo f cn cd ci a bits tkn cdv qual := by
  obtain ⟨mc, hns, hm⟩ := c.lim
  obtain ⟨n, hp'⟩ := hp
  have ne : ∀ {b o}, h.get? b = some o → (∀ xs m, o.data ≠ .seq xs m) → b ≠ a := fun {b o} e hd q => by
    rw [q, hp'] at e; cases e; exact hd _ _ rfl
  have cell : ∀ {c v}, h.IsCell c v → h'.IsCell c v := fun {c v} ⟨o, ho, hd⟩ => ⟨o, k _ o (ne ho (fun _ _ e => by rw [hd] at e; cases e)) ho, hd⟩
  refine ⟨⟨mc, ?_, hm⟩, k _ _ (ne c.fn fun _ _ e => by obtain ⟨fd, hfd⟩ := hfo; rw [hfd] at e; cases e) c.fn, c.code.keepsBut k hp' (fun _ e => by cases e), cell c.n, cell c.d, cell c.i⟩
  obtain ⟨o, es, ep, e, hd, r⟩ := hns
  exact ⟨o, es, ep, k _ _ (ne e fun _ _ q => by rw [hd] at q; cases q) e, hd, r⟩
theorem InC.sub {h h' : Heap} {fo : Obj} {f cn cd ci a : Addr} {bits : Nat} {tkn : Tok} {cdv : Value} {qual : Str} (c : InC h fo f cn cd ci a bits tkn cdv qual) (k : Sub h h') : InC h' fo f cn cd ci a bits tkn cdv qual := by
  obtain ⟨mc, hns, hm⟩ := c.lim
  exact ⟨⟨mc, hns.keeps k, hm⟩, k _ _ c.fn, c.code.keeps k, c.n.keeps k, c.d.keeps k, c.i.keeps k⟩
/-- what a call of inner leaves -/
inductive InPost (s : Shared) (a : Addr) (ds : List Nat) (s' : Shared) : Prop
  | mk (h' : Heap) (tk : Nat) (vs : List Value) (e : s' = { s with heap := h', toks := tk }) (keep : ∀ b o, b ≠ a → s.heap.get? b = some o → h'.get? b = some o) (hp : h'.PlainList a vs.toArray) (hi : IntsAre vs (ds.map fun (m : Nat) => (m : Int)))
theorem inner_leaf (w : World) {name qual : Str} {params : Arguments} {body : List Stmt} {scope : Scope} {pos : Pos} (hS : innerS w = .FunctionDef name params body [] none [] scope none name pos) {f a cn cd ci : Addr} {bits : Nat} {doc pm cdv ct : Value} {tkn : Tok}
    (x lo : Nat) (ds : List Nat) (A : Around) (s : Shared) (E : Value → Shared → Prop) (t1 t2 t3 : Tok) (vs : List Value) (hlo : lo + 1 ≤ ds.length) (hlen : ds.length ≤ 100) (hdp : A.depth < recursionLimit)
    (C : InC s.heap { cls := .type "function", data := .func (fnX name qual params body scope [("n", cn), ("inner", ci), ("a_digits", cd)] .none .none doc pm none cdv ct) } f cn cd ci a bits tkn cdv qual)
    (hp : s.heap.PlainList a vs.toArray) (hi : IntsAre vs (ds.map fun (m : Nat) => (m : Int))) :
    wpAny (model pr w) A (call (.ref f) [.int x t1, .int lo t2, .int ((lo + 1 : Nat) : Int) t3]) (fun v s' => InPost s a (ds.take lo ++ [x] ++ ds.drop (lo + 1)) s') E s := by
  cases hS
  have lv : Live [a] s.heap := fun b m => by
    rw [List.mem_singleton.mp m]; obtain ⟨n, e⟩ := hp; exact ⟨_, e⟩
  refine enterX (X := [a]) C.lim lv C.fn rfl C.code hdp rfl (locs rfl) (by decide) (fun _ => rfl) rfl rfl rfl fun L s₁ up var S => ?_
  have S₁ := ((S.add (t := .int x) (var "x" _ rfl rfl) (.int _ _)).add (t := .int lo) (var "L" _ rfl rfl) (.int _ _)).add (t := .int ((lo + 1 : Nat) : Int)) (var "R" _ rfl rfl) (.int _ _)
  clear S var up lv
  refine S₁.ifT (Tr.eq (Tr.cmp (Ev.add (S₁.name rfl rfl rfl) Ev.int) (S₁.name rfl rfl rfl) rfl op_eq) (beq_iff_eq.mpr rfl)) S₁.live fun s₂ kp => ?_
  have S₂ := S₁.grow kp
  clear S₁ kp
  refine wpAny_execs_cons (wpAny_Assign_Subscript (wpAny_mono ((S₂.name (x := "x") (t := .int x) rfl rfl rfl) s₂ _ (Sub.refl _) S₂.live) (fun v s₃ h₃ => ?_) fun _ _ e => e) rfl)
  obtain ⟨rv, kp⟩ := h₃
  obtain ⟨tv, rfl⟩ := rep_int rv
  have S₃ := S₂.grow kp
  clear S₂ kp
  refine (loads_free (h := s.heap) (v := .ref a) rfl C.d rfl rfl rfl rfl) _ _ _ _ _ _ S₃.keep ?_
  refine wpAny_mono ((S₃.name (x := "L") (t := .int lo) rfl rfl rfl) s₃ _ (Sub.refl _) S₃.live) (fun u s₄ h₄ => ?_) fun _ _ e => e
  obtain ⟨ru, kp⟩ := h₄
  obtain ⟨_, rfl⟩ := rep_int ru
  have S₄ := S₃.grow kp
  clear S₃ kp
  obtain ⟨n, hp'⟩ := hp
  have hp₄ := S₄.keep _ _ hp'
  have hvl : vs.length = ds.length := by have := hi.length; simpa using this
  refine ki_setAt hp₄ (Int.natCast_nonneg _) (by lia) (by simp only [List.size_toArray]; lia) ?_
  refine wpAny_execs_cons (wpAny_Return_none ?_)
  obtain ⟨h₅, tk₅, e⟩ := S₄.sh
  have e2 : ds.take lo ++ [x] ++ ds.drop (lo + 1) = ds.set lo x := by
    rw [List.set_eq_take_append_cons_drop, if_pos (Nat.lt_of_succ_le hlo), List.append_assoc]; rfl
  refine ⟨_, tk₅, vs.set lo (.int x tv), by rw [e], fun b o nb e => Heap.SameBut.extBut (Heap.SameBut.update ..) b o nb (S₄.keep b o e), ⟨_, by simpa using IsL.update hp₄ (fun xs => xs.setIfInBounds (lo : Int).toNat (.int x tv))⟩, ?_⟩
  rw [e2, List.map_set]
  exact ints_set (x := (x : Int)) (u := tv) hi lo
/-- two halves -/
theorem half {fu cnt : Nat} (h : cnt ≠ 1) (h1 : 1 ≤ cnt) (h2 : cnt ≤ fu + 1 + 1) : ∃ p q, cnt = p + q ∧ 1 ≤ p ∧ 1 ≤ q ∧ p ≤ fu + 1 ∧ q ≤ fu + 1 ∧ p ≤ q ∧ q ≤ p + 1 ∧ ∀ bits x, dgs bits (fu + 1) (p + q) x = dgs bits fu p (x % 2 ^ (bits * p)) ++ dgs bits fu q (x / 2 ^ (bits * p)) := by
  have e1 : cnt / 2 + (cnt - cnt / 2) = cnt := by lia
  refine ⟨cnt / 2, cnt - cnt / 2, e1.symm, by lia, by lia, by lia, by lia, by lia, by lia, fun bits x => ?_⟩
  rw [e1, dgs, if_neg (by lia)]
theorem weave (ds A B : List Nat) (lo p q : Nat) (hA : A.length = p) (hl : lo + (p + q) ≤ ds.length) :
    (ds.take lo ++ A ++ ds.drop (lo + p)).take (lo + p) ++ B ++ (ds.take lo ++ A ++ ds.drop (lo + p)).drop (lo + p + q) = ds.take lo ++ (A ++ B) ++ ds.drop (lo + (p + q)) := by
  have la : (ds.take lo ++ A).length = lo + p := by rw [List.length_append, hA, List.length_take, Nat.min_eq_left (Nat.le_trans (Nat.le_add_right ..) hl)]
  rw [List.take_left' la, List.drop_append, la, List.drop_of_length_le (by rw [la]; exact Nat.le_add_right ..), List.nil_append, List.drop_drop, Nat.add_sub_cancel_left, Nat.add_assoc]
  simp only [List.append_assoc]
theorem inner_c (w : World) {name qual : Str} {params : Arguments} {body : List Stmt} {scope : Scope} {pos : Pos} (hS : innerS w = .FunctionDef name params body [] none [] scope none name pos) {f a cn cd ci : Addr} {bits : Nat} {doc pm cdv ct : Value} {tkn : Tok} (hb : bits = 2 ∨ bits = 3) :
    ∀ (fu cnt x lo : Nat) (ds : List Nat) (A : Around) (s : Shared) (E : Value → Shared → Prop) (t1 t2 t3 : Tok) (vs : List Value), 1 ≤ cnt → cnt ≤ fu + 1 → bits * cnt ≤ 16 → x < 128 → lo + cnt ≤ ds.length → ds.length ≤ 100 → A.depth + fu < recursionLimit →
      InC s.heap { cls := .type "function", data := .func (fnX name qual params body scope [("n", cn), ("inner", ci), ("a_digits", cd)] .none .none doc pm none cdv ct) } f cn cd ci a bits tkn cdv qual → s.heap.PlainList a vs.toArray → IntsAre vs (ds.map fun (m : Nat) => (m : Int)) →
      wpAny (model pr w) A (call (.ref f) [.int x t1, .int lo t2, .int ((lo + cnt : Nat) : Int) t3]) (fun v s' => InPost s a (ds.take lo ++ dgs bits fu cnt x ++ ds.drop (lo + cnt)) s') E s := by
  have leaf := @inner_leaf w name qual params body scope pos hS f a cn cd ci bits doc pm cdv ct tkn
  cases hS
  intro fu
  induction fu with
  | zero =>
    intro cnt x lo ds A s E t1 t2 t3 vs c1 c2 c3 hx hlo hlen hdp C hp hi
    obtain rfl : cnt = 1 := Nat.le_antisymm c2 c1
    exact leaf x lo ds A s E t1 t2 t3 vs hlo hlen hdp C hp hi
  | succ fu ih =>
    intro cnt x lo ds A s E t1 t2 t3 vs c1 c2 c3 hx hlo hlen hdp C hp hi
    by_cases hc : cnt = 1
    · subst hc
      exact leaf x lo ds A s E t1 t2 t3 vs hlo hlen (Nat.lt_of_le_of_lt (Nat.le_add_right ..) hdp) C hp hi
    clear leaf
    obtain ⟨p, q, rfl, p1, q1, p2, q2, pq, qp, hdg⟩ := half hc c1 c2
    have hsh : bits * p < 9 := by
      rcases hb with rfl | rfl <;> lia
    have m3 : bits * p ≤ 16 := Nat.le_trans (Nat.le_of_lt hsh) (by decide)
    have q3 : bits * q ≤ 16 := Nat.le_trans (Nat.mul_le_mul_left _ (Nat.le_add_left ..)) c3
    have x1 : x % 2 ^ (bits * p) < 128 := Nat.lt_of_le_of_lt (Nat.mod_le _ _) hx
    have x2 : x / 2 ^ (bits * p) < 128 := Nat.lt_of_le_of_lt (Nat.div_le_self _ _) hx
    have exu : (x : Int) / 2 ^ ((bits * p : Nat) : Int).toNat = ((x / 2 ^ (bits * p) : Nat) : Int) := by
      rw [Int.toNat_natCast, Int.natCast_ediv, Int.natCast_pow]; rfl
    have exl : Builtin.bitXor (x : Int) (((x / 2 ^ (bits * p) : Nat) : Int) * 2 ^ ((bits * p : Nat) : Int).toNat) = ((x % 2 ^ (bits * p) : Nat) : Int) := by
      rw [Int.toNat_natCast, ← xor_low _ hsh x hx, Int.natCast_ediv, Int.natCast_pow]; rfl
    have emid : ((lo : Int) + ((lo + (p + q) : Nat) : Int)) / 2 ^ (1 : Int).toNat = ((lo + p : Nat) : Int) := by
      show ((lo : Int) + ((lo + (p + q) : Nat) : Int)) / 2 = _
      lia
    have esh : (((lo + p : Nat) : Int) - (lo : Int)) * (bits : Int) = ((bits * p : Nat) : Int) := by
      rw [Int.natCast_add, Int.add_comm, Int.add_sub_cancel, Int.natCast_mul, Int.mul_comm]
    rw [hdg]
    have l1 : (dgs bits fu p (x % 2 ^ (bits * p))).length = p := dgs_len bits fu _ _ p1 p2
    generalize x % 2 ^ (bits * p) = xl at x1 exl l1 ⊢
    generalize x / 2 ^ (bits * p) = xu at x2 exu exl ⊢
    generalize hsv : bits * p = sh at hsh exu exl esh
    clear hdg c1 c2 c3 hc qp hsv
    have lv : Live [a] s.heap := fun b m => by
      rw [List.mem_singleton.mp m]; obtain ⟨n, e⟩ := hp; exact ⟨_, e⟩
    refine enterX (X := [a]) C.lim lv C.fn rfl C.code (Nat.lt_of_le_of_lt (Nat.le_add_right ..) hdp) rfl (locs rfl) (by decide) (fun _ => rfl) rfl rfl rfl fun L s₁ up var S => ?_
    have S₁ := ((S.add (t := .int x) (var "x" _ rfl rfl) (.int _ _)).add (t := .int lo) (var "L" _ rfl rfl) (.int _ _)).add (t := .int ((lo + (p + q) : Nat) : Int)) (var "R" _ rfl rfl) (.int _ _)
    refine S₁.ifF (Tr.eq (Tr.cmp (Ev.add (S₁.name rfl rfl rfl) Ev.int) (S₁.name rfl rfl rfl) rfl op_eq) (beq_eq_false_iff_ne.mpr (by lia))) S₁.live fun s₂ S₂ => ?_
    refine S₂.assign (Ev.eq (Ev.shr (Ev.add (S₂.name rfl rfl rfl) (S₂.name rfl rfl rfl)) Ev.int (by decide)) (congrArg T.int emid)) rfl (.inl rfl) (fun p hp => by cases hp) rfl fun s₃ S₃ => ?_
    refine S₃.assign (Ev.eq (Ev.mul (Ev.sub (S₃.name rfl rfl rfl) (S₃.name rfl rfl rfl)) (Ev.name ((loads_free (h := s.heap) rfl C.n rfl rfl rfl rfl).mono S₃.keep) (.int (bits : Int) _)) (IntMulOk.of_right ?_)) (congrArg T.int esh)) rfl (.inl rfl) (fun p hp => by cases hp) rfl fun s₄ S₄ => ?_
    · rcases hb with rfl | rfl <;> decide +kernel
    refine S₄.assign (Ev.eq (Ev.shr (S₄.name rfl rfl rfl) (S₄.name rfl rfl rfl) (Int.natCast_nonneg _)) (congrArg T.int exu)) rfl (.inl rfl) (fun p hp => by cases hp) rfl fun s₅ S₅ => ?_
    refine S₅.assign (Ev.eq (Ev.xor (S₅.name rfl rfl rfl) (Ev.shl (S₅.name rfl rfl rfl) (S₅.name rfl rfl rfl) (Int.natCast_nonneg _) (by lia) ?_)) (congrArg T.int exl)) rfl (.inl rfl) (fun p hp => by cases hp) rfl fun s₆ S₆ => ?_
    · rw [Int.natAbs_natCast]
      exact Nat.lt_trans x2 (by decide)
    clear S S₁ S₂ S₃ S₄ S₅ exu exl emid esh var up lv
    have Lne : a ∉ own _ ([] : Mu) := fun m => by
      have e := S₆.off a m
      obtain ⟨n, q⟩ := hp
      rw [q] at e; cases e
    refine wpAny_execs_cons (wpAny_Expr_any (wpAny_Call_NameR ((loads_free (h := s.heap) (v := .ref f) rfl C.i rfl rfl rfl rfl) _ _ _ _ _ _ S₆.keep ?_)) rfl rfl)
    refine PyProof.Rows.callWith_def rfl (wpAny_mono ((Evs.cons (S₆.name rfl rfl rfl) (Evs.cons (S₆.name rfl rfl rfl) (Evs.cons (S₆.name rfl rfl rfl) Evs.nil rfl) rfl) rfl) _ s₆ _ (Sub.refl _) S₆.live) (fun vs₁ s₇ h₇ => ⟨Kp.sub h₇.2 _ _ (S₆.keep _ _ C.fn), ?_⟩) fun _ _ e => e) rfl
    obtain ⟨r₁, kp⟩ := h₇
    have S₇ := S₆.grow kp
    have C7 := C.sub S₇.keep
    have hp7 := hp.at fun o e => S₇.keep _ o e
    clear S₆ kp
    obtain ⟨u1, u2, u3, rfl, ru1, ru2, ru3⟩ := reps3 r₁
    obtain ⟨_, rfl⟩ := rep_int ru1; obtain ⟨_, rfl⟩ := rep_int ru2; obtain ⟨_, rfl⟩ := rep_int ru3
    refine wpAny_mono (ih p xl lo ds _ s₇ _ _ _ _ vs p1 p2 m3 x1 (by lia) hlen (by rw [depth_deeper]; lia) C7 hp7 hi) (fun v s₈ h₈ => ?_) fun _ _ e => e
    obtain ⟨h', tk, vs', rfl, hk₈, hp', hi'⟩ := h₈
    have live8 : ∃ o, h'.get? a = some o := let ⟨n, e⟩ := hp'; ⟨_, e⟩
    have S₈ := (S₇.lessBase (g := s.heap.hide a) (fun b o e => Heap.of_hide e)).touch tk (List.mem_cons_of_mem _ (List.mem_singleton_self _)) Lne (Heap.hide_self ..) hk₈ live8
    have C8 := C7.keep hp7 ⟨_, rfl⟩ hk₈
    have hkk : ∀ b o, b ≠ a → s.heap.get? b = some o → h'.get? b = some o := fun b o nb e => hk₈ b o nb (S₇.keep b o e)
    have hsh7 := S₇.sh
    clear C7 hp7 hk₈ live8 S₇ Lne
    have hl8 : (ds.take lo ++ dgs bits fu p xl ++ ds.drop (lo + p)).length = ds.length := by
      rw [List.length_append, List.length_append, l1, List.length_take, List.length_drop]; lia
    refine wpAny_execs_cons (wpAny_Expr_any (wpAny_Call_NameR ((loads_free (h := h') (v := .ref f) rfl C8.i rfl rfl rfl rfl) _ _ _ _ _ _ (Sub.refl _) ?_)) rfl rfl)
    refine PyProof.Rows.callWith_def rfl (wpAny_mono ((Evs.cons (S₈.name rfl rfl rfl) (Evs.cons (S₈.name rfl rfl rfl) (Evs.cons (S₈.name rfl rfl rfl) Evs.nil rfl) rfl) rfl) _ _ _ (Sub.refl _) S₈.live) (fun vs₂ s₉ h₉ => ⟨Kp.sub h₉.2 _ _ C8.fn, ?_⟩) fun _ _ e => e) rfl
    obtain ⟨r₂, kp₂⟩ := h₉
    have C9 := C8.sub (Kp.sub kp₂)
    clear S₈ C8
    obtain ⟨u1, u2, u3, rfl, ru1, ru2, ru3⟩ := reps3 r₂
    obtain ⟨_, rfl⟩ := rep_int ru1; obtain ⟨_, rfl⟩ := rep_int ru2; obtain ⟨_, rfl⟩ := rep_int ru3
    have hfin : lo + p + q = lo + (p + q) := Nat.add_assoc ..
    have e3 : ((lo + (p + q) : Nat) : Int) = ((lo + p + q : Nat) : Int) := by rw [hfin]
    rw [e3]
    refine wpAny_mono (ih q xu (lo + p) _ _ s₉ _ _ _ _ vs' q1 q2 q3 x2 (by rw [hl8, hfin]; exact hlo) (by rw [hl8]; exact hlen) (by rw [depth_deeper]; lia) C9 (hp'.at fun o e => Kp.sub kp₂ _ o e) hi') (fun v s₁₀ h₁₀ => ?_) fun _ _ e => e
    obtain ⟨h'', tk', vs'', rfl, hk₁₀, hp'', hi''⟩ := h₁₀
    rw [weave _ _ _ _ _ _ l1 hlo] at hi''
    refine wpAny_execs_nil ⟨h'', tk', vs'', ?_, fun b o nb e => hk₁₀ b o nb (Kp.sub kp₂ _ _ (hkk b o nb e)), hp'', hi''⟩
    obtain ⟨q1, q2, q3⟩ := hsh7
    obtain ⟨w1, w2, w3, _⟩ := kp₂
    rw [w3, q3]
end Mine
end

-- F15
section
open PySem PySem.W PyProof.Rows PySem.Calls
set_option linter.unusedVariables false
set_option maxRecDepth 100000
namespace Mine
section
variable {prog : Program} {w : World} {A : Around} {Xc X : List Addr} {σ : Str → Option T} {μ : Mu} {h₀ g h h' : Heap} {s₀ s s' : Shared} {x y : Str} {env : Env} {px py pos : Pos} {rest : List Stmt}

/-- e.bit_length() -/
theorem Ev.bitLen {e : Expr} {i : Int} {ap cp : Pos} (he : Ev prog w A env X h e (.int i)) (hb : attributeBase e "bit_length" env (eval e env) = eval e env) (hline : (ap.endLine == cp.line) = true) :
    Ev prog w A env X h (.Call (.Attribute e "bit_length" ap) [] [] cp) (.int (Builtin.Int.intBits i)) := fun s E q lv => by
  refine wpAny_Call_method_lateS hb rfl hline (wpAny_mono (he s E q lv) (fun v s₁ h₁ => ?_) fun _ _ e => e)
  obtain ⟨rv, kp⟩ := h₁
  obtain ⟨_, rfl⟩ := rep_int rv
  refine ⟨"int", "int.bit_length", ?_, slot_int_bit_length, type_int_bit_length, typeIs_int _ _ _, (by intro _ x; cases x), ?_⟩
  · exact F.plainAttrs_int
  · refine callWith_builtin rfl ?_
    refine evalArgs_nil3 ?_
    exact call_int_bit_length ⟨.int _ _, Kp.trans kp (Kp.toks _ _)⟩

theorem mul_raw {l : Addr} {vs : List Value} {k : Nat} {d : Option Addr} {sl : Array (Option Value)} {x : Int} {u : Tok} {Q : Value → Shared → Prop} {E : Value → Shared → Prop}
    (ho : s.heap.get? l = some { cls := .type "list", dict := d, data := .seq vs.toArray k, slots := sl }) (hlo : -(2 ^ 63 : Int) ≤ x) (hhi : x < 2 ^ 63) (hsz : vs.length * x.toNat ≤ 1000)
    (h : Q (.ref s.heap.objs.size) { s with heap := s.heap.push { cls := .type "list", data := .seq (List.replicate x.toNat vs).flatten.toArray } }) :
    wpAny (model prog w) A (binaryOp .Mult (.ref l) (.int x u)) Q E s := by
  have hsz' : vs.toArray.size * x.toNat ≤ 1000 := by simpa using hsz
  refine wpAny_binaryOp_repeat_ref (T := "list") (U := "int") (by decide) ⟨_, ho, rfl⟩ (fun s' => typeIs_int s' x u) noFill_list_mul F.fills_int_mul F.slot_int_rmul repeat_list F.slot_int_index.lookup
    (call_meets F.slot_int_rmul (typeIs_int s x u) F.entry_int_rmul (F.args_int_rmul_2 _ _) (lm_int_rmul_list_any x u l vs.toArray k d sl)
      ⟨ho, rfl, ⟨_, ho, rfl⟩, call_meets F.slot_list_mul ⟨_, ho, rfl⟩ F.entry_list_mul (F.args_list_mul_2 _ _)
        (lm_list_mul_any l vs.toArray k d sl x u (by simp [Builtin.List.listFitsIndex]; lia) (by lia) (by simp [Builtin.List.listTooLong, sizeLine]; lia))
        ⟨ho, ?_⟩⟩)
  rw [listMul_foldl_if]
  exact h
/-- [e] * k -/
theorem EvNew.mul {es : List Expr} {r : Expr} {t : List T} {k : Nat} {lp : Pos} (he : Evs prog w A env [] h es t) (hr : Ev prog w A env [] h r (.int k)) (hp : ∀ X h h' vs, Reps X h vs t → ∀ Y, Reps Y h' vs t) (hl : t.length ≤ 10) (hk : k ≤ 100) :
    EvNew prog w A env h (.BinOp (.List es lp) .Mult r pos) (List.replicate k t).flatten := fun s E q => by
  have lv0 : ∀ h, Live [] h := fun h a m => nomatch m
  refine wpAny_BinOp (wpAny_List (wpAny_mono (he lp s E q (lv0 _)) (fun vs s₁ h₁ => ⟨?_, ?_⟩) fun _ _ e => e))
  · have := h₁.1.length; rw [this]; exact Nat.le_trans hl (by decide)
  obtain ⟨rv, kp⟩ := h₁
  have hlen := rv.length
  have kp₁ := Kp.trans kp (Kp.heap0 (Sub.push s₁.heap { cls := .type "list", data := .seq vs.toArray }))
  refine wpAny_mono (hr _ E (q.trans (Kp.sub kp₁)) (lv0 _)) (fun v s₂ h₂ => ?_) fun _ _ e => e
  obtain ⟨r₂, kp₂⟩ := h₂
  obtain ⟨u, rfl⟩ := rep_int r₂
  have ho : s₂.heap.get? s₁.heap.objs.size = some { cls := .type "list", data := .seq vs.toArray } := Kp.sub kp₂ _ _ (Heap.get?_push_size _ rfl)
  have hb : vs.length * k ≤ 10 * 100 := Nat.mul_le_mul (by lia) hk
  refine mul_raw (k := 0) (sl := #[]) (d := none) ho (by lia) (by lia) (by simp only [Int.toNat_natCast]; lia) ?_
  refine ⟨⟨_, _, rfl, ?_, ⟨0, Heap.get?_push_size _ rfl⟩, ?_⟩, Kp.trans (Kp.trans kp₁ kp₂) (Kp.heap0 (Sub.push _ _))⟩
  · cases z : s.heap.get? s₂.heap.objs.size with
    | none => rfl
    | some o => exact absurd (Heap.lt_size (Kp.sub (Kp.trans kp₁ kp₂) _ _ z)) (Nat.lt_irrefl _)
  · intro X h
    have r0 := hp _ _ h _ rv X
    simp only [Int.toNat_natCast]
    clear hb ho hk hr r₂
    induction k with
    | zero => exact .nil
    | succ k ih =>
      rw [List.replicate_succ, List.replicate_succ, List.flatten_cons, List.flatten_cons]
      exact r0.append ih
end
end Mine
end

-- A7
section
open PySem PySem.W PyProof.Rows PySem.Calls
set_option linter.unusedVariables false
set_option maxRecDepth 100000
set_option maxHeartbeats 4000000
namespace Mine
noncomputable def innerPos (w : World) : Pos := match innerS w with
  | .FunctionDef _ _ _ _ _ _ _ _ _ p => p
  | _ => default
/-- the code table of _int2digits; its code object is not of X -/
noncomputable def TabSt (w : World) (X : List Addr) (h : Heap) : Prop := ∃ ps, h.get? 16 = some (tabObj ps) ∧ (ps = #[] ∨ ∃ c', ps = #[rawInt (innerPos w).line, rawInt (innerPos w).col, .ref c'] ∧ c' ∉ X ∧ h.CodeRec (.ref c') "_int2digits.<locals>.inner")
theorem TabSt.keeps {w : World} {X : List Addr} {h h' : Heap} (t : TabSt w X h) (q : Sub h h') : TabSt w X h' :=
  let ⟨ps, e, r⟩ := t; ⟨ps, q _ _ e, r.imp id fun ⟨c, e, n, r⟩ => ⟨c, e, n, r.keeps q⟩⟩
/-- objects of X other than 16 change -/
theorem TabSt.but {w : World} {X : List Addr} {h h' : Heap} (t : TabSt w X h) (q : ∀ b o, b ∉ X → h.get? b = some o → h'.get? b = some o) (q16 : ∀ o, h.get? 16 = some o → h'.get? 16 = some o) : TabSt w X h' := by
  obtain ⟨ps, e, r⟩ := t
  refine ⟨ps, q16 _ e, r.imp id fun ⟨c, e, n, r⟩ => ⟨c, e, n, ?_⟩⟩
  obtain ⟨c₂, oc, vs, t, e2, hoc, hd, hv⟩ := r
  cases e2
  exact ⟨c, oc, vs, t, rfl, q _ _ n hoc, hd, hv⟩
theorem TabSt.less {w : World} {X Y : List Addr} {h : Heap} (t : TabSt w X h) (q : ∀ a ∈ Y, a ∈ X) : TabSt w Y h :=
  let ⟨ps, e, r⟩ := t; ⟨ps, e, r.imp id fun ⟨c, e, n, r⟩ => ⟨c, e, fun m => n (q _ m), r⟩⟩
/-- X grows by what was not there -/
theorem TabSt.more {w : World} {X Y : List Addr} {h : Heap} (t : TabSt w X h) (q : ∀ a ∈ Y, a ∈ X ∨ h.get? a = none) : TabSt w Y h := by
  obtain ⟨ps, e, r⟩ := t
  refine ⟨ps, e, r.imp id fun ⟨c, e, n, r⟩ => ⟨c, e, fun m => ?_, r⟩⟩
  rcases q _ m with m | z
  · exact n m
  · obtain ⟨c₂, oc, vs, t, e2, hoc, hd, hv⟩ := r
    cases e2; rw [z] at hoc; cases hoc
theorem make_any {X : List Addr} {M : Model} {A : Around} {E : Value → Shared → Prop} {s : Shared} {name qual : Str} {params : Arguments} {body : List Stmt} {scope : Scope} {env : Env} {c P : Addr} {pos : Pos} {firstLine : Nat} {mg : Str → Option Value} {clos : List (Str × Addr)} {Q : Value → Shared → Prop}
    (hcl : closureFor scope env = pure clos) (hge0 : env.globals = mainGlobals) (hg : s.heap.Ns mainGlobals mg) (hcode : env.code = .ref c) (C : CodeHd s.heap c P)
    (tb : ∃ ps, s.heap.get? P = some (tabObj ps) ∧ (ps = #[] ∨ ∃ c', ps = #[rawInt pos.line, rawInt pos.col, .ref c'] ∧ c' ∉ X ∧ s.heap.CodeRec (.ref c') qual)) (lv : Live X s.heap) (hgP : mainGlobals ≠ P) (hb : s.heap.BuiltinsAt mg P)
    (h : ∀ c' ctv doc h' tk, Heap.ExtBut P s.heap h' → h'.get? P = some (tabObj #[rawInt pos.line, rawInt pos.col, .ref c']) → c' ∉ X → h'.CodeRec (.ref c') qual →
      Q (.ref h'.objs.size) { s with heap := h'.push (fnMade name qual params body scope clos doc ((mg "__name__").getD .none) c' ctv), toks := tk }) :
    wpAny M A (makeFunction name qual params (.stmts body) scope env [] [] [] pos firstLine) Q E s := by
  obtain ⟨ps, hP, rfl | ⟨c', rfl, hn, hr⟩⟩ := tb
  · refine makeFunction_K hcl hge0 hg hcode C hP trivial rfl hgP hb fun c' ctv doc h' tk hx hge _ hrec htb => h c' ctv doc h' tk hx ?_ (fun m => ?_) hrec
    · simpa using htb
    · obtain ⟨o, e⟩ := lv _ m
      rw [Heap.get?_none_of_le hge] at e; cases e
  · refine makeFunction_hit hcl hge0 hg hcode C hP ?_ (cv := .ref c') ?_ hb fun ctv doc h' tk hk _ => h c' ctv doc h' tk (fun b o _ e => hk b o e) (hk _ _ hP) hn (hr.keeps hk)
    · simp [TriplesOk, rawInt]
    · simp [codeAmong, rawInt]
theorem Sta.not_own {Xc X : List Addr} {σ : Str → Option T} {μ : Mu} {h₀ : Heap} {s₀ s : Shared} {env : Env} (S : Sta Xc X env σ μ h₀ s₀ s) {b : Addr} {o : Obj} (e : s.heap.get? b = some o) (h1 : ∀ es n, o.data ≠ .dict es n) (h2 : ∀ v, o.data ≠ .cell v) : b ∉ own env [] := fun m => by
  unfold own at m
  rcases List.mem_cons.mp m with z | m
  · obtain ⟨mm, o', es, ep, e', hd, _⟩ := S.frame
    rw [z, e'] at e; cases e; exact h1 _ _ hd
  · simp only [List.map_nil, List.append_nil] at m
    obtain ⟨p, hp, rfl⟩ := List.mem_map.mp m
    obtain ⟨v, o', e', hd⟩ := S.cells p hp
    rw [e'] at e; cases e; exact h2 _ hd
theorem Sta.fresh_own {Xc X : List Addr} {σ : Str → Option T} {μ : Mu} {h₀ : Heap} {s₀ s : Shared} {env : Env} (S : Sta Xc X env σ μ h₀ s₀ s) {b : Addr} (e : s.heap.get? b = none) : b ∉ own env [] := fun m => by
  obtain ⟨o, e'⟩ := S.live _ (S.sub _ (own_nil m))
  rw [e] at e'; cases e'
theorem nat_reps {X : List Addr} {h : Heap} {vs : List Value} {l : List Nat} (hi : IntsAre vs (l.map fun (m : Nat) => (m : Int))) : Reps X h vs (natT l) := by
  have := ints_reps (X := X) (h := h) hi
  rw [List.map_map] at this; exact this
theorem bits7 : ∀ a : Nat, a < 128 → 64 ≤ a → Builtin.Int.intBits (a : Int) = 7 := by decide +kernel
noncomputable def cntOf (bits : Nat) : Nat := (7 + bits - 1) / bits
theorem gl_builtins {K : Frag} {h h' : Heap} {P : Addr} {ps : Array Value} (G : Gl K h) (q : Sub h h') (hP : h'.get? P = some (tabObj ps)) (hgP : mainGlobals ≠ P) : ∃ mg, h'.Ns mainGlobals mg ∧ h'.BuiltinsAt mg P := by
  obtain ⟨p₀, loose, mean, mg, mb, Tp⟩ := G.2
  obtain ⟨bm, ob, b1, b2, b3, b4, b5, b6⟩ := Tp.bmain
  refine ⟨mg, Tp.g.keeps q, bm, ob, b1, b2, fun z => ?_, fun z => ?_, q _ _ b3, b4, b5, b6⟩
  · obtain ⟨o, es, ep, e, hd, _⟩ := Tp.g
    rw [z, e] at b3; cases b3; rw [hd] at b6; cases b6
  · have := q _ _ b3
    rw [z, hP] at this; cases this; cases b4
theorem code_apart {Xc X : List Addr} {σ : Str → Option T} {μ : Mu} {h₀ h' : Heap} {s₀ s : Shared} {env : Env} (S : Sta Xc X env σ μ h₀ s₀ s) {c : Addr} {q : Str} (r : s.heap.CodeRec (.ref c) q) (hap : ∀ b o, b ∉ own env [] → s.heap.get? b = some o → h'.get? b = some o) : h'.CodeRec (.ref c) q := by
  obtain ⟨c₂, oc, cvs, ct, ec, hoc, hcd, hcv⟩ := r
  cases ec
  exact ⟨c, oc, cvs, ct, rfl, hap _ _ (S.not_own hoc (fun _ _ z => by rw [hcd] at z; cases z) (fun _ z => by rw [hcd] at z; cases z)) hoc, hcd, hcv⟩
theorem var_cell {h : Heap} {x : Str} {v : Value} {c : Addr} {env : Env} (p : Var env h x v) (k : env.kindOf x = some .cell) (l : env.cells.lookup x = some c) : h.IsCell c (some v) := by
  rcases p with ⟨k', _⟩ | ⟨_, c₂, l₂, hc⟩
  · rw [k] at k'; cases k'
  · rw [l] at l₂; cases l₂; exact hc
theorem digits_c (w : World) {A : Around} {X : List Addr} {s : Shared} {E : Value → Shared → Prop} {vs : List Value} (hh : A.handled = none) (hdp : A.depth + 10 < recursionLimit) {g : Heap} (G : Gl (KK w) g) (C : CodeHd g 20 16) (q : Sub g s.heap) (g16 : g.get? 16 = none) (tb : TabSt w X s.heap) (lv : Live X s.heap) (h16 : 16 ∈ X) {a bits : Nat} (hb : bits = 2 ∨ bits = 3) (ha : 64 ≤ a) (ha2 : a < 128)
    (r : Reps X s.heap vs [.int a, .int bits]) :
    wpAny (model pr w) A (call (.ref 21) vs) (fun v s' => Rep X s'.heap v (.list (natT (dgs bits 3 (cntOf bits) a))) ∧ TabSt w X s'.heap ∧ (∃ h' tk, s' = { s with heap := h', toks := tk }) ∧ ∀ b o, b ≠ 16 → s.heap.get? b = some o → s'.heap.get? b = some o) E s := by
  obtain ⟨v1, v2, rfl, r1, r2⟩ := reps2 r
  refine enter (K := KK w) (f := 21) (G.mono q) lv rfl rfl (by lia) rfl rfl (by decide) rfl rfl rfl fun L s₁ G₁ up var S => ?_
  have S₁ := (S.add (var "a" v1 (.inl ⟨rfl, rfl⟩)) (up _ _ r1)).add (var "n" v2 (.inr ⟨rfl, rfl, rfl⟩)) (up _ _ r2)
  have hb7 := bits7 a ha2 ha
  have hcnt : ((Builtin.Int.intBits (a : Int) : Int) + (bits : Int) - 1) / (bits : Int) = ((cntOf bits : Nat) : Int) := by
    rw [hb7]; rcases hb with rfl | rfl <;> decide
  have hc1 : 1 ≤ cntOf bits := by rcases hb with rfl | rfl <;> decide
  have hc2 : cntOf bits ≤ 4 := by rcases hb with rfl | rfl <;> decide
  have hc3 : bits * cntOf bits ≤ 16 := by rcases hb with rfl | rfl <;> decide
  refine S₁.assignNew (EvNew.mul (k := cntOf bits) (t := [.int 0]) (Evs.cons Ev.int Evs.nil rfl) (Ev.eq (Ev.fdiv (Ev.sub (Ev.add (Ev.bitLen (S₁.nameF rfl rfl rfl) rfl rfl) (S₁.nameF rfl rfl rfl)) Ev.int) (S₁.nameF rfl rfl rfl) (by lia) (by lia)) (congrArg T.int hcnt)) ?_ (by decide) (by lia)) rfl (.inr ⟨rfl, _, rfl⟩) (fun p hp => by cases hp) rfl fun d s₂ S₂ => ?_
  · intro X h h' vs r Y
    cases r with
    | cons r1 r2 => cases r2; cases r1; exact .cons (.int _ _) .nil
  have hz : (List.replicate (cntOf bits) [T.int 0]).flatten = natT (List.replicate (cntOf bits) 0) := by rcases hb with rfl | rfl <;> rfl
  rw [hz] at S₂
  have hfr : s.heap.get? d = none := S₂.off d (by unfold own; simp)
  have n16 : 16 ∉ own _ (("a_digits", d, natT (List.replicate (cntOf bits) 0)) :: ([] : Mu)) := fun m => by
    have e := S₂.off _ m
    obtain ⟨ps, e2, _⟩ := tb
    rw [e2] at e; cases e
  obtain ⟨ps16, h16t, htbl⟩ := tb
  have tb₂ := (TabSt.more ⟨ps16, h16t, htbl⟩ (Y := _) (fun b m => S₂.nw b m)).keeps S₂.keep
  clear htbl
  obtain ⟨mg, hgs, hbs⟩ := gl_builtins (G.mono q) S₂.keep (S₂.keep _ _ h16t) (show mainGlobals ≠ 16 by decide)
  refine wpAny_execs_cons (nestDef_K rfl rfl rfl ?_)
  refine make_any (mg := mg) (qual := "_int2digits.<locals>.inner") rfl rfl hgs rfl ((C.keeps q).keeps S₂.keep) tb₂ S₂.live (show mainGlobals ≠ 16 by decide) hbs fun c' ctv doc h' tk hx htab hnX hrec => ?_
  have S₃ := (S₂.lessBase (g := s.heap.hide 16) (fun b o e => Heap.of_hide e)).touch (h' := h') tk (by first | exact List.mem_cons_of_mem _ (List.mem_append_right _ h16)) n16 (Heap.hide_self ..) (fun b o nb e => hx b o nb e) ⟨_, htab⟩
  have tb₃ : TabSt w _ h' := ⟨_, htab, .inr ⟨c', rfl, hnX, hrec⟩⟩
  clear hx hnX hgs hbs tb₂ S₂ C
  refine Sta.storeRaw (S₃.grow (Kp.heap0 (Sub.push h' _))) rfl (.inr ⟨rfl, _, rfl⟩) (mu_ne1 (by decide)) fun s₅ S₅ hv hap => ?_
  have tb₅ := TabSt.but (h' := s₅.heap) (tb₃.keeps (Sub.push h' _)) (fun b o nb e => hap b o (fun m => nb (S₃.sub _ (own_nil m))) e) (fun o e => hap _ _ (Sta.not_own S₃ htab (fun _ _ z => by cases z) (fun _ z => by cases z)) e)
  have hrec₅ := code_apart S₃ hrec (h' := s₅.heap) (fun b o n e => hap b o n (Heap.get?_push_of_some _ e))
  have hf := hap _ _ (Sta.fresh_own S₃ (Heap.get?_none_of_le (Nat.le_refl _))) (Heap.get?_push_size _ rfl)
  clear hap tb₃ hrec S₃ htab
  refine S₅.ifT (Tr.eq (Tr.of (S₅.name rfl rfl rfl) trivial (fun _ => rfl)) (by simp only [truth]; rw [bne_iff_ne]; lia)) S₅.live fun s₆ kp => ?_
  have S₆ := S₅.grow kp
  have hv₆ := hv.mono (Kp.sub kp)
  have hf₆ := Kp.sub kp _ _ hf
  have hrec₆ := hrec₅.keeps (Kp.sub kp)
  have tb₆ := tb₅.keeps (Kp.sub kp)
  clear S₅ hv hf hrec₅ tb₅ kp
  refine wpAny_execs_cons (wpAny_Expr_any (wpAny_Call_NameR ((hv₆.loads rfl rfl _ _ _ _ _ _ (Sub.refl _) ?_)) ) rfl rfl)
  have G₆ : Gl (KK w) s₆.heap := G.mono fun b o e => S₆.keep _ _ (by rw [Heap.hide_ne _ (fun z => by rw [z, g16] at e; cases e)]; exact q b o e)
  have hlen : T.int ((natT (List.replicate (cntOf bits) 0)).length : Int) = T.int ((0 + cntOf bits : Nat) : Int) := by simp [natT]
  refine PyProof.Rows.callWith_def rfl (wpAny_mono ((Evs.cons (S₆.name rfl rfl rfl) (Evs.cons Ev.int (Evs.cons (Ev.eq (Ev.plain (Ev.callB (id := "len") (G₆.loadsB rfl (by decide +kernel) (by decide) rfl rfl rfl rfl rfl)
    (Evs.cons (S₆.mutF (List.mem_singleton_self _) rfl rfl) Evs.nil rfl) rfl (fun _ => rfl) fun s E vs _ _ r => c_len (by simp [natT]; lia) s E vs r) rfl) hlen) Evs.nil rfl) rfl) rfl) _ s₆ _ (Sub.refl _) S₆.live) (fun vs₁ s₇ h₇ => ⟨Kp.sub h₇.2 _ _ hf₆, ?_⟩) fun _ _ e => e) rfl
  obtain ⟨r₁, kp₇⟩ := h₇
  have S₇ := S₆.grow kp₇
  have kq := Kp.sub kp₇
  clear S₆ hlen kp₇
  obtain ⟨u1, u2, u3, rfl, ru1, ru2, ru3⟩ := reps3 r₁
  obtain ⟨_, rfl⟩ := rep_int ru1; obtain ⟨_, rfl⟩ := rep_int ru2; obtain ⟨_, rfl⟩ := rep_int ru3
  obtain ⟨vd, vs₂, hpd, hrd⟩ := S₇.muts _ (List.mem_singleton_self _)
  obtain ⟨vn, hvn, rvn⟩ := S₇.vars "n" (.int bits) rfl
  obtain ⟨_, rfl⟩ := rep_int rvn
  refine wpAny_mono (inner_c w rfl (bits := bits) hb 3 (cntOf bits) a 0 (List.replicate (cntOf bits) 0) _ s₇ _ _ _ _ vs₂ hc1 (by lia) hc3 ha2 (by simp) (by simp; lia) (by rw [depth_deeper]; lia)
    ⟨(G₆.mono kq).limit, kq _ _ hf₆, hrec₆.keeps kq, var_cell hvn rfl rfl, var_cell vd rfl rfl, var_cell (hv₆.mono kq) rfl rfl⟩ hpd ?_) (fun v s₈ h₈ => ?_) fun _ _ e => e
  · have := Reps.ints (ns := (List.replicate (cntOf bits) 0).map fun (m : Nat) => (m : Int)) (by simpa [natT] using hrd)
    exact this
  obtain ⟨h₈', tk₈, vs₃, rfl, hk₈, hp₃, hi₃⟩ := h₈
  have tb₈ := TabSt.but (h' := h₈') (tb₆.keeps kq) (fun b o nb e => hk₈ b o (fun z => nb (z ▸ List.mem_cons_self ..)) e)
    (fun o e => hk₈ _ _ (fun z => by have z' : 16 = d := z; rw [← z', h16t] at hfr; cases hfr) e)
  have hd9 : (List.replicate (cntOf bits) 0).take 0 ++ dgs bits 3 (cntOf bits) a ++ (List.replicate (cntOf bits) 0).drop (0 + cntOf bits) = dgs bits 3 (cntOf bits) a := by
    rw [List.drop_of_length_le (by simp)]; simp
  rw [hd9] at hi₃
  have S₈ := Sta.setMutE (l₁ := []) (l₂ := []) tk₈ S₇ (ts' := natT (dgs bits 3 (cntOf bits) a)) hk₈ hp₃ (nat_reps hi₃)
  clear S₇ hk₈ hp₃ hi₃ hpd hrd vd hvn hv₆ hf₆ hrec₆ tb₆ G₆
  refine wpAny_execs_nil ?_
  obtain ⟨hv₉, vs₉, hp₉, hr₉⟩ := S₈.muts _ (List.mem_singleton_self _)
  refine wpAny_execs_cons (wpAny_Return_some ((hv₉.loads rfl rfl) _ _ _ _ _ _ (Sub.refl _) ?_))
  refine ⟨_, rfl, .list (fun z => ?_) hp₉ (hr₉.weaken fun b z => .inl (S₈.cal b z)), tb₈.less S₈.cal, S₈.sh, fun b o nb e => S₈.keep b o (by rw [Heap.hide_ne _ nb]; exact e)⟩
  obtain ⟨o, e⟩ := lv _ z
  exact nomatch hfr.symm.trans e
end Mine
end

-- A8
section
open PySem PySem.W PyProof.Rows PySem.Calls
set_option linter.unusedVariables false
set_option maxRecDepth 100000
set_option maxHeartbeats 4000000
namespace Mine
section
variable {prog : Program} {w : World} {A : Around} {env : Env} {Xc X : List Addr} {σ : Str → Option T} {μ : Mu} {h₀ h : Heap} {s₀ s s' : Shared} {x : Str} {px pos : Pos} {rest : List Stmt} {Q : Flow → Shared → Prop} {E : Value → Shared → Prop}
theorem Sta.not_own' (S : Sta Xc X env σ μ h₀ s₀ s) {b : Addr} {ps : Array Value} (e : s.heap.get? b = some (tabObj ps)) : b ∉ own env μ := fun m => by
  unfold own at m
  rcases List.mem_cons.mp m with z | m
  · obtain ⟨mm, o', es, ep, e', hd, _⟩ := S.frame
    rw [z, e'] at e; cases e; cases hd
  · rcases List.mem_append.mp m with m | m
    · obtain ⟨p, hp, rfl⟩ := List.mem_map.mp m
      obtain ⟨v, o', e', hd⟩ := S.cells p hp
      rw [e'] at e; cases e; cases hd
    · obtain ⟨p, hp, rfl⟩ := List.mem_map.mp m
      obtain ⟨_, vs, ⟨n, e'⟩, _⟩ := S.muts p hp
      rw [e'] at e; cases e
theorem src_val {v : Value} {ts : List T} {Q : Value → Shared → Prop} (hh : A.handled = none) (r : Rep X s.heap v (.list ts)) (hsz : ts.length ≤ 100000) (lv : Live X s.heap) (k : ∀ it s₂, SrcAt prog w A X s s₂ it ts → Q it s₂) :
    wpAny (model prog w) A (pyIter v) Q E s := by
  obtain ⟨a, vs, rfl, n, il, rr⟩ := rep_list r
  replace r := rr
  have hl := r.length
  have hlt : a < s.heap.objs.size := by obtain ⟨_, e⟩ := il; exact Heap.lt_size e
  refine wpAny_pyIter_list il.isList (k _ _ ?_)
  have W := Walks.list (prog := prog) (w := w) hh s.heap.objs.size a (Nat.ne_of_lt hlt) vs.toArray
  rw [show vs.toArray.size = ts.length by simp [hl]] at W
  refine ⟨s.heap, s.heap.objs.size, _, _, _, _, rfl, W, Nat.le_trans hsz (by decide), ⟨⟨_, Heap.get?_push_size _ rfl, rfl, rfl⟩, il.isList.push _⟩, ?_, ?_, Kp.heap0 (Sub.push _ _), Sub.refl _, Sub.push _ _, ?_, ?_, ?_, rfl⟩
  · intro b hb
    show b < (s.heap.push _).objs.size
    rw [Heap.size_push]
    rcases List.mem_cons.mp hb with rfl | hb
    · exact Nat.lt_succ_self _
    · rw [List.mem_singleton.mp hb]; exact Nat.lt_succ_of_lt hlt
  · rintro i g ⟨⟨o, ho, _⟩, ⟨o', ho', _⟩⟩ b hb
    rcases List.mem_cons.mp hb with rfl | hb
    · exact ⟨o, ho⟩
    · rw [List.mem_singleton.mp hb]; exact ⟨o', ho'⟩
  · intro b hb
    rw [List.mem_singleton.mp hb]
    exact Heap.get?_none_of_le (Nat.le_refl _)
  · intro b hb
    rcases List.mem_cons.mp hb with rfl | hb
    · exact Live.fresh lv
    · rw [List.mem_singleton.mp hb]; exact n
  · intro i v hv
    have hv' : vs[i]? = some v := by simpa using hv
    have hi : i < ts.length := by rw [← hl]; exact (List.getElem?_eq_some_iff.mp hv').1
    obtain ⟨v', e', rv⟩ := r.get (i := i) (t := ts[i]) (by simp [hi])
    rw [hv'] at e'; cases e'
    exact ⟨ts[i], by simp [hi], rv⟩
/-- a for over a list whose making and whose turns may change the code table -/
theorem Sta.forInT (S : Sta Xc X env σ μ h₀ s₀ s) (hh : A.handled = none) (h016 : h₀.get? 16 = none) (h16 : 16 ∈ X) {iter : Expr} {body : List Stmt} {ts : List T} (hsz : ts.length ≤ 100000) (hk : env.scope.kind = .function) (hx : Storable env x)
    (hfs : ∀ x, foldedSetIterable iter env x = pure x)
    (hev : ∀ E, wpAny (model prog w) A (eval iter env) (fun v s₁ => Rep X s₁.heap v (.list ts) ∧ TabSt w X s₁.heap ∧ Sta Xc X env σ μ h₀ s₀ s₁) E s)
    (J : Nat → (Str → Option T) → Mu → Prop) (h0 : J 0 σ μ) (hn : ∀ i σ' μ', J i σ' μ' → ∀ p ∈ μ', p.1 ≠ x)
    (turn : ∀ (i : Nat) (t : T) (σ₁ : Str → Option T) (μ₁ : Mu) (X₁ : List Addr) (g : Heap) (s₁ : Shared) (E : Value → Shared → Prop), ts[i]? = some t → J i σ₁ μ₁ → Sub h₀ g → g.get? 16 = none → 16 ∈ X₁ → TabSt w X₁ s₁.heap → Sta X₁ X₁ env (upd σ₁ x t) μ₁ g s₁ s₁ →
      wpAny (model prog w) A (execs body env) (fun f s₂ => f = .next ∧ ∃ σ₂ μ₂ X₂, J (i + 1) σ₂ μ₂ ∧ TabSt w X₂ s₂.heap ∧ Sta X₁ X₂ env σ₂ μ₂ g s₁ s₂) E s₁)
    (done : ∀ σ' μ' X' s', J ts.length σ' μ' → TabSt w X' s'.heap → Sta Xc X' env σ' μ' h₀ s₀ s' → wpAny (model prog w) A (execs rest env) Q E s') :
    wpAny (model prog w) A (execs (.For (.Name x px) iter body [] pos :: rest) env) Q E s := by
  refine wpAny_execs_cons (wpAny_For (wpAny_mono (hev E) (fun v s h₁ => ?_) fun _ _ e => e) hfs)
  obtain ⟨rv₀, tb, S⟩ := h₁
  refine src_val hh rv₀ hsz S.live fun it s₂ hat => ?_
  obtain ⟨h₁, I, fp, wr, P, St, rfl, W, hsz', hst, hfp, hlive, kp, sb₁, sb₂, hwr, hX, hP, rfl⟩ := hat
  have hI1 : h₁.get? I = none := hwr I (List.mem_singleton_self _)
  clear hwr hsz' hfp hfs hev rv₀
  have hI : s.heap.get? I = none := by
    cases z : s.heap.get? I with
    | none => rfl
    | some o => exact nomatch hI1.symm.trans (sb₁ I o z)
  have hIfp : I ∈ fp := W.sub I (List.mem_singleton_self _)
  have hI0 : h₀.get? I = none := by
    cases z : h₀.get? I with
    | none => rfl
    | some o => exact nomatch hI.symm.trans (S.keep I o z)
  have hIc : I ∉ Xc := fun m => let ⟨o, e⟩ := S.live I (S.cal I m); nomatch hI.symm.trans e
  have S₂ : Sta Xc (I :: X) env σ μ h₀ s₀ s₂ := S.more hI kp (hlive 0 _ hst I hIfp)
  have hI16 : 16 ≠ I := fun z => by
    obtain ⟨ps, e, _⟩ := tb
    rw [z, hI] at e; cases e
  refine codeAny_forLoop (ForInv ts.length St J [I] fp X h₁ Xc env h₀ s₀ (TabSt w)) ?_ (ts.length + 1)
    ⟨0, σ, μ, I :: X, rfl, Nat.zero_le _, hst, h0, fun c m => List.mem_cons.mpr (.inl (List.mem_singleton.mp m)), (fun b hb m => hX b hb (S.sub b m)), (fun a m => List.mem_cons_of_mem _ m),
      (fun a m => (List.mem_cons.mp m).elim (fun e => .inr (e ▸ hI1)) .inl), (fun b o _ e => sb₂ b o e), (tb.more (fun a m => (List.mem_cons.mp m).elim (fun e => .inr (e ▸ hI)) .inl)).keeps (Kp.sub kp), S₂⟩
  clear S₂ hst sb₁ sb₂ kp hI S tb
  rintro n s' ⟨i, σ', μ', X', rfl, hi, hst', hJ, hIX, hfo, hXX, hXn, hap, tb', S'⟩
  have hIX' : I ∈ X' := hIX I (List.mem_singleton_self _)
  have hIo : I ∉ own env μ' := hfo I hIfp
  by_cases hlt : i < ts.length
  · refine W.item i s' _ _ hlt hst' fun v h' tk hPv hst₁ hk₁ => ?_
    obtain ⟨t, ht, rv⟩ := hP i v hPv
    have hk₂ : ∀ b o, b ≠ I → s'.heap.get? b = some o → h'.get? b = some o := fun b o nb e => hk₁ b o (fun m => nb (List.mem_singleton.mp m)) e
    have S₃ : Sta Xc X' env σ' μ' h₀ s₀ { s' with heap := h', toks := tk } := S'.touch tk hIX' hIo hI0 hk₂ (hlive _ _ hst₁ I hIfp)
    have hap' : ∀ b o, b ∉ X' → h₁.get? b = some o → h'.get? b = some o := fun b o nb e => hk₂ b o (fun q => nb (q ▸ hIX')) (hap b o nb e)
    have rv' : Rep X' h' v t := (rv.weaken hXn).apart hap'
    have tb₃ := TabSt.but (h' := h') tb' (fun b o nb e => hk₂ b o (fun q => nb (q ▸ hIX')) e) (fun o e => hk₂ _ o hI16 e)
    clear hk₂ tb'
    show wpAny (model prog w) A (PySem.assign (Expr.Name x px) env v) _ _ _
    refine wpAny_assign_Name (S₃.storeRaw hk hx (hn i σ' μ' hJ) fun s₄ S₄ hv hap₄ => ?_)
    have own0 : ∀ b, b ∈ own env [] → b ∈ own env μ' := fun b m => own_nil m
    have hap₅ : ∀ b o, b ∉ X' → h'.get? b = some o → s₄.heap.get? b = some o := fun b o nb e => hap₄ b o (fun m => nb (S₃.sub b (own0 b m))) e
    have S₅ := S₄.put hv (rv'.apart hap₅)
    have hst₄ : St (i + 1) s₄.heap := W.frame _ _ _ hst₁ fun b hb o e => hap₄ b o (fun m => hfo b hb (own0 b m)) e
    have tb₄ := TabSt.but (h' := s₄.heap) tb₃ hap₅ (fun o e => hap₄ _ o (fun m => let ⟨ps, z, _⟩ := tb₃; S₃.not_own' z (own_nil m)) e)
    have h16' : 16 ∈ X' := hXX _ h16
    obtain ⟨g₀, q₀', qg', qn', S₆'⟩ := S₅.rebase
    have S₆ := S₆'.lessBase (g := g₀.hide 16) (fun b o e => Heap.of_hide e)
    refine wpAny_mono (turn i t σ' μ' X' (g₀.hide 16) s₄ _ ht hJ (fun b o e => by rw [Heap.hide_ne _ (fun z => by rw [z, h016] at e; cases e)]; exact q₀' b o e) (Heap.hide_self ..) h16' tb₄ S₆) (fun f s₇ h₇ => ?_) fun _ _ e => e
    obtain ⟨rfl, σ₂, μ₂, X₂, hJ₂, tb₇, S₇⟩ := h₇
    exact ForInv.next hlt (hlive _ _ hst₄) (fun h' k => W.frame _ _ _ hst₄ k) hfo hIX hXX hXn (fun b o nb e => hap₅ b o nb (hap' b o nb e)) S₅ (fun b o e => by rw [Heap.hide_ne _ (fun z => by rw [z, h016] at e; cases e)]; exact q₀' b o e)
      (fun b o n1 n2 e => by
        have n16 : b ≠ 16 := fun z => by subst z; exact n2.elim (fun m => hX _ m h16) fun m => m h16'
        rw [Heap.hide_ne _ n16]; exact qn' b o n1 e) hJ₂ tb₇ S₇
  · obtain rfl : i = ts.length := Nat.le_antisymm hi (Nat.le_of_not_lt hlt)
    refine W.done s' _ _ hst' fun h' tk hk₁ => ?_
    have hk₂ : ∀ b o, b ≠ I → s'.heap.get? b = some o → h'.get? b = some o := fun b o nb e => hk₁ b o (fun m => nb (List.mem_singleton.mp m)) e
    have tb₃ := TabSt.but (h' := h') tb' (fun b o nb e => hk₂ b o (fun q => nb (q ▸ hIX')) e) (fun o e => hk₂ _ o hI16 e)
    exact wpAny_execs_nil (done σ' μ' _ _ hJ (tb₃.less fun a m => (List.mem_filter.mp m).1) (S'.lose tk hIX' hIo hIc hI0 hk₂))
end
end Mine
end

-- A9
section
open PySem PySem.W PyProof.Rows PySem.Calls
set_option linter.unusedVariables false
set_option maxRecDepth 100000
set_option maxHeartbeats 4000000
namespace Mine
section
variable {prog : Program} {w : World} {A : Around} {env : Env} {Xc X X₂ : List Addr} {σ : Str → Option T} {μ : Mu} {g h₀ h : Heap} {s₀ s s' : Shared} {x : Str} {px pos : Pos} {rest : List Stmt} {E : Value → Shared → Prop}
theorem slice_raw {value : Expr} {lo hi st : Option Expr} {p pos : Pos} {l : List T} {i j k : Option Int} {F : Shared → Prop} (hF : ∀ s s', F s → Keeps s s' → F s')
    (ha : wpAny (model prog w) A (eval value env) (fun u s₁ => Rep X s₁.heap u (.list l) ∧ Live X s₁.heap ∧ EvP prog w A env X s₁.heap lo i ∧ EvP prog w A env X s₁.heap hi j ∧ EvP prog w A env X s₁.heap st k ∧ F s₁) E s)
    (hk : k ≠ some 0) (hsz : l.length ≤ 100000) : wpAny (model prog w) A (eval (.Subscript value (.Slice lo hi st p) pos) env) (fun v s' => Rep X s'.heap v (.list (sliceT l i j k)) ∧ F s') E s := by
  refine Subscript_ (wpAny_mono ha (fun u s₁ h₁ => ?_) fun _ _ e => e)
  obtain ⟨hu₁, l₁, hlo, hhi, hst, f₁⟩ := h₁
  have lv := l₁
  have q₁ := Sub.refl s₁.heap
  refine wpAny_Slice (wpAny_mono (hlo.ev s₁ E q₁ l₁) (fun v₁ s₂ h₂ => ?_) fun _ _ e => e)
  have q₂ := q₁.trans (Kp.sub h₂.2)
  have l₂ := l₁.mono (Kp.sub h₂.2)
  refine wpAny_mono (hhi.ev s₂ E q₂ l₂) (fun v₂ s₃ h₃ => ?_) fun _ _ e => e
  have q₃ := q₂.trans (Kp.sub h₃.2)
  have l₃ := l₂.mono (Kp.sub h₃.2)
  refine wpAny_mono (hst.ev s₃ E q₃ l₃) (fun v₃ s₄ h₄ => ?_) fun _ _ e => e
  have q₄ := q₃.trans (Kp.sub h₄.2)
  have l₄ := l₃.mono (Kp.sub h₄.2)
  have k₄ := Kp.trans h₂.2 (Kp.trans h₃.2 h₄.2)
  have hu := hu₁.mono (Sub.trans (Kp.sub h₂.2) (Sub.trans (Kp.sub h₃.2) (Kp.sub h₄.2)))
  obtain ⟨a, vs, rfl, n, il, r⟩ := rep_list hu
  obtain ⟨ops, hs⟩ := subscripted_false (.Slice lo hi st p) (.ref a) (.ref s₄.heap.objs.size)
  have il' := il.isList.push { cls := .type "slice", data := .fields #[v₁, v₂, v₃] }
  refine tail_any il'.typeIs list_getitem_lookup (wpAny_getItem_list_slice il' (Heap.IsSliceOf.new ..) h₂.1 h₃.1 h₄.1 hk ?_ (by have := r.length; simp only [List.size_toArray]; rw [this]; exact Nat.le_trans hsz (by decide))) hs
  refine ⟨?_, ?_⟩
  · have r' := (r.mono (Sub.push s₄.heap { cls := .type "slice", data := .fields #[v₁, v₂, v₃] })).mono (Sub.push _ { cls := .type "list", data := .seq (slicePick vs.toArray i j k) })
    refine .list (vs := (slicePick vs.toArray i j k).toList) ?_ ?_ ?_
    · exact Live.fresh (l₄.mono (Sub.push _ _))
    · exact ⟨0, by rw [Array.toArray_toList]; exact Heap.get?_push_size _ rfl⟩
    · have e1 : (slicePick vs.toArray i j k).toList = (sliceRange (sliceBounds i j k l.length).1 (sliceBounds i j k l.length).2.1 (sliceBounds i j k l.length).2.2).filterMap (vs[·]?) := by
        unfold slicePick
        rw [← r.length]
        simp
      rw [e1]
      exact r'.pick _
  · exact hF _ _ f₁ (Kp.trans k₄ (Kp.heap0 (Sub.trans (Sub.push _ _) (Sub.push _ _))))
theorem Sta.tabRebase (S : Sta Xc X env σ μ h₀ s₀ s) (tb : TabSt w X s.heap) : ∃ g, Sub h₀ g ∧ TabSt w X g ∧ Sub g s.heap ∧ Sta X X env σ μ g s s := by
  obtain ⟨g, a, b, c, S'⟩ := S.rebase
  refine ⟨g, a, ?_, b, S'⟩
  refine tb.but (fun b o nb e => c b o (fun m => nb (S.sub _ m)) e) (fun o e => c _ o (fun m => ?_) e)
  obtain ⟨ps, z, _⟩ := tb
  exact S.not_own' z m
theorem Sta.tabEnd {Xc : List Addr} (S : Sta Xc X₂ env σ μ g s₀ s') (tg : TabSt w Xc g) : TabSt w X₂ s'.heap := (tg.more S.nw).keeps S.keep
end
end Mine
end

-- A10
section
open PySem PySem.W PyProof.Rows PySem.Calls
set_option linter.unusedVariables false
set_option maxRecDepth 100000
set_option maxHeartbeats 4000000
namespace Mine
/-- the low figures of a number -/
noncomputable def lowD (bits n : Nat) : List Nat := (dgs bits 3 (cntOf bits) (64 + n)).take (6 / bits)
noncomputable def codeAt (bits : Nat) (ds : List Nat) : Nat := ds.foldl (fun c d => c * 2 ^ bits + d) 1
noncomputable def signs (bits n i : Nat) : List Nat := (List.range i).map fun j => 19968 + codeAt bits ((lowD bits n).take (j + 1))
noncomputable def wordF (bits n : Nat) : List Nat := signs bits n (6 / bits)
theorem lowD_len (bits n : Nat) (hb : bits = 2 ∨ bits = 3) : (lowD bits n).length = 6 / bits := by
  have hl : (dgs bits 3 (cntOf bits) (64 + n)).length = cntOf bits := dgs_len bits 3 _ _ (by rcases hb with rfl | rfl <;> decide) (by rcases hb with rfl | rfl <;> decide)
  unfold lowD
  rw [List.length_take, hl]
  rcases hb with rfl | rfl <;> decide
theorem code_succ (bits : Nat) (ds : List Nat) (i : Nat) (hi : i < ds.length) : codeAt bits (ds.take (i + 1)) = codeAt bits (ds.take i) * 2 ^ bits + ds.getD i 0 := by
  unfold codeAt
  rw [List.take_succ, getD_get ds i 0 hi, List.foldl_append]; rfl
theorem code_lt : ∀ n : Nat, n < 55 → ∀ i : Nat, i < 4 → codeAt 2 ((lowD 2 n).take i) < 128 ∧ codeAt 3 ((lowD 3 n).take i) < 128 := by decide +kernel
theorem signs_succ (bits n i : Nat) : signs bits n (i + 1) = signs bits n i ++ [19968 + codeAt bits ((lowD bits n).take (i + 1))] := by
  unfold signs; rw [List.range_succ, List.map_append]; rfl
theorem range_pick {α : Type} (l : List α) : ∀ k : Nat, (List.range k).filterMap (l[·]?) = l.take k := by
  intro k
  induction k with
  | zero => rfl
  | succ k ih =>
    rw [List.range_succ, List.filterMap_append, ih, List.take_succ]
    cases h : l[k]? <;> simp [h]
theorem slice_hi {α : Type} (l : List α) (k : Nat) : sliceT l none (some (k : Int)) none = l.take k := by
  unfold sliceT sliceBounds
  simp only [Option.getD_none, show (1 : Int) > 0 by decide, if_true]
  rw [if_neg (by lia)]
  have e : max 0 (min (k : Int) (l.length : Int)) = ((min k l.length : Nat) : Int) := by lia
  rw [e]
  have e2 : sliceRange 0 ((min k l.length : Nat) : Int) 1 = List.range (min k l.length) := by
    unfold sliceRange
    simp only [show (1 : Int) > 0 by decide, if_true]
    have e3 : (if (0 : Int) < ((min k l.length : Nat) : Int) then (((min k l.length : Nat) : Int) - 0 + 1 - 1) / 1 else 0).toNat = min k l.length := by
      split <;> lia
    rw [e3]
    conv => rhs; rw [← List.map_id (List.range (min k l.length))]
    apply List.map_congr_left
    intro a _
    simp
  rw [e2, range_pick, List.take_eq_take_iff]
  lia
theorem slice_low {l : List Nat} {k : Nat} (hk : k ≤ l.length) : sliceT (natT l) none (some (k : Int)) none = natT (l.take k) := by
  rw [slice_hi]; unfold natT; rw [List.map_take]
theorem strOf_app (a : List Nat) (c : Nat) : strOf a ++ ⟨#[c]⟩ = strOf (a ++ [c]) := by
  unfold strOf
  show Str.mk (a.toArray ++ #[c]) = _
  simp

theorem words_c (w : World) {A : Around} {X : List Addr} {s : Shared} {E : Value → Shared → Prop} {vs : List Value} (hh : A.handled = none) (hdp : A.depth + 20 < recursionLimit) {g : Heap} (G : Gl (KK w) g) (C : CodeHd g 20 16) (q : Sub g s.heap) (g16 : g.get? 16 = none) (tb : TabSt w X s.heap) (lv : Live X s.heap) (h16 : 16 ∈ X) {nums : List Nat} {bits : Nat} (hb : bits = 2 ∨ bits = 3) (hn : ∀ n ∈ nums, 7 ≤ n ∧ n < 55) (hl : nums.length ≤ 100)
    (r : Reps X s.heap vs [.list (natT nums), .int bits]) :
    wpAny (model pr w) A (call (.ref 52) vs) (fun v s' => Rep X s'.heap v (.list (nums.map fun n => .str (strOf (wordF bits n)))) ∧ TabSt w X s'.heap ∧ (∃ h' tk, s' = { s with heap := h', toks := tk }) ∧ ∀ b o, b ≠ 16 → s.heap.get? b = some o → s'.heap.get? b = some o) E s := by
  obtain ⟨v1, v2, rfl, r1, r2⟩ := reps2 r
  refine enter (K := KK w) (f := 52) (G.mono q) lv rfl rfl (by lia) rfl rfl (by decide) rfl rfl rfl fun L s₁ G₁ up var S => ?_
  have S₁ := (S.add (var "numbers" v1 (.inl ⟨rfl, rfl⟩)) (up _ _ r1)).add (var "bits" v2 (.inl ⟨rfl, rfl⟩)) (up _ _ r2)
  refine S₁.newList (Evs.nil) (by decide) rfl (.inl rfl) (fun p hp => by cases hp) rfl fun d s₂ S₂ => ?_
  have h16t : ∃ ps, s.heap.get? 16 = some (tabObj ps) := let ⟨ps, e, _⟩ := tb; ⟨ps, e⟩
  have hfr : s.heap.get? d = none := S₂.off d (by unfold own; simp)
  have tb₂ := (tb.more (Y := _) (fun b m => S₂.nw b m)).keeps S₂.keep
  have S₃ := S₂.lessBase (g := s.heap.hide 16) (fun b o e => Heap.of_hide e)
  have Gh : Gl (KK w) (s.heap.hide 16) := G.mono fun b o e => by rw [Heap.hide_ne _ (fun z => by rw [z, g16] at e; cases e)]; exact q b o e
  have Ch : CodeHd (s.heap.hide 16) 20 16 := C.keeps fun b o e => by rw [Heap.hide_ne _ (fun z => by rw [z, g16] at e; cases e)]; exact q b o e
  refine S₃.forInT (A := A.deeper _) hh (Heap.hide_self ..) (List.mem_cons_of_mem _ (List.mem_append_right _ h16)) (show (natT nums).length ≤ 100000 by simp [natT]; lia) rfl (.inl rfl) ?_ ?_
    (fun i σ μ => σ "bits" = some (.int bits) ∧ ∃ a, μ = [(("words" : Str), a, (nums.take i).map fun n => .str (strOf (wordF bits n)))]) ⟨rfl, d, rfl⟩ ?_ ?_ ?_
  · exact fun _ => rfl
  · intro E
    exact wpAny_mono ((S₃.name (x := "numbers") rfl rfl rfl) s₂ E (Sub.refl _) S₃.live) (fun v s' h' => ⟨h'.1, tb₂.keeps (Kp.sub h'.2), S₃.grow h'.2⟩) fun _ _ e => e
  · rintro i σ μ ⟨_, a, rfl⟩; exact mu_ne1 (by decide)
  · rintro i t σ₁ μ₁ X₁ g₁ s₃ E₃ hti ⟨q1, a, rfl⟩ hg₁ g16₁ h16₁ tb₃ S₄
    have hi : i < nums.length := by
      have := (List.getElem?_eq_some_iff.mp hti).1
      simpa [natT] using this
    obtain ⟨n, hni, rfl⟩ : ∃ n : Nat, nums[i]? = some n ∧ t = .int n := by
      simp only [natT, List.getElem?_map, Option.map_eq_some_iff] at hti
      obtain ⟨n, e, rfl⟩ := hti
      exact ⟨n, e, rfl⟩
    have hn' := hn n (List.mem_of_getElem? hni)
    obtain ⟨g₂, hg₂, tg₂, sg₂, S₅⟩ := S₄.tabRebase tb₃
    refine S₅.assign (t := .int 1) Ev.int rfl (.inl rfl) (mu_ne1 (by decide)) rfl fun s₄ S₆ => ?_
    refine S₆.assign (t := .str (strOf [])) Ev.str rfl (.inl rfl) (mu_ne1 (by decide)) rfl fun s₅ S₇ => ?_
    have tb₅ := S₇.tabEnd tg₂
    have S₈ := S₇.back hg₂ S₄.cal S₄.nw S₄.sh
    have h6 : 6 / bits ≤ 3 := by rcases hb with rfl | rfl <;> decide
    have hll := lowD_len bits n hb
    refine S₈.forInT (A := A.deeper _) hh g16₁ h16₁ (show (natT (lowD bits n)).length ≤ 100000 by simp [natT, hll]; lia) rfl (.inl rfl) (fun _ => rfl) ?_
      (fun k σ μ => σ "bits" = some (.int bits) ∧ σ "code" = some (.int (codeAt bits ((lowD bits n).take k) : Nat)) ∧ σ "word" = some (.str (strOf (signs bits n k))) ∧ μ = [(("words" : Str), a, (nums.take i).map fun n => .str (strOf (wordF bits n)))]) ⟨q1, rfl, rfl, rfl⟩ ?_ ?_ ?_
    · intro E'
      have e6 : ((6 : Int) / (bits : Int)) = ((6 / bits : Nat) : Int) := by rcases hb with rfl | rfl <;> decide
      have hsl : sliceT (natT (dgs bits 3 (cntOf bits) (64 + n))) none (some ((6 : Int) / (bits : Int))) none = natT (lowD bits n) := by
        rw [e6]; exact slice_low (by rw [dgs_len bits 3 _ _ (by rcases hb with rfl | rfl <;> decide) (by rcases hb with rfl | rfl <;> decide)]; rcases hb with rfl | rfl <;> decide)
      have Sg : Sub g s₅.heap := fun b o e => S₈.keep _ _ (hg₁ _ _ (by rw [Heap.hide_ne _ (fun z => by rw [z, g16] at e; cases e)]; exact q b o e))
      refine wpAny_mono (slice_raw (F := fun s' => TabSt w X₁ s'.heap ∧ Sta X₁ X₁ _ _ _ g₁ s₃ s') (fun s s' f kp => ⟨f.1.keeps (Kp.sub kp), f.2.grow kp⟩) ?_ (by decide) (l := natT (dgs bits 3 (cntOf bits) (64 + n))) (i := none) (j := some ((6 : Int) / (bits : Int))) (k := none) ?_) (fun v s' h' => ⟨hsl ▸ h'.1, h'.2.1, h'.2.2⟩) fun _ _ e => e
      · refine wpAny_Call_NameR (((G.mono Sg).loads rfl rfl rfl rfl rfl) _ _ _ _ _ _ (Sub.refl _) ?_)
        refine PyProof.Rows.callWith_def rfl (wpAny_mono ((Evs.cons (Ev.eq (b := .int ((64 + n : Nat) : Int)) (Ev.add Ev.int (S₈.name (x := "number") (t := .int n) rfl rfl rfl)) (by congr 1)) (Evs.cons (S₈.name (x := "bits") (t := .int bits) q1 rfl rfl) Evs.nil rfl) rfl) _ s₅ _ (Sub.refl _) S₈.live) (fun vs₁ s₆ h₆ => ⟨Kp.sub h₆.2 _ _ ((G.mono Sg).1 _ _ rfl), ?_⟩) fun _ _ e => e) rfl
        obtain ⟨r₆, kp₆⟩ := h₆
        have S₉ := S₈.grow kp₆
        have tb₉ := tb₅.keeps (Kp.sub kp₆)
        refine wpAny_mono (digits_c w (A := A.deeper _) hh (by rw [depth_deeper]; lia) G C (Sg.trans (Kp.sub kp₆)) g16 tb₉ S₉.live h16₁ hb (by lia) (by lia) r₆) (fun v s₇ h₇ => ?_) fun _ _ e => e
        obtain ⟨r₇, tb₇, ⟨h', tk, e⟩, hk₇⟩ := h₇
        subst e
        have live16 : ∃ o, h'.get? 16 = some o := let ⟨ps, e, _⟩ := tb₇; ⟨_, e⟩
        have n16 : 16 ∉ own _ _ := let ⟨ps, e, _⟩ := tb₉; S₉.not_own' e
        have ST := S₉.touch tk h16₁ n16 g16₁ hk₇ live16
        exact ⟨r₇, ST.live, .none, .int (Ev.fdiv Ev.int (ST.name (x := "bits") (t := .int bits) q1 rfl rfl) (by lia) (by lia)), .none, tb₇, ST⟩
      · simp [natT]; rw [dgs_len bits 3 _ _ (by rcases hb with rfl | rfl <;> decide) (by rcases hb with rfl | rfl <;> decide)]; rcases hb with rfl | rfl <;> decide
    · rintro i σ μ ⟨_, _, _, rfl⟩; exact mu_ne1 (by decide)
    · rintro k t σ₂ μ₂ X₂ g₃ s₆ E₆ htk ⟨p1, p2, p3, rfl⟩ hg₃ g16₃ h16₃ tb₆ S₉
      have hk : k < (lowD bits n).length := by
        have := (List.getElem?_eq_some_iff.mp htk).1
        simpa [natT] using this
      obtain rfl : t = .int ((lowD bits n).getD k 0 : Nat) := by
        simp only [natT, List.getElem?_map, getD_get (lowD bits n) k 0 hk, Option.map_some, Option.some.injEq] at htk
        exact htk.symm
      obtain ⟨g₄, hg₄, tg₄, sg₄, S₁₀⟩ := S₉.tabRebase tb₆
      have hcl : codeAt bits ((lowD bits n).take (k + 1)) < 128 := by
        have := code_lt n hn'.2 (k + 1) (by lia)
        rcases hb with rfl | rfl
        · exact this.1
        · exact this.2
      have G₄ : Gl (KK w) g₄ := G.mono fun b o e => hg₄ _ _ (hg₃ _ _ (hg₁ _ _ (by rw [Heap.hide_ne _ (fun z => by rw [z, g16] at e; cases e)]; exact q b o e)))
      refine S₁₀.assign (t := .int (codeAt bits ((lowD bits n).take (k + 1)) : Nat)) (Ev.eq (Ev.add (Ev.mul (S₁₀.name (x := "code") p2 rfl rfl) (Ev.pow Ev.int (S₁₀.name (x := "bits") p1 rfl rfl) (by lia) (by lia)) (IntMulOk.of_right ?_)) (S₁₀.name (x := "digit") rfl rfl rfl)) (congrArg T.int ?_)) rfl (.inl rfl) (mu_ne1 (by decide)) rfl fun s₇ S₁₁ => ?_
      · rcases hb with rfl | rfl <;> decide +kernel
      · rw [code_succ bits _ k hk, Int.toNat_natCast, Int.natCast_add, Int.natCast_mul, Int.natCast_pow]; rfl
      refine S₁₁.assign (t := .str (strOf (signs bits n (k + 1)))) (Ev.eq (Ev.cat (S₁₁.name (x := "word") p3 rfl rfl) (Ev.callB (id := "chr") ((G₄.mono S₁₁.keep).loadsB rfl (by decide +kernel) (by decide) rfl rfl rfl rfl rfl) (Evs.cons (Ev.add Ev.int (S₁₁.name (x := "code") rfl rfl rfl)) Evs.nil rfl) rfl (fun _ => rfl)
        fun s E vs _ _ r => c_chr (by lia) (by lia) s E vs r) ?_) (congrArg T.str ?_)) rfl (.inl rfl) (mu_ne1 (by decide)) rfl fun s₈ S₁₂ => ?_
      · rw [strOf_length]
        show (signs bits n k).length + 1 ≤ 1000
        simp [signs]; lia
      · rw [signs_succ, ← strOf_app]
        congr 3
      have SE := S₁₂.back hg₄ S₉.cal S₉.nw S₉.sh
      refine wpAny_execs_nil ⟨rfl, upd (upd (upd σ₂ "digit" (.int ((lowD bits n).getD k 0 : Nat))) "code" (.int (codeAt bits ((lowD bits n).take (k + 1)) : Nat))) "word" (.str (strOf (signs bits n (k + 1)))), _, _, ⟨p1, rfl, rfl, rfl⟩, S₁₂.tabEnd tg₄, SE⟩
    · rintro σ' μ' X' s' ⟨p1, p2, p3, rfl⟩ tb' S'
      obtain ⟨g₄, hg₄, tg₄, sg₄, S₁₀⟩ := S'.tabRebase tb'
      refine Sta.append (l₁ := []) (l₂ := []) S₁₀ (S₁₀.name (x := "word") p3 rfl rfl) ?_ rfl rfl rfl rfl rfl rfl rfl fun s₈ S₁₂ => ?_
      · simp; lia
      refine wpAny_execs_nil ⟨rfl, σ', _, _, ⟨p1, a, ?_⟩, S₁₂.tabEnd tg₄, S₁₂.back hg₄ S'.cal S'.nw S'.sh⟩
      rw [List.take_succ, hni, List.map_append]
      have : (natT (lowD bits n)).length = 6 / bits := by simp [natT, hll]
      simp [wordF, this]
  · rintro σ' μ' X' s' ⟨q1, a, rfl⟩ tb' S'
    have et : (nums.take (natT nums).length) = nums := by simp [natT]
    rw [et] at S'
    obtain ⟨hv₉, vs₉, hp₉, hr₉⟩ := S'.muts _ (List.mem_singleton_self _)
    have hfa : s.heap.get? a = none := by
      have := S'.off a (by unfold own; simp)
      rwa [Heap.hide_ne _ (fun z => ?_)] at this
      obtain ⟨ps, e, _⟩ := tb'
      exact S'.not_own' e (z ▸ by unfold own; simp)
    refine wpAny_execs_cons (wpAny_Return_some ((hv₉.loads rfl rfl) _ _ _ _ _ _ (Sub.refl _) ?_))
    refine ⟨_, rfl, .list (fun z => ?_) hp₉ (hr₉.weaken fun b z => .inl (S'.cal b z)), tb'.less S'.cal, S'.sh, fun b o nb e => S'.keep b o (by rw [Heap.hide_ne _ nb]; exact e)⟩
    obtain ⟨o, e⟩ := lv _ z
    rw [hfa] at e; cases e
end Mine
end

-- F16
section
open PySem PySem.W PyProof.Rows PySem.Calls
set_option linter.unusedVariables false
set_option maxRecDepth 100000
namespace Mine
section
variable {prog : Program} {w : World} {A : Around} {env : Env} {Xc X : List Addr} {σ : Str → Option T} {μ : Mu} {h₀ h : Heap} {s₀ s s' : Shared} {x : Str} {px pos : Pos} {rest : List Stmt} {Q : Flow → Shared → Prop} {E : Value → Shared → Prop}
theorem Sta.touchL (S : Sta Xc X env σ μ h₀ s₀ s) {cs : List Addr} {h' : Heap} (tk : Nat) (hc : ∀ c ∈ cs, c ∈ X) (hn : ∀ c ∈ cs, c ∉ own env μ) (h0 : ∀ c ∈ cs, h₀.get? c = none) (hk : ∀ b o, b ∉ cs → s.heap.get? b = some o → h'.get? b = some o) (hl : ∀ c ∈ cs, ∃ o, h'.get? c = some o) :
    Sta Xc X env σ μ h₀ s₀ { s with heap := h', toks := tk } := by
  have ap : ∀ b o, b ∉ X → s.heap.get? b = some o → h'.get? b = some o := fun b o nb e => hk b o (fun q => nb (hc _ q)) e
  have nl : env.locals ∉ cs := fun q => hn _ q (List.mem_cons_self ..)
  have hv : ∀ x v, Var env s.heap x v → Var env h' x v := fun x v p => p.elim
    (fun ⟨k, m, n, e⟩ => .inl ⟨k, m, n.at' fun o e => hk _ o nl e, e⟩)
    (fun ⟨k, c', l, e⟩ => .inr ⟨k, c', l, by obtain ⟨o, ho, hd⟩ := e; exact ⟨o, hk _ o (fun q => hn _ q (cell_own k l)) ho, hd⟩⟩)
  refine { sh := ?_, keep := ?_, frame := ?_, cells := ?_, vars := ?_, muts := ?_, sep := S.sep, sub := S.sub, cal := S.cal, live := ?_, off := S.off, nw := S.nw }
  · obtain ⟨c, d, e⟩ := S.sh; exact ⟨h', tk, by rw [e]⟩
  · exact fun b o e => hk b o (fun q => by rw [h0 _ q] at e; cases e) (S.keep b o e)
  · obtain ⟨m, n⟩ := S.frame; exact ⟨m, n.at' fun o e => hk _ o nl e⟩
  · intro p hp
    obtain ⟨v, o, ho, hd⟩ := S.cells p hp
    exact ⟨v, o, hk _ o (fun q => hn _ q (List.mem_cons_of_mem _ (List.mem_append_left _ (List.mem_map_of_mem (f := fun p : Str × Addr => p.2) hp)))) ho, hd⟩
  · intro x t e
    obtain ⟨v, a, b⟩ := S.vars x t e
    exact ⟨v, hv _ _ a, b.apart ap⟩
  · intro p hp
    obtain ⟨a, vs, b, d⟩ := S.muts p hp
    exact ⟨hv _ _ a, vs, b.at fun o e => hk _ o (fun q => hn _ q (List.mem_cons_of_mem _ (List.mem_append_right _ (List.mem_map_of_mem (f := fun p : Str × Addr × List T => p.2.1) hp)))) e, d.apart ap⟩
  · intro b hb
    by_cases q : b ∈ cs
    · exact hl _ q
    · obtain ⟨o, e⟩ := S.live b hb
      exact ⟨o, hk b o q e⟩
theorem Sta.loseL (S : Sta Xc X env σ μ h₀ s₀ s) {cs : List Addr} {h' : Heap} (tk : Nat) (hc : ∀ c ∈ cs, c ∈ X) (hn : ∀ c ∈ cs, c ∉ own env μ) (hcX : ∀ c ∈ cs, c ∉ Xc) (h0 : ∀ c ∈ cs, h₀.get? c = none) (hk : ∀ b o, b ∉ cs → s.heap.get? b = some o → h'.get? b = some o) :
    Sta Xc (X.filter (fun b => decide (b ∉ cs))) env σ μ h₀ s₀ { s with heap := h', toks := tk } := by
  have ap : ∀ b o, b ∉ X → s.heap.get? b = some o → h'.get? b = some o := fun b o nb e => hk b o (fun q => nb (hc _ q)) e
  have nl : env.locals ∉ cs := fun q => hn _ q (List.mem_cons_self ..)
  have hv : ∀ x v, Var env s.heap x v → Var env h' x v := fun x v p => p.elim
    (fun ⟨k, m, n, e⟩ => .inl ⟨k, m, n.at' fun o e => hk _ o nl e, e⟩)
    (fun ⟨k, c', l, e⟩ => .inr ⟨k, c', l, by obtain ⟨o, ho, hd⟩ := e; exact ⟨o, hk _ o (fun q => hn _ q (cell_own k l)) ho, hd⟩⟩)
  have wk : ∀ a, a ∈ X.filter (fun b => decide (b ∉ cs)) → a ∈ X ∨ h'.get? a = none := fun a m => .inl (List.mem_filter.mp m).1
  refine { sh := ?_, keep := ?_, frame := ?_, cells := ?_, vars := ?_, muts := ?_, sep := S.sep, sub := ?_, cal := ?_, live := ?_, off := S.off, nw := fun a m => S.nw a (List.mem_filter.mp m).1 }
  · obtain ⟨c, d, e⟩ := S.sh; exact ⟨h', tk, by rw [e]⟩
  · exact fun b o e => hk b o (fun q => by rw [h0 _ q] at e; cases e) (S.keep b o e)
  · obtain ⟨m, n⟩ := S.frame; exact ⟨m, n.at' fun o e => hk _ o nl e⟩
  · intro p hp
    obtain ⟨v, o, ho, hd⟩ := S.cells p hp
    exact ⟨v, o, hk _ o (fun q => hn _ q (List.mem_cons_of_mem _ (List.mem_append_left _ (List.mem_map_of_mem (f := fun p : Str × Addr => p.2) hp)))) ho, hd⟩
  · intro x t e
    obtain ⟨v, a, b⟩ := S.vars x t e
    exact ⟨v, hv _ _ a, (b.apart ap).weaken wk⟩
  · intro p hp
    obtain ⟨a, vs, b, d⟩ := S.muts p hp
    exact ⟨hv _ _ a, vs, b.at fun o e => hk _ o (fun q => hn _ q (List.mem_cons_of_mem _ (List.mem_append_right _ (List.mem_map_of_mem (f := fun p : Str × Addr × List T => p.2.1) hp)))) e, (d.apart ap).weaken wk⟩
  · intro a m
    exact List.mem_filter.mpr ⟨S.sub a m, decide_eq_true fun q => hn _ q m⟩
  · intro a m
    exact List.mem_filter.mpr ⟨S.cal a m, decide_eq_true fun q => hcX _ q m⟩
  · intro b hb
    obtain ⟨m, q⟩ := List.mem_filter.mp hb
    obtain ⟨o, e⟩ := S.live b m
    exact ⟨o, hk b o (of_decide_eq_true q) e⟩

theorem Sta.moreL (S : Sta Xc X env σ μ h₀ s₀ s) {cs : List Addr} (hc : ∀ c ∈ cs, s.heap.get? c = none) (k : Keeps s s') (hl : ∀ c ∈ cs, ∃ o, s'.heap.get? c = some o) : Sta Xc (cs ++ X) env σ μ h₀ s₀ s' := by
  have wk : ∀ a, a ∈ cs ++ X → a ∈ X ∨ s.heap.get? a = none := fun a m => (List.mem_append.mp m).elim (fun e => .inr (hc _ e)) .inl
  have G := S.grow k
  refine { G with vars := ?_, muts := ?_, sub := fun a m => List.mem_append_right _ (S.sub a m), cal := fun a m => List.mem_append_right _ (S.cal a m), live := ?_, nw := ?_ }
  · intro x t e
    obtain ⟨v, a, b⟩ := S.vars x t e
    exact ⟨v, a.mono (Kp.sub k), (b.weaken wk).mono (Kp.sub k)⟩
  · intro p hp
    obtain ⟨a, vs, b, d⟩ := S.muts p hp
    exact ⟨a.mono (Kp.sub k), vs, b.at fun o e => Kp.sub k _ o e, (d.weaken wk).mono (Kp.sub k)⟩
  · intro a m
    rcases List.mem_append.mp m with e | m
    · exact hl _ e
    · exact G.live a m
  · intro a m
    rcases List.mem_append.mp m with e | m
    · refine .inr ?_
      cases z : h₀.get? a with
      | none => rfl
      | some o => have := hc a e; rw [S.keep a o z] at this; cases this
    · exact S.nw a m


/-- for xi, xv in enumerate(e) -/
theorem Sta.forEnum (S : Sta Xc X env σ μ h₀ s₀ s) (hh : A.handled = none) {e : Expr} {body : List Stmt} {ts : List T} {xi xv f : Str} {pi pv pt np cp : Pos} {x1 : Nat} (hk : env.scope.kind = .function) (hi : Storable env xi) (hv : Storable env xv)
    (hfs : ∀ x, foldedSetIterable (.Call (.Name f np) [e] [] cp) env x = pure x)
    (ld : Loads env s.heap f (.type "enumerate")) (he : Ev prog w A env X s.heap e (.list ts)) (hst : starEach [e] env = (false, eval e env) :: starEach [] env) (hsz : ts.length ≤ 1000)
    (J : Nat → (Str → Option T) → Mu → Prop) (h0 : J 0 σ μ) (hn : ∀ i σ' μ', J i σ' μ' → ∀ p ∈ μ', p.1 ≠ xi ∧ p.1 ≠ xv)
    (turn : ∀ (i : Nat) (t : T) (σ₁ : Str → Option T) (μ₁ : Mu) (X₁ : List Addr) (g : Heap) (s₁ : Shared) (E : Value → Shared → Prop), ts[i]? = some t → J i σ₁ μ₁ → Sub h₀ g → Sta X₁ X₁ env (upd (upd σ₁ xi (.int i)) xv t) μ₁ g s₁ s₁ →
      wpAny (model prog w) A (execs body env) (fun f s₂ => f = .next ∧ ∃ σ₂ μ₂ X₂, J (i + 1) σ₂ μ₂ ∧ Sta X₁ X₂ env σ₂ μ₂ g s₁ s₂) E s₁)
    (done : ∀ σ' μ' X' s', J ts.length σ' μ' → Sta Xc X' env σ' μ' h₀ s₀ s' → wpAny (model prog w) A (execs rest env) Q E s') :
    wpAny (model prog w) A (execs (.For (.Tuple [.Name xi pi, .Name xv pv] x1 pt) (.Call (.Name f np) [e] [] cp) body [] pos :: rest) env) Q E s := by
  refine wpAny_execs_cons (wpAny_For (wpAny_Call_NameR (ld _ _ _ _ _ _ (Sub.refl _) ?_)) hfs)
  refine PyProof.Rows.callWith_type1 (wpAny_mono ((Evs.cons he Evs.nil hst) cp s E (Sub.refl _) S.live) (fun vs₀ s₁ h₁ => ?_) fun _ _ e => e) hst rfl
  obtain ⟨r₀, kp⟩ := h₁
  obtain ⟨v₀, rfl, rv₀⟩ := reps1 r₀
  have S₁ := S.grow kp
  obtain ⟨a, vs, rfl, na, il, r⟩ := rep_list rv₀
  have hl := r.length
  have hlt : a < s₁.heap.objs.size := by obtain ⟨_, e⟩ := il; exact Heap.lt_size e
  refine call_enumerate_list il.isList fun h₂ hE hI hz hk₂ => ?_
  refine wpAny_pyIter_enum hE ?_
  have W := WalksT.enumerate (prog := prog) (w := w) hh (s₁.heap.objs.size + 1) s₁.heap.objs.size a (show (s₁.heap.objs.size + 1 : Nat) ≠ s₁.heap.objs.size by lia) (Nat.ne_of_lt (Nat.lt_succ_of_lt hlt)) (Nat.ne_of_lt hlt) vs.toArray
  rw [show vs.toArray.size = ts.length by simp [hl]] at W
  have hst0 : (∃ old, IsEnum h₂ (s₁.heap.objs.size + 1) s₁.heap.objs.size ((0 : Nat) : Int) old) ∧ h₂.IsListIter s₁.heap.objs.size a 0 ∧ h₂.IsList a vs.toArray := ⟨⟨_, hE⟩, hI, il.isList.at fun o e => hk₂ _ o e⟩
  have hlive : ∀ i h, ((∃ old, IsEnum h (s₁.heap.objs.size + 1) s₁.heap.objs.size ((i : Nat) : Int) old) ∧ h.IsListIter s₁.heap.objs.size a i ∧ h.IsList a vs.toArray) → ∀ b ∈ [s₁.heap.objs.size + 1, s₁.heap.objs.size], ∃ o, h.get? b = some o := by
    rintro i h ⟨⟨old, q1⟩, ⟨o2, q2, _⟩, _⟩ b hb
    rcases List.mem_cons.mp hb with rfl | hb
    · exact ⟨_, q1⟩
    · rw [List.mem_singleton.mp hb]; exact ⟨_, q2⟩
  have hwn : ∀ b ∈ [s₁.heap.objs.size + 1, s₁.heap.objs.size], s₁.heap.get? b = none := by
    intro b hb
    rcases List.mem_cons.mp hb with rfl | hb
    · exact Heap.get?_none_of_le (Nat.le_succ _)
    · rw [List.mem_singleton.mp hb]; exact Heap.get?_none_of_le (Nat.le_refl _)
  have hX : ∀ b ∈ [s₁.heap.objs.size + 1, s₁.heap.objs.size, a], b ∉ X := by
    intro b hb
    have hfr : ∀ b, s₁.heap.get? b = none → b ∉ X := fun b e m => by
      obtain ⟨o, z⟩ := S₁.live b m
      rw [e] at z; cases z
    rcases List.mem_cons.mp hb with rfl | hb
    · exact hfr _ (hwn _ (List.mem_cons_self ..))
    · rcases List.mem_cons.mp hb with rfl | hb
      · exact hfr _ (hwn _ (List.mem_cons_of_mem _ (List.mem_singleton_self _)))
      · rw [List.mem_singleton.mp hb]; exact na
  have hlive3 : ∀ i h, ((∃ old, IsEnum h (s₁.heap.objs.size + 1) s₁.heap.objs.size ((i : Nat) : Int) old) ∧ h.IsListIter s₁.heap.objs.size a i ∧ h.IsList a vs.toArray) → ∀ b ∈ [s₁.heap.objs.size + 1, s₁.heap.objs.size, a], ∃ o, h.get? b = some o := by
    rintro i h ⟨⟨old, q1⟩, ⟨o2, q2, _⟩, ⟨o3, q3, _⟩⟩ b hb
    rcases List.mem_cons.mp hb with rfl | hb
    · exact ⟨_, q1⟩
    · rcases List.mem_cons.mp hb with rfl | hb
      · exact ⟨_, q2⟩
      · rw [List.mem_singleton.mp hb]; exact ⟨_, q3⟩
  have hP : ∀ (i : Nat) v, vs[i]? = some v → ∃ t, ts[i]? = some t ∧ Rep X s₁.heap v t := by
    intro i v hv'
    have hi : i < ts.length := by rw [← hl]; exact (List.getElem?_eq_some_iff.mp hv').1
    obtain ⟨v', e', rv⟩ := r.get (i := i) (t := ts[i]) (by simp [hi])
    rw [hv'] at e'; cases e'
    exact ⟨ts[i], by simp [hi], rv⟩
  have hSub := W.sub
  generalize hwr : [s₁.heap.objs.size + 1, s₁.heap.objs.size] = wr at W hlive hwn hSub
  generalize hfp : [s₁.heap.objs.size + 1, s₁.heap.objs.size, a] = fp at W hX hlive3 hSub
  generalize hSt : (fun (i : Nat) (h : Heap) => (∃ old, IsEnum h (s₁.heap.objs.size + 1) s₁.heap.objs.size (i : Int) old) ∧ h.IsListIter s₁.heap.objs.size a i ∧ h.IsList a vs.toArray) = St at W
  have hst0' : St 0 h₂ := by rw [← hSt]; exact hst0
  have hlive' : ∀ i h, St i h → ∀ b ∈ wr, ∃ o, h.get? b = some o := by rw [← hSt]; exact hlive
  have hlive3' : ∀ i h, St i h → ∀ b ∈ fp, ∃ o, h.get? b = some o := by rw [← hSt]; exact hlive3
  clear hlive hlive3 hst0 hSt
  have hw0 : ∀ c ∈ wr, h₀.get? c = none := fun c m => by
    cases z : h₀.get? c with
    | none => rfl
    | some o => have := hwn c m; rw [S₁.keep c o z] at this; cases this
  have hwc : ∀ c ∈ wr, c ∉ Xc := fun c m q => hX c (hSub c m) (S.cal c q)
  have S₂ : Sta Xc (wr ++ X) env σ μ h₀ s₀ { s₁ with heap := h₂ } := S₁.moreL hwn (Kp.heap0 hk₂) (hlive' 0 _ hst0')
  refine codeAny_forLoop_any (ForInv ts.length St J wr fp X s₁.heap Xc env h₀ s₀ (fun _ _ => True)) ?_ (ts.length + 1)
    ⟨0, σ, μ, wr ++ X, rfl, Nat.zero_le _, hst0', h0, (fun c m => List.mem_append_left _ m), (fun b hb m => hX b hb (S.sub b m)), (fun a m => List.mem_append_right _ m),
      (fun a m => (List.mem_append.mp m).elim (fun e => .inr (hwn _ e)) .inl), (fun b o _ e => hk₂ b o e), trivial, S₂⟩
  clear S₂ hst0' hk₂ hwn hE hI hlt il r hl hz
  rintro n s' ⟨i, σ', μ', X', rfl, hil, hst', hJ, hIX, hfo, hXX, hXn, hap, _, S'⟩
  have hIo : ∀ c ∈ wr, c ∉ own env μ' := fun c m => hfo c (hSub c m)
  by_cases hlt' : i < ts.length
  · refine W.item i s' _ _ hlt' hst' fun Tp vals h' tk hPt hT hIsT hMid hk₁ => ?_
    refine W.go _ _ _ i Tp _ _ _ hMid fun h'' hSt'' hk₃ => ?_
    obtain ⟨t₀, v, hv₀, rfl⟩ := hPt
    have hTw : Tp ∉ wr := W.apart _ _ _ hMid
    have hIsT' : h''.IsTuple Tp #[.int i t₀, v] := let ⟨o, z, r⟩ := hIsT; ⟨o, hk₃ _ _ hTw z, r⟩
    have hk₄ : ∀ b o, b ∉ wr → s'.heap.get? b = some o → h''.get? b = some o := fun b o nb e => hk₃ b o nb (hk₁ b o nb e)
    clear hMid hTw hIsT hk₁ hk₃
    have S₃ : Sta Xc X' env σ' μ' h₀ s₀ { s' with heap := h'', toks := tk } := S'.touchL tk hIX hIo hw0 hk₄ (hlive' _ _ hSt'')
    have hap' : ∀ b o, b ∉ X' → s₁.heap.get? b = some o → h''.get? b = some o := fun b o nb e => hk₄ b o (fun q => nb (hIX _ q)) (hap b o nb e)
    obtain ⟨t, ht, rv⟩ := hP i v (by simpa using hv₀)
    have rv' : Rep X' h'' v t := (rv.weaken hXn).apart hap'
    refine wpAny_assign_Tuple hh hIsT' rfl rfl fun h₃ hx₃ => ?_
    have hx₃' : Sub h'' h₃ := fun b o e => hx₃ b o (fun z => absurd (z ▸ Heap.lt_size e : h''.objs.size < h''.objs.size) (Nat.lt_irrefl _)) e
    have S₄ : Sta Xc X' env σ' μ' h₀ s₀ { s' with heap := h₃, toks := tk } := S₃.grow (s' := { s' with heap := h₃, toks := tk }) ⟨h₃, tk, rfl, hx₃'⟩
    show wpAny _ A (do holding [v] (PySem.assign (.Name xi pi) env (.int i t₀)); do holding [] (PySem.assign (.Name xv pv) env v); pure ()) _ _ _
    refine wpAny_bind (wpAny_holding (wpAny_assign_Name (S₄.storeRaw hk hi (fun p hp => (hn i σ' μ' hJ p hp).1) fun s₅ S₅ hv₅ hap₅ => ?_)))
    refine wpAny_bind (wpAny_holding (wpAny_assign_Name ((S₅.put hv₅ (Rep.int (i : Int) t₀)).storeRaw hk hv (fun p hp => (hn i σ' μ' hJ p hp).2) fun s₆ S₆ hv₆ hap₆ => wpAny_pure ?_)))
    have up : ∀ b o, b ∉ own env μ' → h''.get? b = some o → s₆.heap.get? b = some o := fun b o nb e => hap₆ b o (fun m => nb (own_nil m)) (hap₅ b o (fun m => nb (own_nil m)) (hx₃' b o e))
    have S₇ := S₆.put hv₆ (rv'.apart fun b o nb e => up b o (fun m => nb (S'.sub b m)) e)
    have hst₄ : St (i + 1) s₆.heap := W.frame _ _ _ hSt'' fun b hb o e => up b o (hfo b hb) e
    obtain ⟨g, q₀, qg, qn, S₈⟩ := S₇.rebase
    refine wpAny_mono (turn i t σ' μ' X' g s₆ _ ht hJ q₀ S₈) (fun f s₇ h₇ => ?_) fun _ _ e => e
    obtain ⟨rfl, σ₂, μ₂, X₂, hJ₂, S₉⟩ := h₇
    exact ForInv.next hlt' (hlive3' _ _ hst₄) (fun h' k => W.frame _ _ _ hst₄ k) hfo hIX hXX hXn (fun b o nb e => up b o (fun m => nb (S'.sub b m)) (hap' b o nb e)) S₇ q₀ (fun b o n1 _ e => qn b o n1 e) hJ₂ trivial S₉
  · obtain rfl : i = ts.length := Nat.le_antisymm hil (Nat.le_of_not_lt hlt')
    exact W.done s' _ _ hst' fun h' tk hk₁ => wpAny_execs_nil (done σ' μ' _ _ hJ (S'.loseL tk hIX hIo hwc hw0 hk₁))
end
end Mine
end

-- F17
section
open PySem PySem.W PyProof.Rows PySem.Calls
set_option linter.unusedVariables false
set_option maxRecDepth 100000
namespace Mine
section
variable {prog : Program} {w : World} {A : Around} {env : Env} {Xc X : List Addr} {σ : Str → Option T} {μ : Mu} {h₀ h : Heap} {s₀ s s' : Shared} {x y p : Str} {px pos : Pos} {rest : List Stmt} {Q : Flow → Shared → Prop} {E : Value → Shared → Prop}

theorem strs_reps (X : List Addr) (h : Heap) : ∀ (l : List Str) (k : Nat), Reps X h (strsFrom k l) (l.map .str)
  | [], _ => .nil
  | x :: l, k => .cons (.str _ _) (strs_reps X h l (k + 1))
/-- a text's split at blanks -/
theorem EvNew.split {e : Expr} {x : Str} {ws : List Str} {ap cp : Pos} (he : Ev prog w A env [] h e (.str x)) (hb : attributeBase e "split" env (eval e env) = eval e env) (hline : (ap.endLine == cp.line) = true)
    (hx : x.length ≤ 1000) (h1 : (Builtin.Str.spaceWords x (x.length + 1) == [(0, x.length)]) = false) (h2 : PySem.wordsOf x = ws) (h3 : ws.length ≤ 1000) :
    EvNew prog w A env h (.Call (.Attribute e "split" ap) [] [] cp) (ws.map .str) := fun s E q => by
  refine wpAny_Call_method_lateS hb rfl hline (wpAny_mono (he s E q (fun a m => nomatch m)) (fun v s₁ h₁ => ?_) fun _ _ e => e)
  obtain ⟨rv, kp⟩ := h₁
  obtain ⟨_, rfl⟩ := rep_str rv
  have hl : (Builtin.Str.spaceWords x (x.length + 1)).length = ws.length := by rw [← h2]; simp [PySem.wordsOf]
  refine ⟨"str", "str.split", F.plainAttrs_str, F.slot_str_split, F.type_str_split, typeIs_str _ _ _, (fun _ e => nomatch e), ?_⟩
  refine callWith_builtin rfl (evalArgs_nil3 ?_)
  refine call_meets F.slot_str_split (typeIs_str _ _ _) F.entry_str_split (F.args_str_split_1 _) (meets_str_split_space x _ (Nat.le_trans hx (by decide)) (by rw [hl]; exact Nat.le_trans h3 (by decide))) ?_
  rw [h1]
  simp only [Bool.false_eq_true, if_false]
  rw [h2]
  refine ⟨⟨_, _, rfl, ?_, ⟨0, Heap.get?_push_size _ rfl⟩, fun X h => strs_reps X h ws _⟩, Kp.trans kp (Kp.heap _ (Sub.push _ _))⟩
  cases z : s.heap.get? s₁.heap.objs.size with
  | none => rfl
  | some o => exact absurd (Heap.lt_size (Kp.sub kp _ _ z)) (Nat.lt_irrefl _)

/-- y.pop(p) -/
theorem Sta.pop {l₁ l₂ : Mu} {a : Addr} {ts : List T} (S : Sta Xc X env σ (l₁ ++ (y, a, ts) :: l₂) h₀ s₀ s) {e : Expr} {k : Nat} {t : T} {np ap cp : Pos} {Q : Value → Shared → Prop} (he : Ev prog w A env X s.heap e (.int k)) (hlt : ts[k]? = some t) (hpt : plainT t = true) (hl : ts.length ≤ 1000) (hk : env.scope.kind = .function)
    (hd : (y == ("__debug__" : Str)) = false) (hline : (ap.endLine == cp.line) = true) (htr : backTo cp (starEach [e] env) = [(false, eval e env)])
    (hb : attributeBase (.Name y np) "pop" env (eval (.Name y np) env) = eval (.Name y np) env)
    (kk : ∀ v s', (∀ Y h, Rep Y h v t) → Sta Xc X env σ (l₁ ++ (y, a, ts.eraseIdx k) :: l₂) h₀ s₀ s' → Q v s') :
    wpAny (model prog w) A (eval (.Call (.Attribute (.Name y np) "pop" ap) [e] [] cp) env) Q E s := by
  obtain ⟨hv, vs, hp, hr⟩ := S.muts (y, a, ts) (List.mem_append_right _ (List.mem_cons_self ..))
  refine wpAny_Call_method1_late hb hline htr ?_
  refine (hv.loads hk hd) _ _ _ _ _ _ (Sub.refl _) ?_
  obtain ⟨n, hp'⟩ := id hp
  refine ⟨"list", _, F.plainAttrs_list, F.slot_list_pop, F.type_list_pop, hp.isList.typeIs, (fun b e => by cases e; exact ⟨_, hp', rfl⟩), ?_⟩
  refine P.pop_at_list (wpAny_mono (he s E (Sub.refl _) S.live) (fun v s₁ h₁ => ?_) fun _ _ e => e)
  obtain ⟨rk, kp⟩ := h₁
  obtain ⟨u, rfl⟩ := rep_int rk
  have S₁ := S.grow kp
  have hp₁ := Kp.sub kp _ _ hp'
  have hlen : vs.length = ts.length := hr.length
  have hkl : k < ts.length := (List.getElem?_eq_some_iff.mp hlt).1
  obtain ⟨z, hz, rz⟩ := hr.get hlt
  refine ⟨_, n, (k : Int), u, k, z, ?_, rfl, hp₁, ?_, ?_, ?_, ?_⟩
  · simp only [List.size_toArray]; rw [hlen]; exact Nat.le_trans hl (by decide)
  · simp [Builtin.List.listFitsIndex]; lia
  · simp only [List.size_toArray]; unfold seqIndex?; simp; lia
  · simpa using hz
  have er : ∀ {X : List Addr} {h : Heap} {vs : List Value} {ts : List T}, Reps X h vs ts → ∀ k, Reps X h (vs.eraseIdx k) (ts.eraseIdx k) := by
    intro X h vs ts r
    induction vs generalizing ts with
    | nil => cases r; intro k; exact .nil
    | cons v vs ih =>
      cases r with
      | cons ra r =>
        intro k
        cases k with
        | zero => exact r
        | succ k => exact .cons ra (ih r k)
  refine kk z _ (fun Y h => rep_plain rz hpt) (S₁.setMut (vs := vs.eraseIdx k) (Heap.SameBut.update ..) ?_ (er (hr.mono (Kp.sub kp)) k))
  have := IsL.update hp₁ (fun xs => xs.eraseIdxIfInBounds k)
  have e2 : vs.toArray.eraseIdxIfInBounds k = (vs.eraseIdx k).toArray := by simp
  rw [e2] at this
  exact ⟨_, this⟩

/-- x.append((y.pop(e), z.pop(e))) -/
theorem Sta.appendPops {z : Str} {a b c : Addr} {us ts rs : List T} (S : Sta Xc X env σ [(x, a, us), (z, c, rs), (y, b, ts)] h₀ s₀ s) {k : Nat} {t r : T} {np ap cp tp np1 ap1 cp1 np2 ap2 cp2 pp1 pp2 : Pos} {x1 : Nat} (he : σ p = some (.int k)) (ht : ts[k]? = some t) (hr : rs[k]? = some r) (hpt : plainT t = true) (hpr : plainT r = true)
    (hl1 : us.length ≤ 1000) (hl2 : ts.length ≤ 1000) (hl3 : rs.length ≤ 1000) (hk : env.scope.kind = .function) (hdx : (x == ("__debug__" : Str)) = false) (hdy : (y == ("__debug__" : Str)) = false) (hdz : (z == ("__debug__" : Str)) = false) (hdp : (p == ("__debug__" : Str)) = false)
    (hline : (ap.endLine == cp.line) = true) (hline1 : (ap1.endLine == cp1.line) = true) (hline2 : (ap2.endLine == cp2.line) = true) (hi : interactive env = false)
    (kk : ∀ s', Sta Xc X env σ [(x, a, us ++ [.tup [t, r]]), (z, c, rs.eraseIdx k), (y, b, ts.eraseIdx k)] h₀ s₀ s' → wpAny (model prog w) A (execs rest env) Q E s')
    (hsw : swapsWith (.Call (.Attribute (.Name x np) "append" ap) [.Tuple [.Call (.Attribute (.Name y np1) "pop" ap1) [.Name p pp1] [] cp1, .Call (.Attribute (.Name z np2) "pop" ap2) [.Name p pp2] [] cp2] x1 tp] [] cp) none pos.line env = pure false) :
    wpAny (model prog w) A (execs (.Expr (.Call (.Attribute (.Name x np) "append" ap) [.Tuple [.Call (.Attribute (.Name y np1) "pop" ap1) [.Name p pp1] [] cp1, .Call (.Attribute (.Name z np2) "pop" ap2) [.Name p pp2] [] cp2] x1 tp] [] cp) pos :: rest) env) Q E s := by
  obtain ⟨hv, vs, hp, hr₀⟩ := S.muts (x, a, us) (List.mem_cons_self ..)
  refine wpAny_execs_cons (wpAny_Expr_any (wpAny_Call_method1_late rfl hline rfl ?_) hi hsw)
  refine (hv.loads hk hdx) _ _ _ _ _ _ (Sub.refl _) ?_
  obtain ⟨n, hp'⟩ := id hp
  refine ⟨"list", _, F.plainAttrs_list, F.slot_list_append, F.type_list_append, hp.isList.typeIs, (fun b e => by cases e; exact ⟨_, hp', rfl⟩), ?_⟩
  refine P.append_list ?_
  refine wpAny_Tuple_spliced (args_cons (Sta.pop (l₁ := [(x, a, us), (z, c, rs)]) (l₂ := []) S (S.name he hk hdp) ht hpt hl2 hk hdy hline1 rfl rfl fun v1 s₁ r1 S₁ => ?_) rfl)
  refine args_cons (Sta.pop (l₁ := [(x, a, us)]) (l₂ := [(y, b, ts.eraseIdx k)]) S₁ (S₁.name he hk hdp) hr hpr hl3 hk hdz hline2 rfl rfl fun v2 s₂ r2 S₂ => ?_) rfl
  refine args_nil ⟨(by decide : 2 ≤ sizeLine), ?_⟩
  have S₃ := S₂.grow (Kp.heap0 (Sub.push s₂.heap { cls := .type "tuple", data := .seq [v1, v2].toArray }))
  obtain ⟨hv₃, vs₃, hp₃, hr₃⟩ := S₃.muts (x, a, us) (List.mem_cons_self ..)
  obtain ⟨n₃, hp₃'⟩ := id hp₃
  refine ⟨_, n₃, ?_, hp₃', ?_⟩
  · have := hr₃.length; simp only [List.size_toArray]; rw [this]; exact Nat.le_trans hl1 (by decide)
  refine kk _ (Sta.setMut (l₁ := []) (vs := vs₃ ++ [_]) S₃ (Heap.SameBut.update ..) ?_ (hr₃.append (.cons (.tup ?_ ⟨_, Heap.get?_push_size _ rfl, rfl, _, rfl⟩ (.cons (r1 _ _) (.cons (r2 _ _) .nil))) .nil)))
  · have := IsL.update hp₃' (fun xs => xs.push (.ref s₂.heap.objs.size))
    exact ⟨_, by simpa using this⟩
  · exact Live.fresh S₂.live
end
end Mine
end

-- A11
section
open PySem PySem.W PyProof.Rows PySem.Calls
set_option linter.unusedVariables false
set_option maxRecDepth 100000
set_option maxHeartbeats 4000000
namespace Mine
noncomputable def opNames : List Str := [("(" : Str), (")" : Str), ("[" : Str), ("]" : Str), (":" : Str), ("," : Str), (";" : Str), ("+" : Str), ("-" : Str), ("*" : Str), ("/" : Str), ("|" : Str), ("&" : Str), ("<" : Str), (">" : Str), ("=" : Str), ("." : Str), ("%" : Str), ("{" : Str), ("}" : Str), ("==" : Str), ("!=" : Str), ("<=" : Str), (">=" : Str), ("~" : Str), ("^" : Str), ("<<" : Str), (">>" : Str), ("**" : Str), ("+=" : Str), ("-=" : Str), ("*=" : Str), ("/=" : Str), ("%=" : Str), ("&=" : Str), ("|=" : Str), ("^=" : Str), ("<<=" : Str), (">>=" : Str), ("**=" : Str), ("//" : Str), ("//=" : Str), ("@" : Str), ("@=" : Str), ("->" : Str), ("..." : Str), (":=" : Str), ("!" : Str)]
noncomputable def nameOf (n : Nat) : Str := opNames.getD (n - 7) ""
noncomputable def codesL : List Nat := [2, 9, 24, 8, 2, 30]
/-- the place of turn i -/
noncomputable def placeOf (script : List Int) (i len : Nat) : Nat := (((codesL.getD i 0 : Nat) + (sliceT script (some (i : Int)) (some 12) (some 6)).sum) % (len : Int)).toNat
/-- numbers left, numbers picked -/
noncomputable def picksAt (script : List Int) : Nat → List Nat × List Nat
  | 0 => (List.range' 7 48, [])
  | i + 1 => ((picksAt script i).1.eraseIdx (placeOf script i (picksAt script i).1.length), (picksAt script i).2 ++ [(picksAt script i).1.getD (placeOf script i (picksAt script i).1.length) 0])
noncomputable def pickT (n : Nat) : T := .tup [.str (nameOf n), .int n]
noncomputable def howMany (script : List Int) : Nat := if script.length > 3 then 6 else 5
theorem place_lt (script : List Int) (i len : Nat) (h : 0 < len) : placeOf script i len < len := by
  unfold placeOf
  have h1 := Int.emod_nonneg ((codesL.getD i 0 : Nat) + (sliceT script (some (i : Int)) (some 12) (some 6)).sum) (show (len : Int) ≠ 0 by lia)
  have h2 := Int.emod_lt_of_pos ((codesL.getD i 0 : Nat) + (sliceT script (some (i : Int)) (some 12) (some 6)).sum) (show (0 : Int) < len by lia)
  lia
theorem picks_len (script : List Int) : ∀ i, i ≤ 48 → (picksAt script i).1.length = 48 - i
  | 0, _ => by simp [picksAt]
  | i + 1, h => by
    have ih := picks_len script i (by lia)
    simp only [picksAt]
    rw [List.length_eraseIdx_of_lt (place_lt _ _ _ (by lia)), ih]
    lia
theorem picked_len (script : List Int) : ∀ i, (picksAt script i).2.length = i
  | 0 => rfl
  | i + 1 => by simp [picksAt, picked_len script i]
theorem mu_ne3 {x y z u : Str} {a b c : Addr} {ts rs us : List T} (h1 : x ≠ u) (h2 : y ≠ u) (h3 : z ≠ u) : ∀ p ∈ ([(x, a, ts), (y, b, rs), (z, c, us)] : Mu), p.1 ≠ u := fun p hp => by
  simp only [List.mem_cons, List.not_mem_nil, or_false] at hp
  rcases hp with rfl | rfl | rfl
  · exact h1
  · exact h2
  · exact h3
theorem erase_map {α β : Type} (f : α → β) : ∀ (l : List α) (k : Nat), (l.eraseIdx k).map f = (l.map f).eraseIdx k
  | [], _ => rfl
  | _ :: _, 0 => rfl
  | a :: l, k + 1 => by simp only [List.eraseIdx_cons_succ, List.map_cons, erase_map f l k]
theorem slice_map {α β : Type} (f : α → β) (l : List α) (a b c : Option Int) : sliceT (l.map f) a b c = (sliceT l a b c).map f := by
  unfold sliceT
  rw [List.length_map, List.map_filterMap]
  congr 1
  funext k
  rw [List.getElem?_map]
theorem picks_c (w : World) {A : Around} {X : List Addr} {s : Shared} {E : Value → Shared → Prop} {vs : List Value} (hh : A.handled = none) (hdp : A.depth < recursionLimit) (G : Gl (KK w) s.heap) (lv : Live X s.heap) {script : List Int} (hl : script.length ≤ 63)
    (r : Reps X s.heap vs [.list (script.map .int)]) : wpAny (model pr w) A (call (.ref 45) vs) (fun v s' => Rep X s'.heap v (.list ((picksAt script (howMany script)).2.map pickT)) ∧ Keeps s s') E s := by
  obtain ⟨v1, rfl, r1⟩ := reps1 r
  refine enter (K := KK w) (f := 45) G lv rfl rfl hdp rfl rfl (by decide) rfl rfl rfl fun L s₁ G₁ up var S => ?_
  have S₁ := S.add (var "script" v1 (.inl ⟨rfl, rfl⟩)) (up _ _ r1)
  refine S₁.assignNew (EvNew.split (ws := opNames) Ev.str rfl rfl (by decide +kernel) (by decide +kernel) (by decide +kernel) (by decide +kernel)) rfl (.inl rfl) (fun p hp => by cases hp) rfl fun a s₂ S₂ => ?_
  refine S₂.assignNew (EvNew.range2 (n := 48) (A := A.deeper _) hh ((G.mono S₂.keep).loadsB rfl (by decide +kernel) (by decide) rfl rfl rfl rfl rfl) ((G.mono S₂.keep).loadsB rfl (by decide +kernel) (by decide) rfl rfl rfl rfl rfl) Ev.int Ev.int (by decide) (by decide) (by decide) rfl rfl rfl) rfl (.inl rfl) (mu_ne1 (by decide)) rfl fun b s₃ S₃ => ?_
  refine S₃.newList (Evs.nil) (by decide) rfl (.inl rfl) (mu_ne2 (by decide) (by decide)) rfl fun c s₄ S₄ => ?_
  have hcod : codesL.length = 6 := rfl
  have hmany : howMany script ≤ 6 := by unfold howMany; split <;> lia
  have hsl : sliceT (natT codesL) none (some ((howMany script : Nat) : Int)) none = natT (codesL.take (howMany script)) := slice_low (by rw [hcod]; exact hmany)
  have hlen3 : ∀ {X : List Addr}, True := trivial
  refine S₄.forEnum (A := A.deeper _) hh rfl (.inl rfl) (.inl rfl) (fun _ => rfl) ((G.mono S₄.keep).loadsB rfl (by decide +kernel) (by decide) rfl rfl rfl rfl rfl) (ts := natT (codesL.take (howMany script)))
    (Ev.eq (Ev.slice (l := natT codesL) (Ev.disp (Evs.cons Ev.int (Evs.cons Ev.int (Evs.cons Ev.int (Evs.cons Ev.int (Evs.cons Ev.int (Evs.cons Ev.int Evs.nil rfl) rfl) rfl) rfl) rfl) rfl) (by decide)) EvP.none (EvP.int ?_) EvP.none (by decide) (by decide)) (congrArg T.list hsl)) rfl (by simp [natT]; lia)
    (fun i σ μ => σ "script" = some (.list (script.map .int)) ∧ ∃ a b c, μ = [(("picked" : Str), c, (picksAt script i).2.map pickT), (("numbers" : Str), b, natT (picksAt script i).1), (("left" : Str), a, (picksAt script i).1.map fun n => .str (nameOf n))]) ⟨rfl, a, b, c, ?_⟩ ?_ ?_ ?_
  · by_cases h : script.length > 3
    · have e : howMany script = 6 := by unfold howMany; rw [if_pos h]
      rw [e]
      exact Ev.ifT (Tr.eq (Tr.cmp (Ev.callB (id := "len") ((G.mono S₄.keep).loadsB rfl (by decide +kernel) (by decide) rfl rfl rfl rfl rfl) (Evs.cons (S₄.name (x := "script") (t := .list (script.map .int)) rfl rfl rfl) Evs.nil rfl) rfl (fun _ => rfl) fun s E vs _ _ r => c_len (by simp; lia) s E vs r) Ev.int rfl op_gt) (by simp; lia)) Ev.int
    · have e : howMany script = 5 := by unfold howMany; rw [if_neg h]
      rw [e]
      exact Ev.ifF (Tr.eq (Tr.cmp (Ev.callB (id := "len") ((G.mono S₄.keep).loadsB rfl (by decide +kernel) (by decide) rfl rfl rfl rfl rfl) (Evs.cons (S₄.name (x := "script") (t := .list (script.map .int)) rfl rfl rfl) Evs.nil rfl) rfl (fun _ => rfl) fun s E vs _ _ r => c_len (by simp; lia) s E vs r) Ev.int rfl op_gt) (by simp; lia)) Ev.int
  · rfl
  · rintro i σ μ ⟨_, a, b, c, rfl⟩ q hq
    exact ⟨mu_ne3 (by decide) (by decide) (by decide) q hq, mu_ne3 (by decide) (by decide) (by decide) q hq⟩
  · rintro i t σ₁ μ₁ X₁ g s₅ E₅ hti ⟨q1, a, b, c, rfl⟩ hg S₅
    have hi : i < howMany script := by
      have := (List.getElem?_eq_some_iff.mp hti).1
      simp [natT] at this; lia
    have hi6 : i < codesL.length := by lia
    have hrl := picks_len script i (by lia)
    obtain rfl : t = .int (codesL.getD i 0 : Nat) := by
      simp only [natT, List.getElem?_map, List.getElem?_take, if_pos hi, getD_get codesL i 0 hi6, Option.map_some, Option.some.injEq] at hti
      exact hti.symm
    have hpl := place_lt script i (picksAt script i).1.length (by lia)
    have G₅ := G.mono (hg.trans S₅.keep)
    refine S₅.assign (t := .int (placeOf script i (picksAt script i).1.length : Nat)) (Ev.eq (Ev.mod (Ev.add (S₅.name (x := "code") rfl rfl rfl) (Ev.callB (id := "sum") (G₅.loadsB rfl (by decide +kernel) (by decide) rfl rfl rfl rfl rfl)
      (Evs.cons (Ev.eq (b := .list ((sliceT script (some (i : Int)) (some 12) (some 6)).map .int)) (Ev.slice (S₅.name (x := "script") q1 rfl rfl) (EvP.int (S₅.name (x := "i") rfl rfl rfl)) (EvP.int Ev.int) (EvP.int Ev.int) (by decide) (by simp; lia)) (congrArg T.list (slice_map ..))) Evs.nil rfl) rfl (fun _ => rfl) fun s E vs _ _ r => c_sum (A := A.deeper _) hh s E vs r))
      (Ev.plain (Ev.callB (id := "len") (G₅.loadsB rfl (by decide +kernel) (by decide) rfl rfl rfl rfl rfl) (Evs.cons (S₅.mutF (x := "left") (List.mem_cons_of_mem _ (List.mem_cons_of_mem _ (List.mem_singleton_self _))) rfl rfl) Evs.nil rfl) rfl (fun _ => rfl) fun s E vs _ _ r => c_len (by simp; lia) s E vs r) rfl) (by simp; lia)) (congrArg T.int ?_)) rfl (.inl rfl) ?_ rfl fun s₆ S₆ => ?_
    · rw [List.length_map]; unfold placeOf
      rw [Int.toNat_of_nonneg (Int.emod_nonneg _ (by lia))]
    · exact mu_ne3 (by decide) (by decide) (by decide)
    have hg1 := getD_get (picksAt script i).1 _ 0 hpl
    refine S₆.appendPops (p := "place") (k := placeOf script i (picksAt script i).1.length) (t := .str (nameOf ((picksAt script i).1.getD (placeOf script i (picksAt script i).1.length) 0))) (r := .int ((picksAt script i).1.getD (placeOf script i (picksAt script i).1.length) 0 : Nat)) rfl ?_ ?_ rfl rfl ?_ ?_ ?_ rfl rfl rfl rfl rfl rfl rfl rfl rfl (fun s₇ S₇ => ?_) rfl
    · rw [List.getElem?_map, hg1]; rfl
    · rw [natT, List.getElem?_map, hg1]; rfl
    · rw [List.length_map, picked_len]; lia
    · simp; lia
    · simp [natT]; lia
    refine wpAny_execs_nil ⟨rfl, upd (upd (upd σ₁ "i" (.int i)) "code" (.int (codesL.getD i 0 : Nat))) "place" (.int (placeOf script i (picksAt script i).1.length : Nat)), _, _, ⟨q1, a, b, c, ?_⟩, S₇⟩
    simp only [picksAt, List.map_append, natT, erase_map]
    rfl
  · rintro σ' μ' X' s' ⟨q1, a, b, c, rfl⟩ S'
    have e : (natT (codesL.take (howMany script))).length = howMany script := by simp [natT]; lia
    rw [e] at S'
    exact S'.retMut (List.mem_cons_self ..) rfl rfl lv fun v s'' rv kp => ⟨v, rfl, rv, kp⟩
end Mine
end

-- F18
section
open PySem PySem.W PyProof.Rows PySem.Calls
set_option linter.unusedVariables false
set_option maxRecDepth 100000
namespace Mine
section
variable {M : Model} {A : Around} {E : Value → Shared → Prop} {s : Shared}
/-- the frame of a comprehension that has cells of its own -/
theorem newEnv_cells {scope : Scope} {globals : Addr} {cl : List (Str × Addr)} {qual : Str} {env : Env} {Q : Env → Shared → Prop}
    (hQ : Q (newEnv scope s.heap.objs.size globals (cellsFrom (s.heap.objs.size + 1) scope.names cl) qual none .none (some env) builtinsNs)
      { s with heap := pushCells (s.heap.push { cls := .type "dict", data := .dict #[] }) scope.names }) :
    wpAny M A (newFunctionEnv scope globals cl [] qual none .none (some env)) Q E s := by
  simp only [newFunctionEnv, Option.isSome_some, if_true]
  refine wpAny_bind (wpAny_alloc ?_)
  refine wpAny_bind (wpAny_layCells _ (fun name kind cells => by cases hkc : kind == NameKind.cell <;> simp [hkc]) _ _ _ _ ?_)
  rw [show ({ s with heap := s.heap.push { cls := .type "dict", data := .dict #[] } } : Shared).heap.objs.size = s.heap.objs.size + 1 from Heap.size_push ..]
  rw [List.forIn_nil]
  exact wpAny_bind (wpAny_pure (wpAny_pure hQ))
end
end Mine
end

-- F19
section
open PySem PySem.W PyProof.Rows PySem.Calls
set_option linter.unusedVariables false
set_option maxRecDepth 100000
namespace Mine
/-- the names of a comprehension whose target is a cell -/
noncomputable def cenvI (scope : Scope) (x : Str) (cl : List (Str × Addr)) (C ci : Addr) (env : Env) : Env :=
  { scope := relabel scope env, locals := C, globals := env.globals, cells := (x, ci) :: cl, qual := env.qual, func := none, code := env.code, frame := env.frame, builtins := env.builtins }
inductive CompInv (N : Nat) (St : Nat → Heap → Prop) (D C : Addr) (Y : List Addr) (s₂ : Shared) (h₁ : Heap) (ts : List T) (f : T → T) (k : Nat) (s' : Shared) : Prop
  | mk (i : Nat) (H : Heap) (tk : Nat) (ys : List Value) (cv : Option Value) (e : s' = { s₂ with heap := H, toks := tk }) (hi : i ≤ N) (hk : k = N + 1 - i) (hst : St i H) (hacc : H.PlainList D (List.toArray ys)) (hys : Reps Y H ys ((ts.take i).map f)) (hcv : H.IsCell (C + 1) cv)
    (hns : H.Ns C (fun _ => none)) (hs : Sub h₁ H)
section
variable {prog : Program} {w : World} {A : Around} {env : Env} {X : List Addr} {h : Heap}
theorem ev_compI {elt iter : Expr} {x : Str} {px pos : Pos} {scope : Scope} {cl : List (Str × Addr)} {ts : List T} (f : T → T)
    (hclos : closureFor scope env = pure cl) (hkind : scope.kind = .function)
    (hnames : ∀ y ∈ scope.names, y.2 = .local → scope.names.lookup y.1 = some .local)
    (hcf : ∀ k, cellsFrom k scope.names cl = (x, k) :: cl) (hpc : ∀ h, pushCells h scope.names = h.push { cls := .type "cell", data := .cell none })
    (hx : (relabel scope env).names.lookup x = some .cell)
    (hs : ∀ x, foldedSetIterable iter env x = pure x) (src : Src prog w A env X h iter ts) (hlen : ts.length ≤ 1000)
    (elts : ∀ (C ci : Addr) (Y : List Addr) (h' : Heap) (v : Value) (t : T), t ∈ ts → (∀ a ∈ X, a ∈ Y) → (∀ a ∈ Y, a ∈ X ∨ h.get? a = none) → Sub h h' → h'.IsCell ci (some v) → Rep Y h' v t → Ev prog w A (cenvI scope x cl C ci env) Y h' elt (f t)) :
    Ev prog w A env X h (.ListComp elt [⟨.Name x px, iter, [], 0⟩] scope pos) (.list (ts.map f)) := fun s E q lv => by
  rw [eval_ListComp]
  refine wpAny_comprehension_free (use := none) rfl hs hclos hkind hnames (src s E _ q lv fun it s₂ hat => ?_)
  obtain ⟨h₁, I, fp, wr, P, St, rfl, W, hsz, hst, hfp, hlive, kp, sb₁, sb₂, hwr, hX, hP, rfl⟩ := hat
  refine wpAny_newObj_type (newEnv_cells ?_)
  rw [hcf, hpc]
  generalize hH2 : s₂.heap.push { cls := .type "list", dict := none, data := .seq ([] : List Value).toArray } = H2
  dsimp only
  have hC : H2.objs.size = s₂.heap.objs.size + 1 := by rw [← hH2, Heap.size_push]
  generalize hH4 : (H2.push { cls := .type "dict", data := .dict #[] }).push { cls := .type "cell", data := .cell none } = H4
  have old2 : Sub s₂.heap H2 := hH2 ▸ Sub.push _ _
  have old4 : Sub H2 H4 := hH4 ▸ Sub.trans (Sub.push _ _) (Sub.push _ _)
  have hcell0 : H4.IsCell (H2.objs.size + 1) none := by
    refine ⟨{ cls := .type "cell", data := .cell none }, ?_, rfl⟩
    rw [← hH4]
    have e := Heap.get?_push_size (H2.push { cls := .type "dict", data := .dict #[] }) (o := { cls := .type "cell", data := .cell none }) rfl
    rw [Heap.size_push] at e; exact e
  have hns0 : H4.Ns H2.objs.size (fun _ => none) := by
    rw [← hH4]
    exact (Heap.Ns.new H2 (.type "dict")).push _
  have hacc0 : H4.PlainList s₂.heap.objs.size #[] := ⟨_, old4 _ _ (hH2 ▸ Heap.get?_push_size _ rfl)⟩
  generalize hD : s₂.heap.objs.size = D at hacc0 hC
  generalize hCC : H2.objs.size = C at hns0 hcell0 hC
  have freshA : ∀ a, D ≤ a → s₂.heap.get? a = none := fun a ha => Heap.get?_none_of_le (hD ▸ ha)
  have h2n : ∀ a, D ≤ a → h.get? a = none := fun a ha => by
    cases z : h.get? a with
    | none => rfl
    | some o => have := freshA a ha; rw [sb₂ _ _ (sb₁ _ _ (q _ _ z))] at this; cases this
  have hIl : I < s₂.heap.objs.size := hfp I (W.sub I (List.mem_singleton_self _))
  have hI1 : h₁.get? I = none := hwr I (List.mem_singleton_self _)
  have hIh : h.get? I = none := by
    cases z : h.get? I with
    | none => rfl
    | some o => rw [sb₁ _ _ (q _ _ z)] at hI1; cases hI1
  have hDf : ∀ b ∈ fp, b < D := fun b m => hD ▸ hfp b m
  let Y : List Addr := I :: D :: C :: (C + 1) :: X
  have hYX : ∀ a ∈ X, a ∈ Y := fun a m => by simp [Y, m]
  have hYn : ∀ a ∈ Y, a ∈ X ∨ h.get? a = none := fun a m => by
    simp only [Y, List.mem_cons] at m
    rcases m with rfl | rfl | rfl | rfl | m
    · exact .inr hIh
    · exact .inr (h2n _ (Nat.le_refl _))
    · exact .inr (h2n _ (by rw [hC]; exact Nat.le_succ _))
    · exact .inr (h2n _ (by rw [hC]; exact Nat.le_succ_of_le (Nat.le_succ _)))
    · exact .inl m
  have hYn1 : ∀ a ∈ Y, a ∈ X ∨ h₁.get? a = none := fun a m => by
    have n1 : ∀ a, D ≤ a → h₁.get? a = none := fun a ha => by
      cases z : h₁.get? a with
      | none => rfl
      | some o => have := freshA a ha; rw [sb₂ _ _ z] at this; cases this
    simp only [Y, List.mem_cons] at m
    rcases m with rfl | rfl | rfl | rfl | m
    · exact .inr hI1
    · exact .inr (n1 _ (Nat.le_refl _))
    · exact .inr (n1 _ (by rw [hC]; exact Nat.le_succ _))
    · exact .inr (n1 _ (by rw [hC]; exact Nat.le_succ_of_le (Nat.le_succ _)))
    · exact .inl m
  have hst4 : St 0 H4 := W.frame _ _ _ hst fun b _ o e => old4 _ _ (old2 _ _ e)
  have loop : codeAny (model prog w) A (.compLoop (.ListComp elt [⟨.Name x px, iter, [], 0⟩] scope pos) 0 (.ref I) (.ref D) (cenvI scope x cl C (C + 1) env))
      (compPost (model prog w) A E none (fun v s' => Rep X s'.heap v (.list (ts.map f)) ∧ Keeps s s') (.ref D) C) { s₂ with heap := H4 } := by
    have hDC' : D < C := hC ▸ Nat.lt_succ_self _
    have hlt1 : ∀ b o, h₁.get? b = some o → b < D := fun b o e => hD ▸ Heap.lt_size (sb₂ b o e)
    have hID : I < D := hD ▸ hIl
    have hCi : C ≠ I := Nat.ne_of_gt (Nat.lt_trans hID hDC')
    have hci : C + 1 ≠ I := Nat.ne_of_gt (Nat.lt_succ_of_lt (Nat.lt_trans hID hDC'))
    have hDi : D ≠ I := Nat.ne_of_gt hID
    have hDC : D ≠ C := Nat.ne_of_lt hDC'
    have hDci : D ≠ C + 1 := Nat.ne_of_lt (Nat.lt_succ_of_lt hDC')
    have hCci : C ≠ C + 1 := Nat.ne_of_lt (Nat.lt_succ_self _)
    have hfpD : ∀ b ∈ fp, b ≠ D ∧ b ≠ C + 1 := fun b m => ⟨Nat.ne_of_lt (hDf b m), Nat.ne_of_lt (Nat.lt_succ_of_lt (Nat.lt_trans (hDf b m) hDC'))⟩
    have hh1n : ∀ b o, h₁.get? b = some o → b ≠ I ∧ b ≠ D ∧ b ≠ C + 1 := fun b o e1 => ⟨(fun z => by subst z; exact nomatch hI1.symm.trans e1), Nat.ne_of_lt (hlt1 b o e1), Nat.ne_of_lt (Nat.lt_succ_of_lt (Nat.lt_trans (hlt1 b o e1) hDC'))⟩
    have inv0 : CompInv ts.length St D C Y s₂ h₁ ts f (ts.length + 1) { s₂ with heap := H4 } := ⟨0, H4, s₂.toks, [], none, rfl, Nat.zero_le _, rfl, hst4, hacc0, .nil, hcell0, hns0, Sub.trans sb₂ (Sub.trans old2 old4)⟩
    clear hst hst4 hacc0 hcell0 hns0 old2 old4 sb₂ hfp hwr hIl hDf hD hC freshA h2n hIh hH2 hH4 hCC hID
    refine codeAny_compLoop_tests (CompInv ts.length St D C Y s₂ h₁ ts f) ?_ (ts.length + 1) inv0
    clear inv0
    rintro k s' ⟨i, H, tk, ys, cv, rfl, hi, rfl, hst', hacc', hys, hcv, hns', hs1⟩
    have hyl : ys.length ≤ 1000 := by have := hys.length; rw [this]; simp; lia
    by_cases hlt : i < ts.length
    · refine W.item i _ _ _ hlt hst' fun v h' tk' hPv hst₁ hk₁ => ?_
      obtain ⟨t, ht, rv⟩ := hP i v hPv
      have hk₁' : ∀ b o, b ≠ I → H.get? b = some o → h'.get? b = some o := fun b o nb e => hk₁ b o (fun m => nb (List.mem_singleton.mp m)) e
      have hcv' : h'.IsCell (C + 1) cv := let ⟨o, e, r⟩ := hcv; ⟨o, hk₁' _ _ hci e, r⟩
      refine wpAny_assign_Name (wpAny_storeName_cell (env := cenvI scope x cl C (C + 1) env) hkind hx (by simp [cenvI]) hcv' fun h'' hc'' hs'' => ?_)
      have up : ∀ b o, b ≠ I → b ≠ C + 1 → H.get? b = some o → h''.get? b = some o := fun b o n1 n2 e => hs''.extBut b o n2 (hk₁' b o n1 e)
      have s1'' : Sub h₁ h'' := fun b o e => up b o (hh1n b o e).1 (hh1n b o e).2.2 (hs1 b o e)
      have hst₂ : St (i + 1) h'' := W.frame _ _ _ hst₁ fun b hb o e => hs''.extBut b o (hfpD b hb).2 e
      have hacc₂ : h''.PlainList D ys.toArray := hacc'.at fun o e => up _ o hDi hDci e
      have hns₂ : h''.Ns C (fun _ => none) := hns'.at' fun o e => up _ o hCi hCci e
      have lvY : Live Y h'' := fun a m => by
        simp only [Y, List.mem_cons] at m
        rcases m with rfl | rfl | rfl | rfl | m
        · exact hlive _ _ hst₂ _ (W.sub _ (List.mem_singleton_self _))
        · obtain ⟨n, e⟩ := hacc₂; exact ⟨_, e⟩
        · obtain ⟨o, _, _, e, _⟩ := hns₂; exact ⟨_, e⟩
        · obtain ⟨o, e, _⟩ := hc''; exact ⟨_, e⟩
        · obtain ⟨o, e⟩ := lv a m; exact ⟨o, s1'' _ _ (sb₁ _ _ e)⟩
      refine wpAny_tests_nil ?_
      rw [if_pos rfl]
      refine wpAny_mono (elts C (C + 1) Y h'' v t (List.mem_of_getElem? ht) hYX hYn (Sub.trans q (Sub.trans sb₁ s1'')) hc'' ((rv.weaken hYn1).mono s1'') _ _ (Sub.refl _) lvY) (fun y s₄ h₄ => ?_) fun _ _ e => e
      obtain ⟨ry, h₄, tk₄, rfl, hk₄⟩ := h₄
      refine wpAny_list_append_plain (hsz := by simp only [List.size_toArray]; exact Nat.le_trans hyl (by decide)) (hacc₂.at fun o e => hk₄ _ o e) fun h₅ hl₅ hs₅ => ?_
      have apY : ∀ b o, b ∉ Y → h''.get? b = some o → h₅.get? b = some o := fun b o nb e => hs₅.extBut b o (fun z => nb (by simp [Y, z])) (hk₄ b o e)
      refine ⟨ts.length + 1 - (i + 1), Nat.sub_lt_sub_left (Nat.lt_succ_of_lt hlt) (Nat.lt_succ_self _), i + 1, h₅, tk₄, ys ++ [y], some v, rfl, hlt, rfl, ?_, by simpa using hl₅, ?_, (hc''.keeps hk₄).sameBut hs₅ hDci.symm, (hns₂.keeps hk₄).sameBut hs₅ hDC.symm, fun b o e => hs₅.extBut b o (hh1n b o e).2.1 (hk₄ _ _ (s1'' b o e))⟩
      · exact W.frame _ _ _ hst₂ fun b hb o e => hs₅.extBut b o (hfpD b hb).1 (hk₄ b o e)
      · rw [List.take_succ, ht, List.map_append]
        refine Reps.append ?_ (.cons (ry.apart fun b o nb e => hs₅.extBut b o (fun z => nb (by simp [Y, z])) e) .nil)
        exact (hys.apart fun b o nb e => up b o (fun z => nb (by simp [Y, z])) (fun z => nb (by simp [Y, z])) e).apart apY
    · have hin : i = ts.length := by lia
      subst hin
      refine W.done _ _ _ hst' fun h' tk' hk₁ => ?_
      have hk₁' : ∀ b o, b ≠ I → H.get? b = some o → h'.get? b = some o := fun b o nb e => hk₁ b o (fun m => nb (List.mem_singleton.mp m)) e
      refine ⟨_, hns'.at' fun o e => hk₁' _ o hCi e, fun h₆ hs₆ => ⟨?_, ?_⟩⟩
      · rw [List.take_length] at hys
        refine .list (fun m => ?_) ((hacc'.at fun o e => hk₁' _ o hDi e).at fun o e => hs₆.extBut _ o hDC e) (((hys.apart fun b o nb e => hk₁' b o (fun z => nb (by simp [Y, z])) e).apart fun b o nb e => hs₆.extBut b o (fun z => nb (by simp [Y, z])) e).weaken fun a m => .inl (hYX a m))
        obtain ⟨o, e⟩ := lv _ m
        exact (hh1n _ _ (sb₁ _ _ e)).2.1 rfl
      · obtain ⟨_, _, e2, _⟩ := kp
        subst e2
        refine ⟨h₆, tk', rfl, fun b o e => hs₆.extBut b o (Nat.ne_of_lt (Nat.lt_trans (hlt1 b o (sb₁ _ _ e)) hDC')) (hk₁' b o (hh1n b o (sb₁ _ _ e)).1 (hs1 _ _ (sb₁ _ _ e)))⟩
  exact codeAny_compStart_list loop (W.self 0 _ _ _ hst4 loop)
end
end Mine
end

-- F20
section
open PySem PySem.W PyProof.Rows PySem.Calls
set_option linter.unusedVariables false
set_option maxRecDepth 100000
namespace Mine
section
variable {prog : Program} {w : World} {A : Around} {env : Env} {X : List Addr} {h : Heap}
/-- d[e], d a dict with texts as keys -/
theorem ev_dict {f : Str} {np pos : Pos} {slice : Expr} {d : Addr} {kvs : List (Str × Value)} {k : Str} {n : Int} {tk : Tok} (l : Loads env h f (.ref d)) (hd : h.DictOf (PySem.strKind prog w) d kvs) (hb : Ev prog w A env X h slice (.str k)) (hv : valueAt kvs k = some (.int n tk)) :
    Ev prog w A env X h (.Subscript (.Name f np) slice pos) (.int n) := fun s E q lv => by
  refine Subscript_ (l _ _ _ _ _ _ q (wpAny_mono (hb s E q lv) (fun v s₂ h₂ => ?_) fun _ _ e => e))
  obtain ⟨rv, kp⟩ := h₂
  obtain ⟨ops, hs⟩ := subscripted_false slice (.ref d) v
  obtain ⟨_, rfl⟩ := rep_str rv
  have hd₂ : s₂.heap.DictOf (PySem.strKind prog w) d kvs := let ⟨o, es, ep, e, r⟩ := hd; ⟨o, es, ep, Kp.sub kp _ _ (q _ _ e), r⟩
  exact tail_any hd₂.typeIs slot_dict_getitem.lookup (wpAny_getItem_of (knd := PySem.strKind prog w) (strKind_is _ _ _ _) hd₂.mapOf hv ⟨.int _ _, Kp.trans kp (Kp.toks _ _)⟩) hs
end
end Mine
end

-- A12
section
open PySem PySem.W PyProof.Rows PySem.Calls
set_option linter.unusedVariables false
set_option maxRecDepth 100000
set_option maxHeartbeats 4000000
namespace Mine
noncomputable def ents (w : World) : List DictEntry := match (KK w).lookup 22 with
  | some ⟨_, _, .dict es _, _⟩ => es.toList
  | _ => []
noncomputable def keyS : Value → Str
  | .str x _ => x
  | _ => ""
theorem pairs_of {prog : Program} {w : World} : ∀ l : List DictEntry, (∀ e ∈ l, ∃ x t, e.key = .str x t) → Pairs (PySem.strKind prog w) l (l.map fun e => (keyS e.key, e.val))
  | [], _ => .nil
  | e :: l, h => by
    obtain ⟨x, t, hx⟩ := h e (List.mem_cons_self ..)
    refine .cons ?_ rfl (pairs_of l fun e m => h e (List.mem_cons_of_mem _ m))
    show (PySem.strKind prog w).is (keyS e.key) e.key = true
    rw [hx]; exact strKind_is _ _ _ _
noncomputable def EntOk (w : World) (e : DictEntry) : Prop := ∃ x t n u, e.key = .str x t ∧ e.val = .int n u ∧ e.hash = hashStr w x
noncomputable def shapeS (e : DictEntry) : Bool := match e.key, e.val with
  | .str _ _, .int _ _ => true
  | _, _ => false
theorem ents_shape (w : World) : (ents w).all shapeS = true := rfl
theorem ents_hash (w : World) : (ents w).map (·.hash) = (ents w).map fun e => hashStr w (keyS e.key) := rfl
theorem ents_all (w : World) : ∀ e ∈ ents w, EntOk w e := fun e m => by
  have h1 := List.all_eq_true.mp (ents_shape w) e m
  have h2 := List.map_inj_left.mp (ents_hash w) e m
  obtain ⟨h, k, v⟩ := e
  cases k with
  | str x t => cases v with
    | int n u => exact ⟨_, _, _, _, rfl, rfl, h2⟩
    | _ => exact absurd h1 (fun z => Bool.false_ne_true z)
  | _ => exact absurd h1 (fun z => Bool.false_ne_true z)
noncomputable def numV : Value → Int
  | .int n _ => n
  | _ => 0
noncomputable abbrev kvs22 (w : World) : List (Str × Value) := (ents w).map fun e => (keyS e.key, e.val)
noncomputable def tok22 : List (Str × Int) := [(("!" : Str), (54 : Int)), (("!=" : Str), (28 : Int)), (("%" : Str), (24 : Int)), (("%=" : Str), (40 : Int)), (("&" : Str), (19 : Int)), (("&=" : Str), (41 : Int)), (("(" : Str), (7 : Int)), ((")" : Str), (8 : Int)), (("*" : Str), (16 : Int)), (("**" : Str), (35 : Int)), (("**=" : Str), (46 : Int)), (("*=" : Str), (38 : Int)), (("+" : Str), (14 : Int)), (("+=" : Str), (36 : Int)), (("," : Str), (12 : Int)), (("-" : Str), (15 : Int)), (("-=" : Str), (37 : Int)), (("->" : Str), (51 : Int)), (("." : Str), (23 : Int)), (("..." : Str), (52 : Int)), (("/" : Str), (17 : Int)), (("//" : Str), (47 : Int)), (("//=" : Str), (48 : Int)), (("/=" : Str), (39 : Int)), ((":" : Str), (11 : Int)), ((":=" : Str), (53 : Int)), ((";" : Str), (13 : Int)), (("<" : Str), (20 : Int)), (("<<" : Str), (33 : Int)), (("<<=" : Str), (44 : Int)), (("<=" : Str), (29 : Int)), (("=" : Str), (22 : Int)), (("==" : Str), (27 : Int)), ((">" : Str), (21 : Int)), ((">=" : Str), (30 : Int)), ((">>" : Str), (34 : Int)), ((">>=" : Str), (45 : Int)), (("@" : Str), (49 : Int)), (("@=" : Str), (50 : Int)), (("[" : Str), (9 : Int)), (("]" : Str), (10 : Int)), (("^" : Str), (32 : Int)), (("^=" : Str), (43 : Int)), (("{" : Str), (25 : Int)), (("|" : Str), (18 : Int)), (("|=" : Str), (42 : Int)), (("}" : Str), (26 : Int)), (("~" : Str), (31 : Int))]
theorem kvs_tok (w : World) : (kvs22 w).map (fun kv => (kv.1, numV kv.2)) = tok22 := rfl
theorem tok_nodup : (tok22.map (·.1)).Nodup := by decide +kernel
theorem tok_find : ∀ n : Nat, n < 55 → 7 ≤ n → (tok22.find? fun kv => kv.1 = nameOf n).map (·.2) = some (n : Int) := by decide +kernel
theorem dict22 (w : World) {h : Heap} (X : (KK w).In h) : h.DictOf (PySem.strKind pr w) 22 (kvs22 w) := by
  have hall := ents_all w
  refine ⟨_, _, _, X 22 _ rfl, ⟨rfl, rfl, rfl⟩, rfl, fun e he => ?_, pairs_of (ents w) fun e m => ?_, ?_⟩
  · obtain ⟨x, t, n, u, e1, e2, e3⟩ := hall e (Array.mem_toList_iff.mpr he)
    exact ⟨x, by rw [e1]; exact strKind_is _ _ _ _, e3⟩
  · obtain ⟨x, t, n, u, e1, e2, e3⟩ := hall e m
    exact ⟨x, t, e1⟩
  · have := tok_nodup
    rw [← kvs_tok w, List.map_map] at this
    exact this
theorem value22 (w : World) (n : Nat) (h1 : n < 55) (h2 : 7 ≤ n) : ∃ tk, valueAt (kvs22 w) (nameOf n) = some (.int n tk) := by
  have hf := tok_find n h1 h2
  rw [← kvs_tok w, List.find?_map, Option.map_map] at hf
  obtain ⟨kv, hk, hn⟩ := Option.map_eq_some_iff.mp hf
  have hm : kv ∈ kvs22 w := List.mem_of_find?_eq_some hk
  obtain ⟨e, me, rfl⟩ := List.mem_map.mp hm
  obtain ⟨x, t, m, u, e1, e2, e3⟩ := ents_all w e me
  refine ⟨u, ?_⟩
  unfold valueAt
  have hk' : (kvs22 w).find? (fun kv => decide (kv.1 = nameOf n)) = some (keyS e.key, e.val) := hk
  rw [hk']
  simp only [Option.map_some, e2] at hn ⊢
  have : m = n := hn
  rw [this]
end Mine
end

-- F21
section
open PySem PySem.W PyProof.Rows PySem.Calls
set_option linter.unusedVariables false
set_option maxRecDepth 100000
namespace Mine
mutual
noncomputable def pyOf : T → PyData
  | .none => .none
  | .bool b => .bool b
  | .int i => .int i
  | .str x => .str x
  | .list l => .list (pysOf l)
  | .tup l => .tuple (pysOf l)
noncomputable def pysOf : List T → List PyData
  | [] => []
  | t :: l => pyOf t :: pysOf l
end
mutual
theorem Rep.reads {X : List Addr} {h : Heap} {v : Value} {t : T} : Rep X h v t → ∃ as, Reads h v (pyOf t) as
  | .none => ⟨_, .none⟩
  | .bool b => ⟨_, .bool b⟩
  | .int i t => ⟨_, .int i t⟩
  | .str x t => ⟨_, .str x t⟩
  | .list n l r => by
    obtain ⟨as, hr⟩ := Reps.reads r
    obtain ⟨o, ho, hc, k, hd⟩ := l.isList
    exact ⟨_, .list ho hc hd hr⟩
  | .tup n l r => by
    obtain ⟨as, hr⟩ := Reps.reads r
    obtain ⟨o, ho, hc, k, hd⟩ := l
    exact ⟨_, .tuple ho hc hd hr⟩
theorem Reps.reads {X : List Addr} {h : Heap} {vs : List Value} {ts : List T} : Reps X h vs ts → ∃ as, ReadsAll h vs (pysOf ts) as
  | .nil => ⟨_, .nil⟩
  | .cons a r => by
    obtain ⟨x, hx⟩ := Rep.reads a
    obtain ⟨y, hy⟩ := Reps.reads r
    exact ⟨_, .cons hx hy⟩
end
section
variable {prog : Program} {w : World} {A : Around} {env : Env} {X : List Addr} {h : Heap}
theorem op_same {t : T} (ht : SeqAt.shaped (pyOf t) = true) (hu : A.units + 64 < cLine) (s : Shared) (E : Value → Shared → Prop) (u v : Value) (_ : Sub h s.heap) (_ : Live X s.heap) (ru : Rep X s.heap u t) (rv : Rep X s.heap v t) :
    wpAny (model prog w) A (compareOp .Eq u v) (fun v s' => v = .bool true ∧ Keeps s s') E s := by
  obtain ⟨as, hx⟩ := ru.reads
  obtain ⟨bs, hy⟩ := rv.reads
  refine eq_dataH hx hy ht ht hu ⟨?_, Kp.refl s⟩
  rw [PySem.SeqAt.eqv_refl]
  unfold SeqAt.shaped at ht
  exact (Bool.and_eq_true_iff.mp ht).1
end
theorem shaped_ints (l : List Int) : SeqAt.shaped (pyOf (.list (l.map .int))) = true := by
  have e : pysOf (l.map .int) = l.map PyData.int := by
    induction l with
    | nil => rfl
    | cons a l ih => simp [pysOf, pyOf, ih]
  rw [pyOf, e]
  exact ke_shaped_ints l
theorem shaped_rows (l : List (List Int)) : SeqAt.shaped (pyOf (.list (l.map fun r => .list (r.map .int)))) = true := by
  have e : ∀ l : List Int, pysOf (l.map .int) = l.map PyData.int := fun l => by
    induction l with
    | nil => rfl
    | cons a l ih => simp [pysOf, pyOf, ih]
  have c : ∀ l : List (List Int), PyData.canLayAll0 (pysOf (l.map fun r => .list (r.map .int))) = true ∧ PyData.depthAll (pysOf (l.map fun r => .list (r.map .int))) ≤ 1 := fun l => by
    induction l with
    | nil => exact ⟨rfl, by decide⟩
    | cons a l ih => simp [pysOf, pyOf, e, PyData.canLayAll0, PyData.canLay0, PyData.depthAll, PyData.depth, ke_canLayAll0, ke_depthAll, ih]
  unfold SeqAt.shaped
  rw [pyOf]
  have h1 : PyData.canLay0 (.list (pysOf (l.map fun r => .list (r.map .int)))) = true := by simp only [PyData.canLay0]; exact (c l).1
  have h2 : PyData.depth (.list (pysOf (l.map fun r => .list (r.map .int)))) ≤ 64 := by
    have := (c l).2
    simp only [PyData.depth]; lia
  rw [h1, Bool.true_and]
  exact decide_eq_true h2
end Mine
end

-- L1
section
open PySem PySem.W PyProof.Rows PySem.Calls
set_option linter.unusedVariables false
namespace Mine
/-- a class of f in which B has more than A -/
theorem pigeon {α β : Type} [DecidableEq β] (f : α → β) : ∀ (k : Nat) (A B : List α), B.length ≤ k → A.length < B.length → ∃ u ∈ B, A.countP (fun a => f a = f u) < B.countP (fun a => f a = f u)
  | 0, A, B, h, h' => by lia
  | k + 1, A, [], h, h' => by simp at h'
  | k + 1, A, b :: B, h, h' => by
    by_cases hc : A.countP (fun a => f a = f b) < (b :: B).countP (fun a => f a = f b)
    · exact ⟨b, List.mem_cons_self .., hc⟩
    · have hA := List.length_eq_countP_add_countP (fun a => decide (f a = f b)) (l := A)
      have hB := List.length_eq_countP_add_countP (fun a => decide (f a = f b)) (l := b :: B)
      have eA : (A.filter fun a => !decide (f a = f b)).length = A.countP (fun a => !decide (f a = f b)) := List.countP_eq_length_filter.symm
      have eB : ((b :: B).filter fun a => !decide (f a = f b)).length = (b :: B).countP (fun a => !decide (f a = f b)) := List.countP_eq_length_filter.symm
      have hb : 0 < (b :: B).countP (fun a => decide (f a = f b)) := List.countP_pos_iff.mpr ⟨b, List.mem_cons_self .., by simp⟩
      simp only [Bool.decide_eq_true, decide_not] at *
      obtain ⟨u, hu, hlt⟩ := pigeon f k (A.filter fun a => !decide (f a = f b)) ((b :: B).filter fun a => !decide (f a = f b)) (by lia) (by lia)
      obtain ⟨hu1, hu2⟩ := List.mem_filter.mp hu
      have hne : f u ≠ f b := by simpa using hu2
      have hfl : ∀ L : List α, (L.filter fun a => !decide (f a = f b)).countP (fun a => decide (f a = f u)) = L.countP (fun a => decide (f a = f u)) := fun L => by
        rw [List.countP_filter]
        apply List.countP_congr
        intro a _
        simp only [Bool.and_eq_true, Bool.not_eq_true', decide_eq_false_iff_not, decide_eq_true_eq]
        constructor
        · exact fun h => h.1
        · exact fun h => ⟨h, fun e => hne (h.symm.trans e)⟩
      rw [hfl, hfl] at hlt
      exact ⟨u, hu1, hlt⟩

/-- three classes, one within another -/
theorem descend {α : Type} (f g k : α → Int) (hgf : ∀ a b, g a = g b → f a = f b) (hkg : ∀ a b, k a = k b → g a = g b) (A B : List α) (h : A.length < B.length) :
    ∃ u ∈ B, A.countP (fun a => f a = f u) < B.countP (fun a => f a = f u) ∧ A.countP (fun a => g a = g u) < B.countP (fun a => g a = g u) ∧ A.countP (fun a => k a = k u) < B.countP (fun a => k a = k u) := by
  have sel : ∀ (F G : α → Int), (∀ a b, G a = G b → F a = F b) → ∀ u v, F u = F v → ∀ L : List α, (L.filter fun a => decide (F a = F v)).countP (fun a => decide (G a = G u)) = L.countP (fun a => decide (G a = G u)) := fun F G hFG u v e L => by
    rw [List.countP_filter]
    apply List.countP_congr
    intro a _
    simp only [Bool.and_eq_true, decide_eq_true_eq]
    exact ⟨fun h => h.1, fun h => ⟨h, (hFG _ _ h).trans e⟩⟩
  have cl : ∀ (F : α → Int) (L : List α) v, (L.filter fun a => decide (F a = F v)).length = L.countP (fun a => decide (F a = F v)) := fun F L v => List.countP_eq_length_filter.symm
  obtain ⟨u, hu, h1⟩ := pigeon f _ A B (Nat.le_refl _) h
  rw [← cl f A, ← cl f B] at h1
  obtain ⟨v, hv, h2⟩ := pigeon g _ _ _ (Nat.le_refl _) h1
  obtain ⟨hv1, hv2⟩ := List.mem_filter.mp hv
  have fv : f v = f u := by simpa using hv2
  rw [sel f g hgf v u fv, sel f g hgf v u fv] at h2
  have h2' := h2
  rw [← cl g A, ← cl g B] at h2
  obtain ⟨z, hz, h3⟩ := pigeon k _ _ _ (Nat.le_refl _) h2
  obtain ⟨hz1, hz2⟩ := List.mem_filter.mp hz
  have gz : g z = g v := by simpa using hz2
  rw [sel g k hkg z v gz, sel g k hkg z v gz] at h3
  refine ⟨z, hz1, ?_, ?_, h3⟩
  · rw [cl f A, cl f B] at h1
    rw [(hgf _ _ gz).trans fv]; exact h1
  · rw [gz]; exact h2'

/-- sums by a set of indices -/
noncomputable def rowS (D : Nat → Nat → Int) (i : Nat) (b : Nat → Bool) : Nat → Int
  | 0 => 0
  | k + 1 => rowS D i b k + if b k then D i k else 0
noncomputable def perS (D : Nat → Nat → Int) (b : Nat → Bool) : Nat → Int
  | 0 => 0
  | n + 1 => perS D b n + if b n then rowS D n b n else 0
theorem rowS_congr (D : Nat → Nat → Int) (i : Nat) {b b' : Nat → Bool} : ∀ n, (∀ j, j < n → b j = b' j) → rowS D i b n = rowS D i b' n
  | 0, _ => rfl
  | n + 1, h => by simp only [rowS]; rw [rowS_congr D i n fun j hj => h j (by lia), h n (by lia)]
theorem perS_congr (D : Nat → Nat → Int) {b b' : Nat → Bool} : ∀ n, (∀ j, j < n → b j = b' j) → perS D b n = perS D b' n
  | 0, _ => rfl
  | n + 1, h => by simp only [perS]; rw [perS_congr D n fun j hj => h j (by lia), h n (by lia), rowS_congr D n n fun j hj => h j (by lia)]
theorem rowS_add (D : Nat → Nat → Int) (i : Nat) {b b' : Nat → Bool} {c : Nat} (hc : b c = false) (hc' : b' c = true) : ∀ n, c < n → (∀ j, j < n → j ≠ c → b' j = b j) → rowS D i b' n = rowS D i b n + D i c
  | 0, h, _ => by lia
  | n + 1, h, hb => by
    simp only [rowS]
    by_cases e : c = n
    · subst e
      rw [rowS_congr D i c fun j hj => hb j (by lia) (by lia), hc, hc']
      simp
    · rw [rowS_add D i hc hc' n (by lia) fun j hj => hb j (by lia), hb n (by lia) (by lia)]
      lia
theorem perS_add (D : Nat → Nat → Int) (hD : ∀ i j, D i j = D j i) {b b' : Nat → Bool} {c : Nat} (hc : b c = false) (hc' : b' c = true) : ∀ n, c < n → (∀ j, j < n → j ≠ c → b' j = b j) → perS D b' n = perS D b n + rowS D c b n
  | 0, h, _ => by lia
  | n + 1, h, hb => by
    simp only [perS, rowS]
    by_cases e : c = n
    · subst e
      rw [perS_congr D c fun j hj => hb j (by lia) (by lia), rowS_congr D c c fun j hj => hb j (by lia) (by lia), hc, hc']
      simp
    · rw [perS_add D hD hc hc' n (by lia) fun j hj => hb j (by lia), hb n (by lia) (by lia), rowS_add D n hc hc' n (by lia) fun j hj => hb j (by lia), hD c n]
      split <;> lia

theorem getD_appL {α : Type} (l r : List α) (i : Nat) (d : α) (h : i < l.length) : (l ++ r).getD i d = l.getD i d := by
  rw [List.getD_eq_getElem?_getD, List.getD_eq_getElem?_getD, List.getElem?_append_left h]
theorem getD_appR {α : Type} (l r : List α) (i : Nat) (d : α) (h : l.length ≤ i) : (l ++ r).getD i d = r.getD (i - l.length) d := by
  rw [List.getD_eq_getElem?_getD, List.getD_eq_getElem?_getD, List.getElem?_append_right h]
/-- rims are the sums of the masks -/
theorem rimsIn_low (row : List Int) (top : Nat) (acc : List Int) (k i : Nat) (h : i < acc.length) : (rimsIn row top acc k).getD i 0 = acc.getD i 0 := by
  induction k with
  | zero => rfl
  | succ k ih =>
    rw [rimsIn_succ, getD_appL _ _ _ _ (by rw [rimsIn_length]; lia), ih]
theorem rimsIn_high (row : List Int) (top : Nat) (acc : List Int) (k i : Nat) (h : i < k) (hi : k ≤ acc.length) : (rimsIn row top acc k).getD (acc.length + i) 0 = acc.getD i 0 + pairSum row top i := by
  induction k with
  | zero => lia
  | succ k ih =>
    rw [rimsIn_succ]
    by_cases e : i = k
    · subst e
      rw [getD_appR _ _ _ _ (by rw [rimsIn_length]; lia), rimsIn_length, Nat.sub_self, rimsIn_low _ _ _ _ _ (by lia)]
      rfl
    · rw [getD_appL _ _ _ _ (by rw [rimsIn_length]; lia)]
      exact ih (by lia) (by lia)
theorem bitOn_N (m c : Nat) : bitOn (m : Int) c = bitN m c := by
  unfold bitOn bitN
  rw [bit_cast]
  rcases bit_cases m c with h | h <;> rw [h] <;> rfl
theorem rng_succ (n : Nat) : rng 0 (n + 1) = rng 0 n ++ [(n : Int)] := by
  unfold rng; rw [List.range_succ, List.map_append]; simp
theorem pairSum_row (D : Nat → Nat → Int) (i : Nat) (row : List Int) (m : Nat) : ∀ n, (∀ j, j < n → row.getD j 0 = D i j) → pairSum row n (m : Int) = rowS D i (bitN m) n
  | 0, _ => rfl
  | n + 1, h => by
    have ih := pairSum_row D i row m n fun j hj => h j (by lia)
    unfold pairSum at ih ⊢
    rw [rng_succ, List.filter_append, List.map_append, List.sum_append, ih, rowS, ← h n (by lia)]
    congr 1
    rw [List.filter_cons, List.filter_nil, Int.toNat_natCast, bitOn_N]
    split <;> simp
theorem bit_low (m c n : Nat) (h : m < 2 ^ n) (hc : n ≤ c) : bitN m c = false := by
  unfold bitN
  have : m < 2 ^ c := Nat.lt_of_lt_of_le h (Nat.pow_le_pow_right (by decide) hc)
  rw [Nat.div_eq_of_lt this]; rfl
theorem bit_top (m c n : Nat) (hc : c < n) : bitN (2 ^ n + m) c = bitN m c := by
  unfold bitN
  have e : 2 ^ n = 2 ^ c * (2 * 2 ^ (n - c - 1)) := by
    rw [← Nat.pow_succ', ← Nat.pow_add]; congr 1; lia
  rw [e, Nat.mul_add_div (Nat.pow_pos (by decide)), Nat.mul_add_mod]
theorem bit_self (m n : Nat) (h : m < 2 ^ n) : bitN (2 ^ n + m) n = true := by
  unfold bitN
  have e : (2 ^ n + m) / 2 ^ n = 1 := by
    rw [Nat.add_div_left _ (Nat.pow_pos (by decide)), Nat.div_eq_of_lt h]
  rw [e]; rfl
theorem rims_per (D : Nat → Nat → Int) (far : List (List Int)) : ∀ n, (∀ i, i < n → ∀ j, j < i → (far.getD i []).getD j 0 = D i j) → ∀ m, m < 2 ^ n → rimOf (rimsAt far n) m = perS D (bitN m) n
  | 0, _, m, hm => by
    have : m = 0 := by simpa using hm
    subst this; rfl
  | n + 1, h, m, hm => by
    have ih := rims_per D far n fun i hi => h i (by lia)
    have hl := rimsAt_length far n
    unfold rimOf at ih ⊢
    rw [rimsAt_succ, perS]
    rw [Nat.pow_succ] at hm
    by_cases hlt : m < 2 ^ n
    · rw [rimsIn_low _ _ _ _ _ (by lia), ih m hlt, bit_low m n n hlt (Nat.le_refl _)]
      simp
    · obtain ⟨k, rfl⟩ : ∃ k, m = 2 ^ n + k := ⟨m - 2 ^ n, by lia⟩
      have hk : k < 2 ^ n := by lia
      have e := rimsIn_high (far.getD n []) n (rimsAt far n) (2 ^ n) k hk (by lia)
      rw [hl] at e
      rw [e, ih k hk, pairSum_row D n _ k n fun j hj => h n (by lia) j hj, bit_self k n hk]
      rw [perS_congr D n fun j hj => (bit_top k j n hj).symm, rowS_congr D n n fun j hj => (bit_top k j n hj).symm]
      simp
end Mine
end

-- L2
section
open PySem PySem.W PyProof.Rows PySem.Calls
set_option linter.unusedVariables false
set_option maxRecDepth 100000
namespace Mine
theorem rowS_sum (D : Nat → Nat → Int) (i : Nat) (b : Nat → Bool) : ∀ n, rowS D i b n = (((List.range n).filter b).map (D i)).sum
  | 0 => rfl
  | n + 1 => by
    rw [rowS, rowS_sum D i b n, List.range_succ, List.filter_append, List.map_append, List.sum_append]
    congr 1
    rw [List.filter_cons, List.filter_nil]
    split <;> simp
theorem sum_classes (D : Nat → Nat → Int) (c : Nat) (f g k : Nat → Int) (hD : ∀ i j, D i j = (if f j = f i then 0 else (c : Int)) + (if g j = g i then 0 else 2) + (if k j = k i then 0 else 2)) (u : Nat) : ∀ L : List Nat,
    (L.map (D u)).sum = (c : Int) * ((L.length : Int) - (L.countP (fun a => f a = f u) : Int)) + 2 * ((L.length : Int) - (L.countP (fun a => g a = g u) : Int)) + 2 * ((L.length : Int) - (L.countP (fun a => k a = k u) : Int))
  | [] => by simp
  | a :: L => by
    rw [List.map_cons, List.sum_cons, sum_classes D c f g k hD u L, hD, List.length_cons, List.countP_cons, List.countP_cons, List.countP_cons]
    simp only [decide_eq_true_eq]
    have e : ∀ (P : Prop) [Decidable P] (x y : Nat), (c : Int) * (((x + 1 : Nat) : Int) - ((y + if P then 1 else 0 : Nat) : Int)) = (c : Int) * ((x : Int) - (y : Int)) + if P then 0 else (c : Int) := fun P _ x y => by
      split
      · have e1 : ((x + 1 : Nat) : Int) - ((y + 1 : Nat) : Int) = x - y := by lia
        rw [e1, Int.add_zero]
      · have e1 : ((x + 1 : Nat) : Int) - ((y + 0 : Nat) : Int) = x - y + 1 := by lia
        rw [e1, Int.mul_add, Int.mul_one]
    rw [e]
    generalize (c : Int) * _ = z
    generalize (if f a = f u then (0 : Int) else (c : Int)) = z'
    split <;> split <;> lia
theorem count_one (k : Nat → Int) (u : Nat) : ∀ L : List Nat, L.Nodup → (∀ a ∈ L, k a = k u → a = u) → L.countP (fun a => k a = k u) ≤ 1
  | [], _, _ => by simp
  | a :: L, hn, h => by
    obtain ⟨h1, h2⟩ := List.nodup_cons.mp hn
    rw [List.countP_cons]
    by_cases e : k a = k u
    · have ea := h a (List.mem_cons_self ..) e
      have : L.countP (fun a => k a = k u) = 0 := by
        rw [List.countP_eq_zero]
        intro b hb
        simp only [decide_eq_true_eq]
        intro eb
        have := h b (List.mem_cons_of_mem _ hb) eb
        rw [this, ← ea] at hb
        exact h1 hb
      rw [this]; simp only [e]; decide
    · have := count_one k u L h2 fun b hb => h b (List.mem_cons_of_mem _ hb)
      simp only [e]; simpa using this
theorem g_bits1 : ∀ m, m < 64 → ∀ c, c < 6 → bitN m c = false → bitN (m + 2 ^ c) c = true := by decide +kernel
theorem g_bits2 : ∀ m, m < 64 → ∀ c, c < 6 → ∀ j, j < 6 → j ≠ c → bitN m c = false → bitN (m + 2 ^ c) j = bitN m j := by decide +kernel
theorem g_less1 : ∀ m, m < 64 → ∀ c, c < 6 → bitN m c = true → 2 ^ c ≤ m := by decide +kernel
theorem g_less2 : ∀ m, m < 64 → ∀ c, c < 6 → bitN m c = true → bitN (m - 2 ^ c) c = false := by decide +kernel
theorem g_lt {n m : Nat} (hn : n ≤ 6) (hm : m < 2 ^ n) : m < 64 := Nat.lt_of_lt_of_le hm (Nat.pow_le_pow_right (by decide) hn)
theorem f_bits (n : Nat) (hn : n ≤ 6) (m : Nat) (hm : m < 2 ^ n) (c : Nat) (hc : c < n) (h : bitN m c = false) : bitN (m + 2 ^ c) c = true ∧ ∀ j, j < n → j ≠ c → bitN (m + 2 ^ c) j = bitN m j :=
  ⟨g_bits1 m (g_lt hn hm) c (by lia) h, fun j hj ne => g_bits2 m (g_lt hn hm) c (by lia) j (by lia) ne h⟩
theorem f_less (n : Nat) (hn : n ≤ 6) (m : Nat) (hm : m < 2 ^ n) (c : Nat) (hc : c < n) (h : bitN m c = true) : 2 ^ c ≤ m ∧ bitN (m - 2 ^ c) c = false ∧ popN n (m - 2 ^ c) + 1 = popN n m := by
  have h1 := g_less1 m (g_lt hn hm) c (by lia) h
  have h2 := g_less2 m (g_lt hn hm) c (by lia) h
  have h3 := f_next n hn (m - 2 ^ c) (Nat.lt_of_le_of_lt (Nat.sub_le _ _) hm) c hc h2
  rw [Nat.sub_add_cancel h1] at h3
  exact ⟨h1, h2, h3.2.symm⟩
theorem f_sizes : ∀ n, n ≤ 6 → ∀ m, m < 2 ^ n → (sizesAt n).getD m 0 = popN n m := by decide +kernel

/-- the distances -/
structure Dis (n : Nat) (D : Nat → Nat → Int) : Prop where
  sym : ∀ i j, D i j = D j i
  cls : ∃ (c : Nat) (f g k : Nat → Int), (∀ i j, D i j = (if f j = f i then 0 else (c : Int)) + (if g j = g i then 0 else 2) + (if k j = k i then 0 else 2)) ∧
    (∀ a b, g a = g b → f a = f b) ∧ (∀ a b, k a = k b → g a = g b) ∧ ∀ a b, a < n → b < n → k a = k b → a = b

theorem exchange {n : Nat} {D : Nat → Nat → Int} (H : Dis n D) (hn : n ≤ 6) {i A B : Nat} (hA : Msk n i A) (hB : Msk n (i + 1) B) :
    ∃ u, u < n ∧ bitN B u = true ∧ bitN A u = false ∧ rowS D u (bitN (B - 2 ^ u)) n ≤ rowS D u (bitN A) n := by
  obtain ⟨c, f, g, k, hD, hgf, hkg, hk⟩ := H.cls
  have lA : ((List.range n).filter (bitN A)).length = i := by rw [← List.countP_eq_length_filter]; exact hA.2
  have lB : ((List.range n).filter (bitN B)).length = i + 1 := by rw [← List.countP_eq_length_filter]; exact hB.2
  obtain ⟨u, hu, h1, h2, h3⟩ := descend f g k hgf hkg ((List.range n).filter (bitN A)) ((List.range n).filter (bitN B)) (by lia)
  obtain ⟨hu1, hu2⟩ := List.mem_filter.mp hu
  have hun := List.mem_range.mp hu1
  have h4 := count_one k u ((List.range n).filter (bitN B)) ((List.nodup_range (n := n)).sublist List.filter_sublist) (fun a ha e => hk a u (List.mem_range.mp (List.mem_filter.mp ha).1) hun e)
  have hAu : bitN A u = false := by
    cases hb : bitN A u with
    | false => rfl
    | true =>
      have : 0 < ((List.range n).filter (bitN A)).countP (fun a => k a = k u) := List.countP_pos_iff.mpr ⟨u, List.mem_filter.mpr ⟨hu1, hb⟩, by simp⟩
      lia
  obtain ⟨p1, p2, p3⟩ := f_less n hn B hB.1 u hun hu2
  have hlt : B - 2 ^ u < 2 ^ n := Nat.lt_of_le_of_lt (Nat.sub_le _ _) hB.1
  have fb := f_bits n hn (B - 2 ^ u) hlt u hun p2
  rw [Nat.sub_add_cancel p1] at fb
  refine ⟨u, hun, hu2, hAu, ?_⟩
  have e := rowS_add D u p2 hu2 n hun fb.2
  have e0 : D u u = 0 := by rw [hD]; simp
  rw [e0, Int.add_zero] at e
  rw [← e, rowS_sum, rowS_sum, sum_classes D c f g k hD, sum_classes D c f g k hD, lA, lB]
  have hm : (c : Int) * (((i + 1 : Nat) : Int) - (((List.range n).filter (bitN B)).countP (fun a => f a = f u) : Int)) ≤ (c : Int) * ((i : Int) - (((List.range n).filter (bitN A)).countP (fun a => f a = f u) : Int)) := Int.mul_le_mul_of_nonneg_left (by lia) (by lia)
  lia

noncomputable def IsBest (rims : List Int) (n k m : Nat) : Prop := Msk n k m ∧ ∀ m', Msk n k m' → rimOf rims m' ≤ rimOf rims m
theorem mem_masks {n k m : Nat} (hn : n ≤ 6) : m ∈ masksOf n k ↔ Msk n k m := by
  unfold masksOf Msk
  rw [List.mem_filter, List.mem_range]
  constructor
  · rintro ⟨h1, h2⟩
    rw [f_sizes n hn m h1] at h2
    exact ⟨h1, by simpa using h2⟩
  · rintro ⟨h1, h2⟩
    exact ⟨h1, by rw [f_sizes n hn m h1]; simpa using h2⟩
theorem mem_best {rims : List Int} {n k m : Nat} (hn : n ≤ 6) (hk : k ≤ n) : m ∈ bestRow rims n k ↔ IsBest rims n k m := by
  unfold bestRow IsBest
  rw [List.mem_filter, mem_masks hn, beq_iff_eq]
  have hne : (masksOf n k).map (rimOf rims) ≠ [] := fun e => masks_some n hn k hk (by simpa using e)
  constructor
  · rintro ⟨h1, h2⟩
    refine ⟨h1, fun m' h' => ?_⟩
    rw [h2]
    exact maxL_ge _ (List.mem_map_of_mem ((mem_masks hn).mpr h'))
  · rintro ⟨h1, h2⟩
    refine ⟨h1, ?_⟩
    have hle := maxL_ge (l := (masksOf n k).map (rimOf rims)) _ (List.mem_map_of_mem ((mem_masks hn).mpr h1))
    obtain ⟨m', hm', e⟩ := List.mem_map.mp (maxL_mem hne)
    have := h2 m' ((mem_masks hn).mp hm')
    lia
theorem best_some {rims : List Int} {n k : Nat} (hn : n ≤ 6) (hk : k ≤ n) : ∃ m, m ∈ bestRow rims n k := by
  have hne : (masksOf n k).map (rimOf rims) ≠ [] := fun e => masks_some n hn k hk (by simpa using e)
  obtain ⟨m', hm', e⟩ := List.mem_map.mp (maxL_mem hne)
  exact ⟨m', List.mem_filter.mpr ⟨hm', by rw [e]; simp⟩⟩
theorem mem_nexts {n m x : Nat} : x ∈ nexts n m ↔ ∃ c, c < n ∧ bitN m c = false ∧ x = m + 2 ^ c := by
  unfold nexts
  rw [List.mem_map]
  constructor
  · rintro ⟨c, hc, rfl⟩
    obtain ⟨h1, h2⟩ := List.mem_filter.mp hc
    exact ⟨c, List.mem_range.mp h1, by simpa using h2, rfl⟩
  · rintro ⟨c, h1, h2, rfl⟩
    exact ⟨c, List.mem_filter.mpr ⟨List.mem_range.mpr h1, by simp [h2]⟩, rfl⟩
theorem mem_foldl {rims : List Int} {n x : Nat} : ∀ (masks after : List Nat), x ∈ masks.foldl (stepMask rims n) after ↔ x ∈ after ∨ ∃ m ∈ masks, x ∈ nexts n m ∧ rimOf rims x = maxL ((nexts n m).map (rimOf rims))
  | [], after => by simp
  | m :: masks, after => by
    rw [List.foldl_cons, mem_foldl masks]
    unfold stepMask
    rw [List.mem_append, List.mem_filter]
    constructor
    · rintro ((h | ⟨h1, h2⟩) | ⟨m', hm', h⟩)
      · exact .inl h
      · simp only [Bool.and_eq_true, beq_iff_eq] at h2
        exact .inr ⟨m, List.mem_cons_self .., h1, h2.1⟩
      · exact .inr ⟨m', List.mem_cons_of_mem _ hm', h⟩
    · rintro (h | ⟨m', hm', h1, h2⟩)
      · exact .inl (.inl h)
      · rcases List.mem_cons.mp hm' with rfl | hm'
        · by_cases hx : x ∈ after
          · exact .inl (.inl hx)
          · refine .inl (.inr ⟨h1, ?_⟩)
            simp only [Bool.and_eq_true, beq_iff_eq]
            exact ⟨h2, by simpa using hx⟩
        · exact .inr ⟨m', hm', h1, h2⟩

theorem step_best {rims : List Int} {n : Nat} {D : Nat → Nat → Int} (H : Dis n D) (hn : n ≤ 6) (hr : ∀ m, m < 2 ^ n → rimOf rims m = perS D (bitN m) n) {i x : Nat} (hi : i < n) :
    x ∈ afterF rims n (bestRow rims n i) ↔ x ∈ bestRow rims n (i + 1) := by
  have ex : ∀ {A B : Nat}, Msk n i A → Msk n (i + 1) B → ∃ u, u < n ∧ bitN B u = true ∧ bitN A u = false ∧ 2 ^ u ≤ B ∧ Msk n i (B - 2 ^ u) ∧ bitN (B - 2 ^ u) u = false ∧ Msk n (i + 1) (A + 2 ^ u) ∧ rimOf rims A + rimOf rims B ≤ rimOf rims (B - 2 ^ u) + rimOf rims (A + 2 ^ u) := by
    intro A B hA hB
    obtain ⟨u, hun, hBu, hAu, hle⟩ := exchange H hn hA hB
    obtain ⟨p1, p2, p3⟩ := f_less n hn B hB.1 u hun hBu
    have hlt : B - 2 ^ u < 2 ^ n := Nat.lt_of_le_of_lt (Nat.sub_le _ _) hB.1
    have fb := f_bits n hn (B - 2 ^ u) hlt u hun p2
    have fa := f_bits n hn A hA.1 u hun hAu
    have na := f_next n hn A hA.1 u hun hAu
    rw [Nat.sub_add_cancel p1] at fb
    have eB := perS_add D H.sym p2 hBu n hun fb.2
    have eA := perS_add D H.sym hAu fa.1 n hun fa.2
    refine ⟨u, hun, hBu, hAu, p1, ⟨hlt, ?_⟩, p2, ⟨na.1, by rw [na.2, hA.2]⟩, ?_⟩
    · have := hB.2; lia
    · rw [hr A hA.1, hr B hB.1, hr _ hlt, hr _ na.1, eA, eB]
      lia
  unfold afterF
  rw [mem_foldl, mem_best hn hi]
  constructor
  · rintro (h | ⟨m, hm, hx, e⟩)
    · cases h
    · have hm' := (mem_best hn (Nat.le_of_lt hi)).mp hm
      have hxM := hm'.1.next hn hx
      refine ⟨hxM, fun B hB => ?_⟩
      obtain ⟨u, hun, hBu, hAu, p1, q1, q2, q3, q4⟩ := ex hm'.1 hB
      have h1 := hm'.2 _ q1
      have h2 := maxL_ge (l := (nexts n m).map (rimOf rims)) _ (List.mem_map_of_mem (mem_nexts.mpr ⟨u, hun, hAu, rfl⟩))
      lia
  · intro hx
    obtain ⟨A, hA⟩ := best_some (rims := rims) hn (Nat.le_of_lt hi)
    have hA' := (mem_best hn (Nat.le_of_lt hi)).mp hA
    obtain ⟨u, hun, hBu, hAu, p1, q1, q2, q3, q4⟩ := ex hA'.1 hx.1
    have h1 := hx.2 _ q3
    refine .inr ⟨x - 2 ^ u, (mem_best hn (Nat.le_of_lt hi)).mpr ⟨q1, fun m' h' => ?_⟩, ?_, ?_⟩
    · have := hA'.2 m' h'; lia
    · exact mem_nexts.mpr ⟨u, hun, q2, by lia⟩
    · have hin : x ∈ nexts n (x - 2 ^ u) := mem_nexts.mpr ⟨u, hun, q2, by lia⟩
      have h2 := maxL_ge (l := (nexts n (x - 2 ^ u)).map (rimOf rims)) _ (List.mem_map_of_mem hin)
      have hne : (nexts n (x - 2 ^ u)).map (rimOf rims) ≠ [] := fun e => by
        have := List.map_eq_nil_iff.mp e
        rw [this] at hin; cases hin
      obtain ⟨y, hy, e⟩ := List.mem_map.mp (maxL_mem hne)
      have := hx.2 y (q1.next hn hy)
      lia

theorem best_sorted (rims : List Int) (n k : Nat) : (bestRow rims n k).Pairwise (· < ·) :=
  (List.pairwise_lt_range (n := 2 ^ n)).sublist (List.Sublist.trans List.filter_sublist List.filter_sublist)
theorem best_zero (rims : List Int) (n : Nat) (hn : n ≤ 6) : bestRow rims n 0 = [0] := by
  have hm : ∀ n, n ≤ 6 → masksOf n 0 = [0] := by decide +kernel
  unfold bestRow
  rw [hm n hn, List.filter_cons]
  simp [maxL]

theorem ways_best {rims : List Int} {n : Nat} {D : Nat → Nat → Int} (H : Dis n D) (hn : n ≤ 6) (hr : ∀ m, m < 2 ^ n → rimOf rims m = perS D (bitN m) n) : ∀ i, i ≤ n → waysAt rims n i = (List.range (i + 1)).map (bestRow rims n)
  | 0, _ => by
    show [[0]] = [bestRow rims n 0]
    rw [best_zero rims n hn]
  | i + 1, hi => by
    have ih := ways_best H hn hr i (by lia)
    rw [waysAt, ih, List.range_succ (n := i + 1), List.map_append]
    congr 1
    have e : ((List.range (i + 1)).map (bestRow rims n)).getD i [] = bestRow rims n i := by
      rw [List.getD_eq_getElem?_getD, List.getElem?_map, List.getElem?_range (by lia)]; rfl
    rw [e]
    show [_] = [_]
    congr 1
    have hnd : (afterF rims n (bestRow rims n i)).Nodup := (after_all (rims := rims) hn (bestRow rims n i) [] (fun m hm => ((mem_best hn (by lia)).mp hm).1) (fun _ h => by cases h) List.nodup_nil).2
    have hbd : (bestRow rims n (i + 1)).Nodup := (best_sorted rims n (i + 1)).imp fun h => Nat.ne_of_lt h
    have hp : (afterF rims n (bestRow rims n i)).Perm (bestRow rims n (i + 1)) := (List.perm_ext_iff_of_nodup hnd hbd).mpr fun a => step_best H hn hr (by lia)
    exact List.Perm.eq_of_pairwise (le := (· ≤ ·)) (fun a b _ _ h1 h2 => Nat.le_antisymm h1 h2) (sortN_sorted _) ((best_sorted rims n (i + 1)).imp fun h => Nat.le_of_lt h) ((sortN_perm _).trans hp)
end Mine
end

-- L3
section
open PySem PySem.W PyProof.Rows PySem.Calls
set_option linter.unusedVariables false
set_option maxRecDepth 100000
set_option maxHeartbeats 4000000
namespace Mine
theorem erase_perm : ∀ (l : List Nat) (k : Nat), k < l.length → (l.getD k 0 :: l.eraseIdx k).Perm l
  | [], k, h => by simp at h
  | a :: l, 0, h => List.Perm.refl _
  | a :: l, k + 1, h => by
    have ih := erase_perm l k (by simpa using h)
    show (l.getD k 0 :: a :: l.eraseIdx k).Perm (a :: l)
    exact (List.Perm.swap ..).trans (ih.cons a)
/-- what is picked: no doubles, within 7 .. 54 -/
theorem picks_inv (script : List Int) : ∀ i, i ≤ 48 → ((picksAt script i).2 ++ (picksAt script i).1).Nodup ∧ ∀ x ∈ (picksAt script i).2 ++ (picksAt script i).1, 7 ≤ x ∧ x < 55
  | 0, _ => by
    refine ⟨?_, ?_⟩
    · show (([] : List Nat) ++ List.range' 7 48).Nodup
      rw [List.nil_append]; exact List.nodup_range'
    · intro x hx
      have hx' : x ∈ List.range' 7 48 := hx
      rw [List.mem_range'_1] at hx'
      lia
  | i + 1, h => by
    obtain ⟨h1, h2⟩ := picks_inv script i (by lia)
    have hl := picks_len script i (by lia)
    have hp := place_lt script i (picksAt script i).1.length (by lia)
    have e : ((picksAt script (i + 1)).2 ++ (picksAt script (i + 1)).1).Perm ((picksAt script i).2 ++ (picksAt script i).1) := by
      simp only [picksAt]
      rw [List.append_assoc]
      refine List.Perm.append_left _ ?_
      rw [List.singleton_append]
      exact erase_perm _ _ hp
    exact ⟨e.nodup_iff.mpr h1, fun x hx => h2 x (e.mem_iff.mp hx)⟩
/-- no row of a table reaches into lo .. hi - 1 -/
theorem shifted_none {lo hi c : Nat} (h1 : lo ≤ c) (h2 : c < hi) : ∀ l : List (Nat × Nat × Nat), l.all (fun r => decide (r.2.1 < lo) || decide (hi ≤ r.1)) = true → Unicode.shifted l c = none
  | [], _ => rfl
  | (a, b, s) :: l, h => by
    rw [List.all_cons, Bool.and_eq_true] at h
    have ih := shifted_none h1 h2 l h.2
    have h3 : b < lo ∨ hi ≤ a := by simpa using h.1
    show (if c < a then none else if c ≤ b then some (s + (c - a)) else Unicode.shifted l c) = none
    rcases h3 with h3 | h3
    · rw [if_neg (Nat.not_le.mpr (Nat.lt_of_lt_of_le h3 h1)), ih]
      exact ite_self _
    · rw [if_pos (Nat.lt_of_lt_of_le h2 h3)]
theorem lookup_none {lo hi c : Nat} (h1 : lo ≤ c) (h2 : c < hi) : ∀ l : List (Nat × List Nat), l.all (fun r => decide (r.1 < lo) || decide (hi ≤ r.1)) = true → l.lookup c = none
  | [], _ => rfl
  | (a, b) :: l, h => by
    rw [List.all_cons, Bool.and_eq_true] at h
    have ih := lookup_none h1 h2 l h.2
    have h3 : a < lo ∨ hi ≤ a := by simpa using h.1
    have h4 : (c == a) = false := by
      rw [beq_eq_false_iff_ne]; lia
    rw [List.lookup_cons, h4]; exact ih
theorem low_all (k : Nat) (hk : k < 128) : LowOk (19968 + k) := by
  have s1 : UnicodeData.oneLower.all (fun r => decide (r.2.1 < 19968) || decide (20096 ≤ r.1)) = true := by decide +kernel
  have s2 : UnicodeData.severalLower.all (fun r => decide (r.1 < 19968) || decide (20096 ≤ r.1)) = true := by decide +kernel
  have h1 : 19968 ≤ 19968 + k := Nat.le_add_right ..
  have h2 : 19968 + k < 20096 := by lia
  have e : Unicode.lowerOf (19968 + k) = [19968 + k] := by
    unfold Unicode.lowerOf Unicode.image
    rw [lookup_none h1 h2 _ s2, shifted_none h1 h2 _ s1]; rfl
  have e2 : ((19968 + k) == 0x3A3) = false := by
    rw [beq_eq_false_iff_ne]; lia
  have e3 : Unicode.lowerAt (strOf [19968 + k]).cps 0 = [19968 + k] := by
    show (if ((19968 + k) == 0x3A3 && Unicode.endsWord (strOf [19968 + k]).cps 0) = true then [0x3C2] else Unicode.lowerOf (19968 + k)) = _
    rw [e2, Bool.false_and, if_neg Bool.false_ne_true, e]
  show Str.mk (#[(Unicode.lowerAt (strOf [19968 + k]).cps 0).toArray].flatten) = _
  rw [e3]; rfl
theorem word2 : ∀ n : Nat, n < 55 → wordF 2 n = [19968 + (4 + n % 4), 19968 + (16 + 4 * (n % 4) + n / 4 % 4), 19968 + (64 + 16 * (n % 4) + 4 * (n / 4 % 4) + n / 16 % 4)] := by decide +kernel
theorem word3 : ∀ n : Nat, n < 55 → wordF 3 n = [19968 + (8 + n % 8), 19968 + (64 + 8 * (n % 8) + n / 8 % 8)] := by decide +kernel
theorem modz (a b e : Nat) : (((a : Int) - b) % 2 ^ e != 0) = !decide (b % 2 ^ e = a % 2 ^ e) := by
  have h : ((a : Int) - b) % 2 ^ e = 0 ↔ b % 2 ^ e = a % 2 ^ e := by
    have c : ((2 : Int) ^ e) = ((2 ^ e : Nat) : Int) := by simp
    rw [← Int.emod_eq_emod_iff_emod_sub_eq_zero, c, ← Int.natCast_emod, ← Int.natCast_emod, Int.natCast_inj]
    exact eq_comm
  rw [Bool.eq_iff_iff]; simp only [bne_iff_ne, Bool.not_eq_true', decide_eq_false_iff_not]
  exact not_congr h
theorem apart2 (a b : Nat) : apartF a b 2 = (if b % 4 = a % 4 then 0 else 2) + (if b % 16 = a % 16 then 0 else 2) + (if b % 64 = a % 64 then 0 else 2) := by
  have e : rng 1 (6 / 2) = [1, 2, 3] := by decide
  have f1 : (((a : Int) - b) % 2 ^ (2 * (1 : Int).toNat) != 0) = !decide (b % 4 = a % 4) := modz a b 2
  have f2 : (((a : Int) - b) % 2 ^ (2 * (2 : Int).toNat) != 0) = !decide (b % 16 = a % 16) := modz a b 4
  have f3 : (((a : Int) - b) % 2 ^ (2 * (3 : Int).toNat) != 0) = !decide (b % 64 = a % 64) := modz a b 6
  unfold apartF
  rw [e]
  simp only [List.filter_cons, List.filter_nil, f1, f2, f3]
  by_cases q1 : b % 4 = a % 4 <;> by_cases q2 : b % 16 = a % 16 <;> by_cases q3 : b % 64 = a % 64 <;> simp [q1, q2, q3]
theorem apart3 (a b : Nat) : apartF a b 3 = (if b % 8 = a % 8 then 0 else 2) + (if b % 64 = a % 64 then 0 else 2) := by
  have e : rng 1 (6 / 3) = [1, 2] := by decide
  have f1 : (((a : Int) - b) % 2 ^ (3 * (1 : Int).toNat) != 0) = !decide (b % 8 = a % 8) := modz a b 3
  have f2 : (((a : Int) - b) % 2 ^ (3 * (2 : Int).toNat) != 0) = !decide (b % 64 = a % 64) := modz a b 6
  unfold apartF
  rw [e]
  simp only [List.filter_cons, List.filter_nil, f1, f2]
  by_cases q1 : b % 8 = a % 8 <;> by_cases q2 : b % 64 = a % 64 <;> simp [q1, q2]

/-- two words: what they share, and what follows -/
structure Splits (bits n m : Nat) (P ra rb : List Nat) : Prop where
  left : wordF bits n = P ++ ra
  right : wordF bits m = P ++ rb
  same : rb.length = ra.length
  one : 1 ≤ ra.length
  three : ra.length ≤ 3
  short : P.length ≤ 3
  apart : ∀ c ∈ ra, ∀ d ∈ rb, c ≠ d
  lowA : ∀ c ∈ ra, LowOk c
  lowB : ∀ c ∈ rb, LowOk c
  cost : 2 * (ra.length : Int) ≤ 12 / (bits : Int)
  dist : apartF n m bits = 2 * (ra.length : Int)
theorem ap1 {x y : Nat} (h : x ≠ y) : ∀ c ∈ [x], ∀ d ∈ [y], c ≠ d := by
  simp only [List.mem_singleton]
  rintro c rfl d rfl; exact h
theorem apC {x y B : Nat} {xs ys : List Nat} (h : x ≠ y) (hx : x < B) (hy : y < B) (hxs : ∀ c ∈ xs, B ≤ c) (hys : ∀ d ∈ ys, B ≤ d) (r : ∀ c ∈ xs, ∀ d ∈ ys, c ≠ d) : ∀ c ∈ x :: xs, ∀ d ∈ y :: ys, c ≠ d := fun c hc d hd => by
  rcases List.mem_cons.mp hc with rfl | hc
  · rcases List.mem_cons.mp hd with rfl | hd
    · exact h
    · exact Nat.ne_of_lt (Nat.lt_of_lt_of_le hx (hys d hd))
  · rcases List.mem_cons.mp hd with rfl | hd
    · exact Nat.ne_of_gt (Nat.lt_of_lt_of_le hy (hxs c hc))
    · exact r c hc d hd
theorem ge1 {x B : Nat} (h : B ≤ x) : ∀ c ∈ [x], B ≤ c := by
  simp only [List.mem_singleton]; rintro c rfl; exact h
theorem ge2 {x y B : Nat} (h : B ≤ x) (h' : B ≤ y) : ∀ c ∈ [x, y], B ≤ c := fun c hc => (List.mem_cons.mp hc).elim (fun e => e ▸ h) (ge1 h' c)
theorem lows {bits n : Nat} (hb : bits = 2 ∨ bits = 3) (hn : n < 55) : ∀ c ∈ wordF bits n, LowOk c := by
  have h2 : ∀ n : Nat, n < 55 → ∀ c ∈ wordF 2 n, 19968 ≤ c ∧ c - 19968 < 128 := by decide +kernel
  have h3 : ∀ n : Nat, n < 55 → ∀ c ∈ wordF 3 n, 19968 ≤ c ∧ c - 19968 < 128 := by decide +kernel
  intro c hc
  have h : 19968 ≤ c ∧ c - 19968 < 128 := by
    rcases hb with rfl | rfl
    · exact h2 n hn c hc
    · exact h3 n hn c hc
  have := low_all (c - 19968) h.2
  rwa [Nat.add_sub_cancel' h.1] at this
theorem splits (bits n m : Nat) (hb : bits = 2 ∨ bits = 3) (hn : n < 55) (hm : m < 55) (hne : n ≠ m) : ∃ P ra rb, Splits bits n m P ra rb := by
  have ln := lows hb hn
  have lm := lows hb hm
  have h64 : ¬ (m % 64 = n % 64) := by lia
  have mk : ∀ P ra rb : List Nat, wordF bits n = P ++ ra → wordF bits m = P ++ rb → rb.length = ra.length → 1 ≤ ra.length → ra.length ≤ 3 → P.length ≤ 3 → (∀ c ∈ ra, ∀ d ∈ rb, c ≠ d) → 2 * (ra.length : Int) ≤ 12 / (bits : Int) → apartF n m bits = 2 * (ra.length : Int) → ∃ P ra rb, Splits bits n m P ra rb :=
    fun P ra rb e1 e2 a b c d e f g => ⟨P, ra, rb, e1, e2, a, b, c, d, e, (fun x hx => ln x (e1 ▸ List.mem_append_right _ hx)), (fun x hx => lm x (e2 ▸ List.mem_append_right _ hx)), f, g⟩
  clear ln lm
  rcases hb with rfl | rfl
  · have wn := word2 n hn
    have wm := word2 m hm
    have ea := apart2 n m
    rw [if_neg h64] at ea
    have b1 : n % 4 < 4 := Nat.mod_lt _ (by decide)
    have b2 : n / 4 % 4 < 4 := Nat.mod_lt _ (by decide)
    have b4 : m % 4 < 4 := Nat.mod_lt _ (by decide)
    have b5 : m / 4 % 4 < 4 := Nat.mod_lt _ (by decide)
    by_cases h1 : m % 4 = n % 4
    · rw [if_pos h1] at ea
      by_cases h2 : m % 16 = n % 16
      · rw [if_pos h2] at ea
        have h3 : n / 16 % 4 ≠ m / 16 % 4 := by lia
        have h4 : m / 4 % 4 = n / 4 % 4 := by lia
        rw [h1, h4] at wm
        exact mk [_, _] [_] [_] wn wm rfl (of_decide_eq_true rfl) (of_decide_eq_true rfl) (of_decide_eq_true rfl) (ap1 fun e => h3 (Nat.add_left_cancel (Nat.add_left_cancel e))) (of_decide_eq_true rfl) ea
      · rw [if_neg h2] at ea
        have h3 : n / 4 % 4 ≠ m / 4 % 4 := by lia
        rw [h1] at wm
        have b3 : n / 16 % 4 < 4 := Nat.mod_lt _ (by decide)
        have b6 : m / 16 % 4 < 4 := Nat.mod_lt _ (by decide)
        generalize n / 16 % 4 = r at wn b3
        generalize m / 16 % 4 = r' at wm b6
        generalize n / 4 % 4 = q at wn b2 h3
        generalize m / 4 % 4 = q' at wm b5 h3
        generalize n % 4 = p at wn wm b1
        clear h1 h2 h64 b4 hne hn hm
        exact mk [_] [_, _] [_, _] wn wm rfl (of_decide_eq_true rfl) (of_decide_eq_true rfl) (of_decide_eq_true rfl) (apC (B := 20032) (fun e => h3 (Nat.add_left_cancel (Nat.add_left_cancel e))) (by lia) (by lia) (ge1 (by lia)) (ge1 (by lia)) (ap1 (by lia))) (of_decide_eq_true rfl) ea
    · have h2 : ¬ (m % 16 = n % 16) := fun e => h1 (by rw [← Nat.mod_mod_of_dvd m (show 4 ∣ 16 by decide), ← Nat.mod_mod_of_dvd n (show 4 ∣ 16 by decide), e])
      rw [if_neg h1, if_neg h2] at ea
      have b3 : n / 16 % 4 < 4 := Nat.mod_lt _ (by decide)
      have b6 : m / 16 % 4 < 4 := Nat.mod_lt _ (by decide)
      have h3 : n % 4 ≠ m % 4 := fun e => h1 e.symm
      generalize n / 16 % 4 = r at wn b3
      generalize m / 16 % 4 = r' at wm b6
      generalize n / 4 % 4 = q at wn b2
      generalize m / 4 % 4 = q' at wm b5
      generalize n % 4 = p at wn b1 h3
      generalize m % 4 = p' at wm b4 h3
      clear h1 h2 h64 hne hn hm
      exact mk [] [_, _, _] [_, _, _] wn wm rfl (of_decide_eq_true rfl) (of_decide_eq_true rfl) (of_decide_eq_true rfl) (apC (B := 19984) (fun e => h3 (Nat.add_left_cancel (Nat.add_left_cancel e))) (by lia) (by lia) (ge2 (by lia) (by lia)) (ge2 (by lia) (by lia))
        (apC (B := 20032) (by lia) (by lia) (by lia) (ge1 (by lia)) (ge1 (by lia)) (ap1 (by lia)))) (of_decide_eq_true rfl) ea
  · have wn := word3 n hn
    have wm := word3 m hm
    have ea := apart3 n m
    rw [if_neg h64] at ea
    by_cases h1 : m % 8 = n % 8
    · rw [if_pos h1] at ea
      have h3 : n / 8 % 8 ≠ m / 8 % 8 := by lia
      rw [h1] at wm
      exact mk [_] [_] [_] wn wm rfl (of_decide_eq_true rfl) (of_decide_eq_true rfl) (of_decide_eq_true rfl) (ap1 fun e => h3 (Nat.add_left_cancel (Nat.add_left_cancel e))) (of_decide_eq_true rfl) ea
    · rw [if_neg h1] at ea
      have b1 : n % 8 < 8 := Nat.mod_lt _ (by decide)
      have b2 : n / 8 % 8 < 8 := Nat.mod_lt _ (by decide)
      have b4 : m % 8 < 8 := Nat.mod_lt _ (by decide)
      have b5 : m / 8 % 8 < 8 := Nat.mod_lt _ (by decide)
      have h3 : n % 8 ≠ m % 8 := fun e => h1 e.symm
      generalize n / 8 % 8 = q at wn b2
      generalize m / 8 % 8 = q' at wm b5
      generalize n % 8 = p at wn b1 h3
      generalize m % 8 = p' at wm b4 h3
      clear h1 h64 hne hn hm
      exact mk [] [_, _] [_, _] wn wm rfl (of_decide_eq_true rfl) (of_decide_eq_true rfl) (of_decide_eq_true rfl) (apC (B := 20032) (fun e => h3 (Nat.add_left_cancel (Nat.add_left_cancel e))) (by lia) (by lia) (ge1 (by lia)) (ge1 (by lia)) (ap1 (by lia))) (of_decide_eq_true rfl) ea

/-- the distances of the picked numbers -/
noncomputable def DD (nums : List Nat) (bits : Nat) (i j : Nat) : Int := apartF (nums.getD i 0 : Nat) (nums.getD j 0 : Nat) bits
theorem dis_nums {nums : List Nat} {bits : Nat} (hb : bits = 2 ∨ bits = 3) (hnd : nums.Nodup) (hr : ∀ x ∈ nums, x < 55) : Dis nums.length (DD nums bits) := by
  have inj : ∀ a b, a < nums.length → b < nums.length → ((nums.getD a 0 % 64 : Nat) : Int) = ((nums.getD b 0 % 64 : Nat) : Int) → a = b := fun a b ha hb' e => by
    have ma := hr _ (getD_mem ha)
    have mb := hr _ (getD_mem hb')
    have e1 : nums.getD a 0 = nums.getD b 0 := by lia
    rw [List.getD_eq_getElem?_getD, List.getD_eq_getElem?_getD, List.getElem?_eq_getElem ha, List.getElem?_eq_getElem hb'] at e1
    have e2 : nums[a] = nums[b] := e1
    have hp := List.pairwise_iff_getElem.mp hnd
    rcases Nat.lt_trichotomy a b with h | h | h
    · exact absurd e2 (hp a b ha hb' h)
    · exact h
    · exact absurd e2.symm (hp b a hb' ha h)
  rcases hb with rfl | rfl
  · refine ⟨fun i j => ?_, 2, fun i => ((nums.getD i 0 % 4 : Nat) : Int), fun i => ((nums.getD i 0 % 16 : Nat) : Int), fun i => ((nums.getD i 0 % 64 : Nat) : Int), fun i j => ?_, fun a b h => ?_, fun a b h => ?_, inj⟩
    · unfold DD; rw [apart2, apart2]
      simp only [eq_comm]
    · unfold DD; rw [apart2]
      simp only [Int.natCast_inj]; rfl
    · simp only [Int.natCast_inj] at h ⊢; lia
    · simp only [Int.natCast_inj] at h ⊢; lia
  · refine ⟨fun i j => ?_, 0, fun i => 0, fun i => ((nums.getD i 0 % 8 : Nat) : Int), fun i => ((nums.getD i 0 % 64 : Nat) : Int), fun i j => ?_, fun a b h => rfl, fun a b h => ?_, inj⟩
    · unfold DD; rw [apart3, apart3]
      simp only [eq_comm]
    · unfold DD; rw [apart3]
      simp only [Int.natCast_inj, if_true, Int.zero_add]
    · simp only [Int.natCast_inj] at h ⊢; lia
noncomputable def farOf (nums : List Nat) (bits : Nat) : List (List Int) := (List.range nums.length).map fun i => (List.range i).map (DD nums bits i)
theorem far_len (nums : List Nat) (bits : Nat) : (farOf nums bits).length = nums.length := by simp [farOf]
theorem far_row (nums : List Nat) (bits i : Nat) (h : i < nums.length) : (farOf nums bits).getD i [] = (List.range i).map (DD nums bits i) := by
  unfold farOf
  rw [List.getD_eq_getElem?_getD, List.getElem?_map, List.getElem?_range h]; rfl
noncomputable def rimsOf (nums : List Nat) (bits : Nat) : List Int := rimsAt (farOf nums bits) nums.length
theorem rims_len (nums : List Nat) (bits : Nat) : (rimsOf nums bits).length = 2 ^ nums.length := rimsAt_length _ _
theorem rims_eq (nums : List Nat) (bits : Nat) : ∀ m, m < 2 ^ nums.length → rimOf (rimsOf nums bits) m = perS (DD nums bits) (bitN m) nums.length := by
  refine rims_per (DD nums bits) (farOf nums bits) nums.length fun i hi j hj => ?_
  rw [far_row nums bits i hi, List.getD_eq_getElem?_getD, List.getElem?_map, List.getElem?_range hj]; rfl
/-- the plain law -/
theorem plain_law {nums : List Nat} {bits : Nat} (hb : bits = 2 ∨ bits = 3) (hnd : nums.Nodup) (hr : ∀ x ∈ nums, x < 55) (hl : nums.length ≤ 6) :
    waysAt (rimsOf nums bits) nums.length nums.length = bestF (rimsOf nums bits) nums.length :=
  ways_best (dis_nums hb hnd hr) hl (rims_eq nums bits) _ (Nat.le_refl _)
theorem best_rows {rims : List Int} {n : Nat} (hn : n ≤ 6) : ∀ r ∈ bestF rims n, ∃ m l, r = m :: l ∧ m < 2 ^ n := by
  intro r hr
  obtain ⟨k, hk, rfl⟩ := List.mem_map.mp hr
  have hk' : k ≤ n := by have := List.mem_range.mp hk; lia
  obtain ⟨m, hm⟩ := best_some (rims := rims) hn hk'
  cases e : bestRow rims n k with
  | nil => rw [e] at hm; cases hm
  | cons a l =>
    refine ⟨a, l, rfl, ?_⟩
    have : a ∈ bestRow rims n k := by rw [e]; exact List.mem_cons_self ..
    exact ((mem_best hn hk').mp this).1.1
end Mine
end

-- B1
section
open PySem PySem.W PyProof.Rows PySem.Calls
set_option linter.unusedVariables false
set_option maxRecDepth 100000
set_option maxHeartbeats 4000000
namespace Mine
noncomputable def lawS : Stmt := pr.main.body.getLastD (.Pass default)
noncomputable def lawBody : List Stmt := match lawS with
  | .FunctionDef _ _ body _ _ _ _ _ _ _ => body
  | _ => []
noncomputable def lawScope : Scope := match lawS with
  | .FunctionDef _ _ _ _ _ _ scope _ _ _ => scope
  | _ => default
noncomputable abbrev lawEnv (L fa : Addr) (cd : Value) : Env := envOfC "law" lawScope L fa cd
example (L fa : Addr) (cd : Value) : (lawEnv L fa cd).kindOf "words" = some .cell := rfl
noncomputable def T.snd : T → Int
  | .tup [_, .int n] => n
  | _ => 0
noncomputable def T.hd : T → Nat
  | .list (.int k :: _) => k.toNat
  | _ => 0
noncomputable def bitsOf (script : List Int) : Nat := (3 - (script.take 12).sum % 2).toNat
theorem bits_is (script : List Int) : (3 - (script.take 12).sum % 2 : Int) = (bitsOf script : Nat) ∧ (bitsOf script = 2 ∨ bitsOf script = 3) := by
  unfold bitsOf; lia
theorem pick_nums (nums : List Nat) : ((nums.map pickT).filter (fun _ => true)).map T.snd = nums.map fun (n : Nat) => (n : Int) := by
  induction nums with
  | nil => rfl
  | cons a l ih =>
    rw [List.map_cons, List.filter_cons, if_pos rfl, List.map_cons, ih]; rfl
theorem natT_eq (nums : List Nat) : natT nums = (nums.map fun (n : Nat) => (n : Int)).map T.int := natT_ints nums
theorem walk1 (w : World) {A : Around} {L fa : Addr} {cd : Value} {s : Shared} {E : Value → Shared → Prop} {Q : Flow → Shared → Prop} (hh : A.handled = none) (hdp : A.depth + 30 < recursionLimit) {g : Heap} (G : Gl (KK w) g) (C : CodeHd g 20 16) (g16 : g.get? 16 = none) {script : List Int} (hl : script.length ≤ 63)
    (S : Sta [] (own (lawEnv L fa cd) [] ++ [16]) (lawEnv L fa cd) (upd (fun _ => none) "script" (.list (script.map .int))) [] g s s) (tb : TabSt w (own (lawEnv L fa cd) [] ++ [16]) s.heap)
    (k : ∀ (nums : List Nat) (bits : Nat) (σ : Str → Option T) (s' : Shared), (bits = 2 ∨ bits = 3) → nums.Nodup → (∀ x ∈ nums, 7 ≤ x ∧ x < 55) → nums.length ≤ 6 →
      σ "picked" = some (.list (nums.map pickT)) → σ "count" = some (.int (nums.length : Nat)) → σ "bits" = some (.int (bits : Nat)) → σ "words" = some (.list (nums.map fun n => .str (strOf (wordF bits n)))) →
      Sta [] (own (lawEnv L fa cd) [] ++ [16]) (lawEnv L fa cd) σ [] g s s' → TabSt w (own (lawEnv L fa cd) [] ++ [16]) s'.heap → wpAny (model pr w) (A.deeper (lawEnv L fa cd)) (execs (lawBody.drop 4) (lawEnv L fa cd)) Q E s') :
    wpAny (model pr w) (A.deeper (lawEnv L fa cd)) (execs lawBody (lawEnv L fa cd)) Q E s := by
  obtain ⟨g₁, hg₁, tg₁, sg₁, S₁⟩ := S.tabRebase tb
  have G₁ := (G.mono hg₁).mono S₁.keep
  refine S₁.assign (Ev.callF (a := 45) (G₁.loads rfl rfl rfl rfl rfl) (G₁.1 _ _ rfl) rfl (Evs.cons (S₁.name rfl rfl rfl) Evs.nil rfl) rfl fun s' E' vs q lv r => picks_c w (A := A.deeper _) hh (by rw [depth_deeper]; lia) (G₁.mono q) lv hl r) rfl (.inr ⟨rfl, _, rfl⟩) (fun p hp => by cases hp) rfl fun s₂ S₂ => ?_
  have hinv := picks_inv script (howMany script) (by unfold howMany; split <;> lia)
  have hlen := picked_len script (howMany script)
  generalize (picksAt script (howMany script)).2 = nums at S₂ hinv hlen
  have hnd : nums.Nodup := (List.nodup_append.mp hinv.1).1
  have hrg : ∀ x ∈ nums, 7 ≤ x ∧ x < 55 := fun x hx => hinv.2 x (List.mem_append_left _ hx)
  have h56 : nums.length ≤ 6 := by rw [hlen]; unfold howMany; split <;> lia
  clear hinv hlen
  have G₂ := (G.mono hg₁).mono S₂.keep
  refine S₂.assign (t := .int (nums.length : Nat)) (Ev.eq (Ev.callB (id := "len") (G₂.loadsB rfl (by decide +kernel) (by decide) rfl rfl rfl rfl rfl) (Evs.cons (S₂.name (x := "picked") (t := .list (nums.map pickT)) rfl rfl rfl) Evs.nil rfl) rfl (fun _ => rfl) fun s E vs _ _ r => c_len (by rw [List.length_map]; lia) s E vs r) (by rw [List.length_map])) rfl (.inl rfl) (fun p hp => by cases hp) rfl fun s₃ S₃ => ?_
  have G₃ := (G.mono hg₁).mono S₃.keep
  have hsl : sliceT (script.map T.int) none (some ((12 : Nat) : Int)) none = (script.take 12).map T.int := by rw [slice_hi, List.map_take]
  obtain ⟨eb, hb⟩ := bits_is script
  refine S₃.assign (t := .int (bitsOf script : Nat)) (Ev.eq (Ev.sub Ev.int (Ev.mod (Ev.callB (id := "sum") (G₃.loadsB rfl (by decide +kernel) (by decide) rfl rfl rfl rfl rfl)
    (Evs.cons (Ev.eq (b := .list ((script.take 12).map .int)) (Ev.slice (j := some ((12 : Nat) : Int)) (S₃.name (x := "script") rfl rfl rfl) EvP.none (EvP.int Ev.int) EvP.none (by decide) (by rw [List.length_map]; lia)) (congrArg T.list hsl)) Evs.nil rfl) rfl (fun _ => rfl) fun s E vs _ _ r => c_sum (A := A.deeper _) hh s E vs r) Ev.int (by decide))) (congrArg T.int eb)) rfl (.inr ⟨rfl, _, rfl⟩) (fun p hp => by cases hp) rfl fun s₄ S₄ => ?_
  generalize bitsOf script = bits at S₄ hb
  have tb₄ := S₄.tabEnd tg₁
  have S₅ := S₄.back hg₁ S.cal S.nw S.sh
  have G₅ := G.mono S₅.keep
  -- words
  have hex : ∀ t ∈ nums.map pickT, ∃ n : Nat, t = pickT n ∧ 7 ≤ n ∧ n < 55 := fun t ht => by
    obtain ⟨n, hn, rfl⟩ := List.mem_map.mp ht
    exact ⟨n, rfl, hrg n hn⟩
  refine wpAny_execs_cons (wpAny_Assign_Name (wpAny_Call_NameR ((G₅.loads rfl rfl rfl rfl rfl) _ _ _ _ _ _ (Sub.refl _) ?_)) rfl)
  refine PyProof.Rows.callWith_def rfl (wpAny_mono ((Evs.cons (t := .list (natT nums)) (Ev.eq (Ev.comp (fun _ => true) T.snd rfl (by decide) rfl (by decide) rfl (fun _ => rfl) (Src.list (A := A.deeper _) hh (S₅.name (x := "picked") (t := .list (nums.map pickT)) rfl rfl rfl) (by rw [List.length_map]; lia))
      (fun C h' m v t ht q n e rv => Tests.nil) ?_) (congrArg T.list ?_)) (Evs.cons (S₅.name (x := "bits") (t := .int (bits : Nat)) rfl rfl rfl) Evs.nil rfl) rfl) _ s₄ _ (Sub.refl _) S₅.live) (fun vs₁ s₆ h₆ => ⟨Kp.sub h₆.2 _ _ (G₅.1 _ _ rfl), ?_⟩) fun _ _ e => e) rfl
  · intro C h' m v t ht hp q nn e rv
    obtain ⟨n, rfl, hn1, hn2⟩ := hex t ht
    obtain ⟨tk, hv⟩ := value22 w n hn2 hn1
    have Gq := G₅.mono q
    exact ev_dict (kvs := kvs22 w) (Gq.loads (v := .ref 22) rfl rfl rfl rfl rfl) (dict22 w Gq.1) (Ev.itemT (k := 0) (ev_own nn e rv rfl rfl rfl) Ev.int (by decide) rfl) hv
  · rw [pick_nums, ← natT_eq]
  obtain ⟨r₆, kp₆⟩ := h₆
  have S₆ := S₅.grow kp₆
  have tb₆ := tb₄.keeps (Kp.sub kp₆)
  have h16 : 16 ∈ own (lawEnv L fa cd) [] ++ [16] := List.mem_append_right _ (List.mem_singleton_self _)
  refine wpAny_mono (words_c w (A := A.deeper _) hh (by rw [depth_deeper]; lia) G C S₆.keep g16 tb₆ S₆.live h16 hb hrg (by lia) r₆) (fun v s₇ h₇ => ?_) fun _ _ e => e
  obtain ⟨r₇, tb₇, ⟨h', tk, e⟩, hk₇⟩ := h₇
  subst e
  have live16 : ∃ o, h'.get? 16 = some o := let ⟨ps, e, _⟩ := tb₇; ⟨_, e⟩
  have n16 : 16 ∉ own (lawEnv L fa cd) [] := let ⟨ps, e, _⟩ := tb₆; S₆.not_own' e
  have S₇ := S₆.touch tk h16 n16 g16 hk₇ live16
  refine Sta.storeRaw S₇ rfl (.inr ⟨rfl, _, rfl⟩) (fun p hp => by cases hp) fun s₈ S₈ hv hap => ?_
  have tb₈ := TabSt.but (h' := s₈.heap) tb₇ (fun b o nb e => hap b o (fun m => nb (S₇.sub _ m)) e) (fun o e => hap _ o n16 e)
  have S₉ := S₈.put hv (r₇.apart fun b o nb e => hap b o (fun m => nb (S₇.sub _ m)) e)
  exact k nums bits _ s₈ hb hnd hrg h56 rfl rfl rfl rfl S₉ tb₈
end Mine
end

-- B2
section
open PySem PySem.W PyProof.Rows PySem.Calls
set_option linter.unusedVariables false
set_option maxRecDepth 100000
set_option maxHeartbeats 4000000
namespace Mine
section
variable {prog : Program} {w : World} {A : Around} {Xc X Y : List Addr} {σ : Str → Option T} {μ : Mu} {h₀ h h' : Heap} {s₀ s s' : Shared} {x : Str} {env env₂ : Env} {pos : Pos}
/-- a name of the frame, seen from a comprehension within a comprehension -/
theorem Sta.nameY (S : Sta Xc X env σ μ h₀ s₀ s) {t : T} (e : σ x = some t) (q : Sub s.heap h') (hY : ∀ a ∈ Y, a ∈ X ∨ s.heap.get? a = none) (hk : env.kindOf x = some .cell) (hcl : env₂.cells.lookup x = env.cells.lookup x) (hkc : env₂.kindOf x = some .cell) (hf : env₂.scope.kind = .function)
    (hd : (x == ("__debug__" : Str)) = false) : Ev prog w A env₂ Y h' (.Name x pos) t := by
  obtain ⟨v, a, b⟩ := S.vars x t e
  rcases a with ⟨k, _⟩ | ⟨k, c, hc, e⟩
  · rw [hk] at k; cases k
  · exact Ev.name (loads_cell (hcl.trans hc) (e.keeps q) hf hkc hd) ((b.weaken hY).mono q)
theorem ev_cell {c : Addr} {v : Value} {t : T} (hc : env₂.cells.lookup x = some c) (e : h.IsCell c (some v)) (q : Sub h h') (r : Rep X h v t) (hp : plainT t = true) (hkc : env₂.kindOf x = some .cell) (hf : env₂.scope.kind = .function)
    (hd : (x == ("__debug__" : Str)) = false) : Ev prog w A env₂ Y h' (.Name x pos) t := Ev.name (loads_cell hc (e.keeps q) hf hkc hd) (rep_plain r hp)
end
noncomputable def rowT (nums : List Nat) (bits : Nat) (t : T) : T := .list (((List.range t.num.toNat).map (DD nums bits t.num.toNat)).map .int)
theorem rows_far (nums : List Nat) (bits : Nat) : (((rng 0 nums.length).map T.int).map (rowT nums bits)) = (farOf nums bits).map fun row => T.list (row.map .int) := by
  unfold farOf rng rowT
  rw [List.map_map, List.map_map, List.map_map]
  apply List.map_congr_left
  intro i _
  simp [T.num]
theorem inner_row (nums : List Nat) (bits i : Nat) : (((((rng 0 (i : Int).toNat).map T.int).filter (fun _ => true)).map fun t => DD nums bits i t.num.toNat).map T.int) = ((List.range i).map (DD nums bits i)).map .int := by
  rw [Int.toNat_natCast, rng_natT, map_natT _ _ (DD nums bits i) (fun a _ => rfl)]
theorem walk2 (w : World) {A : Around} {L fa : Addr} {cd : Value} {s : Shared} {E : Value → Shared → Prop} {Q : Flow → Shared → Prop} (hh : A.handled = none) (hdp : A.depth + 30 < recursionLimit) {g : Heap} {X : List Addr} {σ : Str → Option T} (G : Gl (KK w) g) {nums : List Nat} {bits : Nat}
    (hb : bits = 2 ∨ bits = 3) (hnd : nums.Nodup) (hrg : ∀ x ∈ nums, 7 ≤ x ∧ x < 55) (h56 : nums.length ≤ 6)
    (σ1 : σ "picked" = some (.list (nums.map pickT))) (σ2 : σ "count" = some (.int (nums.length : Nat))) (σ3 : σ "bits" = some (.int (bits : Nat))) (σ4 : σ "words" = some (.list (nums.map fun n => .str (strOf (wordF bits n)))))
    (S : Sta X X (lawEnv L fa cd) σ [] g s s)
    (k : ∀ (σ' : Str → Option T) (s' : Shared), σ' "count" = some (.int (nums.length : Nat)) → σ' "told" = some (.list ((rimsOf nums bits).map .int)) → σ' "own" = some (.list ((rimsOf nums bits).map .int)) →
      Sta X X (lawEnv L fa cd) σ' [] g s s' → wpAny (model pr w) (A.deeper (lawEnv L fa cd)) (execs (lawBody.drop 6) (lawEnv L fa cd)) Q E s') :
    wpAny (model pr w) (A.deeper (lawEnv L fa cd)) (execs (lawBody.drop 4) (lawEnv L fa cd)) Q E s := by
  have G₁ := G.mono S.keep
  have hfl := far_len nums bits
  have hfr : ∀ i, i < (farOf nums bits).length → ((farOf nums bits).getD i []).length = i := fun i hi => by
    rw [far_row nums bits i (by lia), List.length_map, List.length_range]
  have hword : ∀ i : Nat, i < nums.length → (nums.map fun n => T.str (strOf (wordF bits n)))[i]? = some (.str (strOf (wordF bits (nums.getD i 0)))) := fun i hi => by
    rw [List.getElem?_map, getD_get nums i 0 hi]; rfl
  have hpick : ∀ i : Nat, i < nums.length → (nums.map pickT)[i]? = some (pickT (nums.getD i 0)) := fun i hi => by
    rw [List.getElem?_map, getD_get nums i 0 hi]; rfl
  have hD : (A.deeper (lawEnv L fa cd)).depth + 20 < recursionLimit := by rw [depth_deeper]; lia
  refine S.assign (t := .list ((rimsOf nums bits).map .int)) (Ev.callF (ts := [farT (farOf nums bits)]) (a := 62) (G₁.loads rfl rfl rfl rfl rfl) (G₁.1 _ _ rfl) rfl (Evs.cons (Ev.eq (ev_compI (ts := (rng 0 nums.length).map T.int) (rowT nums bits) rfl rfl (by decide) (fun k => rfl) (fun h => rfl) rfl (fun _ => rfl)
      (Src.range1 (A := A.deeper _) (n := (nums.length : Int)) hh (G₁.loadsB rfl (by decide +kernel) (by decide) rfl rfl rfl rfl rfl) (S.name σ2 rfl rfl) (by lia) (by lia) rfl) (by rw [List.length_map, rng_length]; lia) ?_) (congrArg T.list (rows_far nums bits))) Evs.nil rfl) rfl
      fun s' E' vs q lv r => ?_) rfl (.inr ⟨rfl, _, rfl⟩) (fun p hp => by cases hp) rfl fun s₂ S₂ => ?_
  · intro C ci Y h' v t ht hXY hY q hc rv
    obtain ⟨i', rfl, i0, i1⟩ := mem_rngT ht
    obtain ⟨i, rfl⟩ := Int.eq_ofNat_of_zero_le i0
    have hi : i < nums.length := by lia
    have Gq := G₁.mono q
    refine Ev.eq (Ev.comp (fun _ => true) (fun t => DD nums bits i t.num.toNat) rfl (by decide) rfl (by decide) rfl (fun _ => rfl) (Src.range1 (A := A.deeper _) (n := (i : Int)) hh (Gq.loadsB rfl (by decide +kernel) (by decide) rfl rfl rfl rfl rfl) (ev_cell rfl hc (Sub.refl _) rv rfl rfl rfl rfl) (by lia) (by lia) rfl)
      (fun C h' m v t ht q n e rv => Tests.nil) ?_) (congrArg T.list (inner_row nums bits i))
    intro C2 h'' m v2 t2 ht2 hp2 q2 n2 e2 rv2
    obtain ⟨j', rfl, j0, j1⟩ := mem_rngT ht2
    obtain ⟨j, rfl⟩ := Int.eq_ofNat_of_zero_le j0
    have hj : j < nums.length := by lia
    have hne : nums.getD i 0 ≠ nums.getD j 0 := fun z => by
      rw [List.getD_eq_getElem?_getD, List.getD_eq_getElem?_getD, List.getElem?_eq_getElem hi, List.getElem?_eq_getElem hj] at z
      exact (List.pairwise_iff_getElem.mp hnd j i hj hi (by lia)) z.symm
    obtain ⟨P, ra, rb, sp⟩ := splits bits (nums.getD i 0) (nums.getD j 0) hb (hrg _ (getD_mem hi)).2 (hrg _ (getD_mem hj)).2 hne
    have G₂ := Gq.mono q2
    refine Ev.eq (Ev.callF (ts := [.str (strOf (P ++ ra)), .str (strOf (P ++ rb)), .int (12 / (bits : Int))]) (a := 38) (G₂.loads rfl rfl rfl rfl rfl) (G₂.1 _ _ rfl) rfl
      (Evs.cons (Ev.eq (Ev.itemL (S.nameY σ4 (q.trans q2) hY rfl rfl rfl rfl rfl) (ev_cell rfl hc q2 rv rfl rfl rfl rfl) (by lia) (by lia) (hword i hi)) (by rw [sp.left]))
        (Evs.cons (Ev.eq (Ev.itemL (S.nameY σ4 (q.trans q2) hY rfl rfl rfl rfl rfl) (ev_own n2 e2 rv2 rfl rfl rfl) (by lia) (by lia) (hword j hj)) (by rw [sp.right]))
          (Evs.cons (Ev.fdiv Ev.int (S.nameY σ3 (q.trans q2) hY rfl rfl rfl rfl rfl) (by lia) (by lia)) Evs.nil rfl) rfl) rfl) rfl
      fun s' E' vs q lv r => lev_c w (A := A.deeper _) hh (by lia) (G₂.mono q) lv sp.same sp.one sp.three sp.short sp.apart sp.lowA sp.lowB sp.cost r) (congrArg T.int ?_)
    exact sp.dist.symm
  · have := rims_c w (A := A.deeper (lawEnv L fa cd)) (E := E') hh (by lia) (G₁.mono q) lv (by rw [hfl]; exact h56) hfr r
    rwa [hfl] at this
  have G₂ := G.mono S₂.keep
  have τ1 : (upd σ "told" (.list ((rimsOf nums bits).map .int))) "picked" = some (.list (nums.map pickT)) := σ1
  have τ2 : (upd σ "told" (.list ((rimsOf nums bits).map .int))) "count" = some (.int (nums.length : Nat)) := σ2
  have τ3 : (upd σ "told" (.list ((rimsOf nums bits).map .int))) "bits" = some (.int (bits : Nat)) := σ3
  refine S₂.assign (t := .list ((rimsOf nums bits).map .int)) (Ev.callF (ts := [farT (farOf nums bits)]) (a := 62) (G₂.loads rfl rfl rfl rfl rfl) (G₂.1 _ _ rfl) rfl (Evs.cons (Ev.eq (ev_compI (ts := (rng 0 nums.length).map T.int) (rowT nums bits) rfl rfl (by decide) (fun k => rfl) (fun h => rfl) rfl (fun _ => rfl)
      (Src.range1 (A := A.deeper _) (n := (nums.length : Int)) hh (G₂.loadsB rfl (by decide +kernel) (by decide) rfl rfl rfl rfl rfl) (S₂.name τ2 rfl rfl) (by lia) (by lia) rfl) (by rw [List.length_map, rng_length]; lia) ?_) (congrArg T.list (rows_far nums bits))) Evs.nil rfl) rfl
      fun s' E' vs q lv r => ?_) rfl (.inr ⟨rfl, _, rfl⟩) (fun p hp => by cases hp) rfl fun s₃ S₃ => ?_
  · intro C ci Y h' v t ht hXY hY q hc rv
    obtain ⟨i', rfl, i0, i1⟩ := mem_rngT ht
    obtain ⟨i, rfl⟩ := Int.eq_ofNat_of_zero_le i0
    have hi : i < nums.length := by lia
    have Gq := G₂.mono q
    refine Ev.eq (Ev.comp (fun _ => true) (fun t => DD nums bits i t.num.toNat) rfl (by decide) rfl (by decide) rfl (fun _ => rfl) (Src.range1 (A := A.deeper _) (n := (i : Int)) hh (Gq.loadsB rfl (by decide +kernel) (by decide) rfl rfl rfl rfl rfl) (ev_cell rfl hc (Sub.refl _) rv rfl rfl rfl rfl) (by lia) (by lia) rfl)
      (fun C h' m v t ht q n e rv => Tests.nil) ?_) (congrArg T.list (inner_row nums bits i))
    intro C2 h'' m v2 t2 ht2 hp2 q2 n2 e2 rv2
    obtain ⟨j', rfl, j0, j1⟩ := mem_rngT ht2
    obtain ⟨j, rfl⟩ := Int.eq_ofNat_of_zero_le j0
    have hj : j < nums.length := by lia
    have G₃ := Gq.mono q2
    exact Ev.callF (ts := [.int (nums.getD i 0 : Nat), .int (nums.getD j 0 : Nat), .int (bits : Nat)]) (a := 57) (G₃.loads rfl rfl rfl rfl rfl) (G₃.1 _ _ rfl) rfl
      (Evs.cons (Ev.itemT (k := 1) (Ev.itemL (S₂.nameY τ1 (q.trans q2) hY rfl rfl rfl rfl rfl) (ev_cell rfl hc q2 rv rfl rfl rfl rfl) (by lia) (by lia) (hpick i hi)) Ev.int (by decide) rfl)
        (Evs.cons (Ev.itemT (k := 1) (Ev.itemL (S₂.nameY τ1 (q.trans q2) hY rfl rfl rfl rfl rfl) (ev_own n2 e2 rv2 rfl rfl rfl) (by lia) (by lia) (hpick j hj)) Ev.int (by decide) rfl)
          (Evs.cons (S₂.nameY τ3 (q.trans q2) hY rfl rfl rfl rfl rfl) Evs.nil rfl) rfl) rfl) rfl
      fun s' E' vs q lv r => apart_c w (A := A.deeper _) hh (by lia) (G₃.mono q) lv hb r
  · have := rims_c w (A := A.deeper (lawEnv L fa cd)) (E := E') hh (by lia) (G₂.mono q) lv (by rw [hfl]; exact h56) hfr r
    rwa [hfl] at this
  exact k (upd (upd σ "told" (.list ((rimsOf nums bits).map .int))) "own" (.list ((rimsOf nums bits).map .int))) s₃ σ2 rfl rfl S₃
end Mine
end

-- B3
section
open PySem PySem.W PyProof.Rows PySem.Calls
set_option linter.unusedVariables false
set_option maxRecDepth 100000
set_option maxHeartbeats 4000000
namespace Mine
theorem shaped_rowsT (l : List (List Nat)) : SeqAt.shaped (pyOf (.list (rowsT l))) = true := by
  have e : rowsT l = (l.map fun r => r.map fun (n : Nat) => (n : Int)).map fun r => T.list (r.map .int) := by
    rw [List.map_map]
    apply List.map_congr_left
    intro r _
    show T.list (natT r) = T.list _
    rw [natT_ints]
  rw [e]; exact shaped_rows _
noncomputable def firstOf (rims : List Int) (t : T) : Int := rimOf rims t.hd
theorem walk3 (w : World) {A : Around} {L fa : Addr} {cd : Value} {s : Shared} {E : Value → Shared → Prop} {Q : Flow → Shared → Prop} (hh : A.handled = none) (hdp : A.depth + 30 < recursionLimit) (hu : A.units + 100 < cLine) {g : Heap} {X : List Addr} {σ : Str → Option T} (G : Gl (KK w) g) {nums : List Nat} {bits : Nat}
    (hb : bits = 2 ∨ bits = 3) (hnd : nums.Nodup) (hrg : ∀ x ∈ nums, 7 ≤ x ∧ x < 55) (h56 : nums.length ≤ 6)
    (σ2 : σ "count" = some (.int (nums.length : Nat))) (σ5 : σ "told" = some (.list ((rimsOf nums bits).map .int))) (σ6 : σ "own" = some (.list ((rimsOf nums bits).map .int)))
    (S : Sta X X (lawEnv L fa cd) σ [] g s s)
    (k : ∀ (σ' : Str → Option T) (s' : Shared), Sta X X (lawEnv L fa cd) σ' [] g s s' → Q (.ret (.bool true)) s') :
    wpAny (model pr w) (A.deeper (lawEnv L fa cd)) (execs (lawBody.drop 6) (lawEnv L fa cd)) Q E s := by
  have hD : (A.deeper (lawEnv L fa cd)).depth + 20 < recursionLimit := by rw [depth_deeper]; lia
  have hu2 : (A.deeper (lawEnv L fa cd)).units + 64 < cLine := by rw [PySem.Around.deeper_units]; lia
  have hrl := rims_len nums bits
  have hpl := plain_law hb hnd (fun x hx => (hrg x hx).2) h56
  generalize rimsOf nums bits = rims at σ5 σ6 hrl hpl
  generalize nums.length = n at σ2 h56 hrl hpl
  have G₁ := G.mono S.keep
  have h64 : (2 : Nat) ^ n ≤ 2 ^ 6 := Nat.pow_le_pow_right (by decide) h56
  refine S.assign (t := .list (rowsT (bestF rims n))) (Ev.eq (Ev.callF (ts := [.list (rims.map .int), .int (n : Nat)]) (a := 67) (G₁.loads rfl rfl rfl rfl rfl) (G₁.1 _ _ rfl) rfl (Evs.cons (S.name σ5 rfl rfl) (Evs.cons (S.name σ2 rfl rfl) Evs.nil rfl) rfl) rfl
    fun s' E' vs q lv r => greedy_c w (A := A.deeper _) hh (by lia) (G₁.mono q) lv h56 hrl r) (by rw [hpl])) rfl (.inl rfl) (fun p hp => by cases hp) rfl fun s₂ S₂ => ?_
  have G₂ := G.mono S₂.keep
  refine S₂.assign (t := .list (rowsT (bestF rims n))) (Ev.callF (ts := [.list (rims.map .int), .int (n : Nat)]) (a := 72) (G₂.loads rfl rfl rfl rfl rfl) (G₂.1 _ _ rfl) rfl (Evs.cons (S₂.name σ6 rfl rfl) (Evs.cons (S₂.name σ2 rfl rfl) Evs.nil rfl) rfl) rfl
    fun s' E' vs q lv r => best_c w (A := A.deeper _) hh (by lia) (G₂.mono q) lv h56 hrl r) rfl (.inl rfl) (fun p hp => by cases hp) rfl fun s₃ S₃ => ?_
  have G₃ := G.mono S₃.keep
  have τ5 : (upd (upd σ "ways" (.list (rowsT (bestF rims n)))) "best" (.list (rowsT (bestF rims n)))) "told" = some (.list (rims.map .int)) := σ5
  have τ6 : (upd (upd σ "ways" (.list (rowsT (bestF rims n)))) "best" (.list (rowsT (bestF rims n)))) "own" = some (.list (rims.map .int)) := σ6
  have hlen : (rowsT (bestF rims n)).length = n + 1 := by rw [List.length_map, bestF, List.length_map, List.length_range]
  have hrow : ∀ t ∈ rowsT (bestF rims n), ∃ m l, t = T.list (natT (m :: l)) ∧ m < 2 ^ n := fun t ht => by
    obtain ⟨r, hr, rfl⟩ := List.mem_map.mp ht
    obtain ⟨m, l, rfl, hm⟩ := best_rows h56 r hr
    exact ⟨m, l, rfl, hm⟩
  refine S₃.ret (Ev.andT (t := .bool true) (Ev.cmp (S₃.name (x := "ways") (t := .list (rowsT (bestF rims n))) rfl rfl rfl) (S₃.name (x := "best") (t := .list (rowsT (bestF rims n))) rfl rfl rfl) rfl (op_same (A := A.deeper _) (shaped_rowsT _) hu2)) trivial rfl
    (Ev.cmp (a := .list ((((rowsT (bestF rims n)).filter (fun _ => true)).map (firstOf rims)).map .int)) (b := .list ((((rowsT (bestF rims n)).filter (fun _ => true)).map (firstOf rims)).map .int)) (c := true)
      (Ev.comp (fun _ => true) (firstOf rims) rfl (by decide) rfl (by decide) rfl (fun _ => rfl) (Src.list (A := A.deeper _) hh (S₃.name (x := "ways") (t := .list (rowsT (bestF rims n))) rfl rfl rfl) (by lia)) (fun C h' m v t ht q n e rv => Tests.nil) ?_)
      (Ev.comp (fun _ => true) (firstOf rims) rfl (by decide) rfl (by decide) rfl (fun _ => rfl) (Src.list (A := A.deeper _) hh (S₃.name (x := "best") (t := .list (rowsT (bestF rims n))) rfl rfl rfl) (by lia)) (fun C h' m v t ht q n e rv => Tests.nil) ?_)
      rfl (op_same (A := A.deeper _) (shaped_ints _) hu2))) S₃.live fun v s₄ rv kp => ?_
  · intro C h' mm v t ht hp q nn e rv
    obtain ⟨m, l, rfl, hm⟩ := hrow t ht
    exact Ev.itemL (S₃.nameC τ5 q rfl rfl rfl rfl rfl) (Ev.itemL (ev_own nn e rv rfl rfl rfl) Ev.int (by decide) (by decide) (t := .int (m : Nat)) rfl) (by lia) (by lia) (get_int rims m (by lia))
  · intro C h' mm v t ht hp q nn e rv
    obtain ⟨m, l, rfl, hm⟩ := hrow t ht
    exact Ev.itemL (S₃.nameC τ6 q rfl rfl rfl rfl rfl) (Ev.itemL (ev_own nn e rv rfl rfl rfl) Ev.int (by decide) (by decide) (t := .int (m : Nat)) rfl) (by lia) (by lia) (get_int rims m (by lia))
  · obtain rfl := rep_bool rv
    exact k _ s₄ (S₃.grow kp)
theorem law_walk (w : World) {A : Around} {L fa : Addr} {cd : Value} {s : Shared} {E : Value → Shared → Prop} (hh : A.handled = none) (hdp : A.depth + 30 < recursionLimit) (hu : A.units + 100 < cLine) {g : Heap} (G : Gl (KK w) g) (C : CodeHd g 20 16) (g16 : g.get? 16 = none) {script : List Int} (hl : script.length ≤ 63)
    (S : Sta [] (own (lawEnv L fa cd) [] ++ [16]) (lawEnv L fa cd) (upd (fun _ => none) "script" (.list (script.map .int))) [] g s s) (tb : TabSt w (own (lawEnv L fa cd) [] ++ [16]) s.heap) :
    wpAny (model pr w) (A.deeper (lawEnv L fa cd)) (execs lawBody (lawEnv L fa cd)) (fun f s' => f = .ret (.bool true) ∧ (∃ h' tk, s' = { s with heap := h', toks := tk }) ∧ Sub g s'.heap ∧ ∃ ps, s'.heap.get? 16 = some (tabObj ps)) E s := by
  refine walk1 w hh hdp G C g16 hl S tb fun nums bits σ s₁ hb hnd hrg h56 σ1 σ2 σ3 σ4 S₁ tb₁ => ?_
  obtain ⟨g₁, hg₁, tg₁, sg₁, R₁⟩ := S₁.tabRebase tb₁
  refine walk2 w hh hdp (G.mono hg₁) hb hnd hrg h56 σ1 σ2 σ3 σ4 R₁ fun σ' s₂ σ2' σ5 σ6 S₂ => ?_
  obtain ⟨g₂, hg₂, sg₂, _, R₂⟩ := S₂.rebase
  refine walk3 w hh hdp hu ((G.mono hg₁).mono hg₂) hb hnd hrg h56 σ2' σ5 σ6 R₂ fun σ'' s₃ S₃ => ?_
  obtain ⟨ps, e, _⟩ := tg₁
  refine ⟨rfl, ?_, hg₁.trans (hg₂.trans S₃.keep), ps, S₃.keep _ _ (hg₂ _ _ e)⟩
  obtain ⟨a, b, e₁⟩ := S₁.sh
  obtain ⟨c, d, e₂⟩ := S₂.sh
  obtain ⟨e, f, e₃⟩ := S₃.sh
  exact ⟨e, f, by rw [e₃, e₂, e₁]⟩
end Mine
end

-- C1
section
open PySem PySem.W PyProof.Rows PySem.Calls
set_option linter.unusedVariables false
set_option maxRecDepth 100000
set_option maxHeartbeats 8000000
namespace Mine
theorem well_list {P : Params} {h : Heap} {a : Addr} {xs : List WData} (w : Well P h (.ref a) (.list xs)) : ∃ vs : List Value, h.get? a = some { cls := .type "list", data := .seq vs.toArray } := by
  cases w with
  | list e _ => exact ⟨_, e⟩
theorem oc_law (L fa : Addr) (cd : Value) : oc (lawEnv L fa cd) = [(("own" : Str), L + 5), (("told" : Str), L + 4), (("words" : Str), L + 3), (("bits" : Str), L + 2), (("picked" : Str), L + 1)] := rfl
theorem own_law (L fa : Addr) (cd : Value) : own (lawEnv L fa cd) [] = [L, L + 5, L + 4, L + 3, L + 2, L + 1] := by
  unfold own
  rw [oc_law]; rfl
theorem law_start (w : World) {s₁ : Shared} {h₁ : Heap} {tk₁ : Nat} {fa a0 : Addr} {cd : Value} {script : List Int} {vs : List Value} {P : Params} {m : Str → Option Value} {o5 o4 o3 o2 o1 : Obj} {c5 c4 c3 c2 c1 : Option Value}
    (hL : s₁.heap.IsList a0 vs.toArray) (w1 : Well P s₁.heap (.ref a0) (ofPy (.list (script.map .int)))) (hI : IntsAre vs script) (lifted : (ghostOf s₁.heap [(20, 16)]).IsList a0 vs.toArray)
    (F : Fr (ghostOf s₁.heap [(20, 16)]) s₁.heap.objs.size h₁ m) (hm : m "script" = some (.ref a0))
    (d5 : o5.data = .cell c5) (d4 : o4.data = .cell c4) (d3 : o3.data = .cell c3) (d2 : o2.data = .cell c2) (d1 : o1.data = .cell c1)
    (N : News (ghostOf s₁.heap [(20, 16)]) s₁.heap.objs.size h₁ [(s₁.heap.objs.size + 5, o5), (s₁.heap.objs.size + 4, o4), (s₁.heap.objs.size + 3, o3), (s₁.heap.objs.size + 2, o2), (s₁.heap.objs.size + 1, o1), (16, tabObj #[])]) :
    Sta [] (own (lawEnv s₁.heap.objs.size fa cd) [] ++ [16]) (lawEnv s₁.heap.objs.size fa cd) (upd (fun _ => none) "script" (.list (script.map .int))) [] (ghostOf s₁.heap [(20, 16)]) { s₁ with heap := h₁, toks := tk₁ } { s₁ with heap := h₁, toks := tk₁ } ∧
      TabSt w (own (lawEnv s₁.heap.objs.size fa cd) [] ++ [16]) h₁ ∧ (ghostOf s₁.heap [(20, 16)]).get? 16 = none := by
  have n16 := N (16, tabObj #[]) (by simp)
  have g16 : (ghostOf s₁.heap [(20, 16)]).get? 16 = none := n16.2.2
  have above : ∀ a, s₁.heap.objs.size ≤ a → (ghostOf s₁.heap [(20, 16)]).get? a = none := fun a ha => Heap.get?_none_of_le (Nat.le_trans F.above ha)
  have hoff : ∀ a ∈ own (lawEnv s₁.heap.objs.size fa cd) [], (ghostOf s₁.heap [(20, 16)]).get? a = none := fun a ha => by
    rw [own_law] at ha
    simp only [List.mem_cons, List.not_mem_nil, or_false] at ha
    rcases ha with rfl | rfl | rfl | rfl | rfl | rfl
    · exact above _ (Nat.le_refl _)
    · exact above _ (Nat.le_add_right ..)
    · exact above _ (Nat.le_add_right ..)
    · exact above _ (Nat.le_add_right ..)
    · exact above _ (Nat.le_add_right ..)
    · exact above _ (Nat.le_add_right ..)
  have hX : ∀ a ∈ own (lawEnv s₁.heap.objs.size fa cd) [] ++ [16], (ghostOf s₁.heap [(20, 16)]).get? a = none := fun a ha => by
    rcases List.mem_append.mp ha with ha | ha
    · exact hoff a ha
    · rw [List.mem_singleton.mp ha]; exact g16
  have hcell : ∀ p ∈ oc (lawEnv s₁.heap.objs.size fa cd), ∃ v, h₁.IsCell p.2 v := fun p hp => by
    rw [oc_law] at hp
    simp only [List.mem_cons, List.not_mem_nil, or_false] at hp
    rcases hp with rfl | rfl | rfl | rfl | rfl
    · exact ⟨_, o5, (N _ (List.mem_cons_self ..)).1, d5⟩
    · exact ⟨_, o4, (N (s₁.heap.objs.size + 4, o4) (by simp)).1, d4⟩
    · exact ⟨_, o3, (N (s₁.heap.objs.size + 3, o3) (by simp)).1, d3⟩
    · exact ⟨_, o2, (N (s₁.heap.objs.size + 2, o2) (by simp)).1, d2⟩
    · exact ⟨_, o1, (N (s₁.heap.objs.size + 1, o1) (by simp)).1, d1⟩
  have hlive : Live (own (lawEnv s₁.heap.objs.size fa cd) [] ++ [16]) h₁ := fun a ha => by
    rcases List.mem_append.mp ha with ha | ha
    · unfold own at ha
      rcases List.mem_cons.mp ha with e | ha
      · obtain ⟨o, _, _, ho, _⟩ := F.ns
        exact ⟨o, e ▸ ho⟩
      · simp only [List.map_nil, List.append_nil] at ha
        obtain ⟨p, hp, rfl⟩ := List.mem_map.mp ha
        obtain ⟨v, o, ho, _⟩ := hcell p hp
        exact ⟨o, ho⟩
    · rw [List.mem_singleton.mp ha]; exact ⟨_, n16.1⟩
  have hplain : h₁.PlainList a0 vs.toArray := by
    obtain ⟨vs', e'⟩ := well_list (xs := ofPys (script.map PyData.int)) w1
    obtain ⟨o, ho, _, n, hd⟩ := lifted
    obtain ⟨o', ho', _, n', hd'⟩ := hL
    rw [of_hideAll _ ho] at e'
    cases e'
    cases hd
    exact ⟨_, F.keep _ _ ho⟩
  have ha0 : a0 ∉ own (lawEnv s₁.heap.objs.size fa cd) [] ++ [16] := fun h => by
    obtain ⟨o, ho, _⟩ := lifted
    rw [hX _ h] at ho; cases ho
  refine ⟨{ sh := ⟨h₁, tk₁, rfl⟩, keep := F.keep, frame := ⟨_, F.ns⟩, cells := hcell, vars := ?_, muts := (fun _ hp => by cases hp), sep := ?_, sub := fun a m => List.mem_append_left _ m, cal := (fun a m => by cases m), live := hlive, off := hoff, nw := fun a m => .inr (hX a m) },
    ⟨#[], n16.1, .inl rfl⟩, g16⟩
  · intro x t e
    unfold upd at e
    by_cases hx : x = "script"
    · rw [if_pos hx] at e; cases e
      subst hx
      exact ⟨.ref a0, .inl ⟨rfl, _, F.ns, hm⟩, .list ha0 hplain (ints_reps hI)⟩
    · rw [if_neg hx] at e; cases e
  · rw [own_law]
    simp
end Mine
end

open PySem PySem.W PyProof.Rows
set_option maxRecDepth 100000 in
set_option maxHeartbeats 8000000 in
theorem PySem.Challenge.cw_re0103_01_holds : PySem.Challenge.rw_re0103_01.Holds :=
  Mine.hd (by
  k_go0
  (all_goals try k_fold)
  rename_i w s₀ s₁ mg mb G Y fa o pm cdv doc ho hcd hg hXP hV hT hB hTE hTW script hs hlay0 hL1 hr1 hl2 as1 as2 a0 vs as3 hL ra w1 r0 hI hr hcond hcondT hDf h₁ tk₁ o5 o4 o3 o2 o1 d5 d4 d3 d2 d1 X0 X' T' K' F' N' l0
  have hgl : Mine.Gl (Mine.KK w) (ghostOf s₁.heap [(20, 16)]) := ⟨X', _, _, _, _, _, T'⟩
  have hlen : script.length ≤ 63 := by omega
  obtain ⟨S, tb, g16⟩ := Mine.law_start (fa := fa) (cd := cdv) (tk₁ := tk₁) w hL w1 hI lifted F' rfl d5 d4 d3 d2 d1 N'
  refine PySem.wpAny_mono (Mine.law_walk w (A := callerA) rfl (by decide) (by decide) hgl codeHd g16 hlen S tb) (fun f s' hq => ?_) (fun _ _ e => e)
  obtain ⟨rfl, ⟨h', tk, rfl⟩, hk, ps, hps⟩ := hq
  refine ⟨⟨.inl ⟨.bool true, .bool true, [], rfl, fun _ => rfl, .bool true, ?_, fun _ => ⟨.nil, fun a ha => by cases ha⟩⟩, hk, rfl, hg⟩, ⟨ps, hps⟩, trivial⟩
  kc_post)
