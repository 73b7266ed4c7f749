import PyProof.Rows.All
import Wide.All
import OpenK.AllK
import Wide.FinOn
import PySem.Challenge.RW_mj0250_01
set_option Elab.async false
set_option maxRecDepth 100000
set_option bootstrap.genMatcherCode false
set_option genSizeOf false
section
open PySem PySem.W PySem.Calls PyProof.Rows
namespace Mine

inductive AV where
  | none
  | bool (b : Bool)
  | int (i : Int)
  | sym (i : Int)
  | str (x : Str)
  | txt (x : Str)
  | lex
  | sio
  | q1
  | q2
  | val (v : Value)

set_option genInjectivity false in
structure Ad where
  lex : Addr
  ld : Addr
  sio : Addr
  sd : Addr
  q1 : Addr
  q2 : Addr
  /-- the deques are there -/
  qs : Bool
set_option genInjectivity false in
structure AdX extends Ad where
  ex : List (Addr × Obj)
instance : CoeTail AdX Ad := ⟨AdX.toAd⟩
instance : CoeHead Ad AdX := ⟨fun P => ⟨P, []⟩⟩

noncomputable def AV.Is (P : Ad) : AV → Value → Prop
  | .none, v => v = .none
  | .bool b, v => v = .bool b
  | .int i, v => ∃ t, v = .int i t
  | .sym i, v => ∃ t, v = .int i t
  | .str x, v => x.length ≤ sizeLine ∧ ∃ t, v = .str x t
  | .txt x, v => x.length ≤ sizeLine ∧ ∃ t, v = .str x t
  | .lex, v => v = .ref P.lex
  | .sio, v => v = .ref P.sio
  | .q1, v => P.qs = true ∧ v = .ref P.q1
  | .q2, v => P.qs = true ∧ v = .ref P.q2
  | .val u, v => v = u

noncomputable def AV.plain : AV → Bool
  | .val _ => false
  | _ => true
theorem AV.Is.handed {P : Ad} {a : AV} {v : Value} (h : a.Is P v) (hp : a.plain = true) : handedIn v = true := by
  cases a <;> simp only [AV.Is] at h
  case val => cases hp
  case int => obtain ⟨_, rfl⟩ := h; rfl
  case sym => obtain ⟨_, rfl⟩ := h; rfl
  case str => obtain ⟨_, _, rfl⟩ := h; rfl
  case txt => obtain ⟨_, _, rfl⟩ := h; rfl
  case q1 => obtain ⟨_, rfl⟩ := h; rfl
  case q2 => obtain ⟨_, rfl⟩ := h; rfl
  all_goals (subst h; rfl)

noncomputable abbrev Fs := List (Str × AV)
noncomputable def aget (x : Str) : Fs → Option AV
  | [] => none
  | (y, a) :: r => match decide (y = x) with
    | true => some a
    | false => aget x r
noncomputable def aput (x : Str) (a : AV) : Fs → Fs
  | [] => [(x, a)]
  | (y, b) :: r => match decide (y = x) with
    | true => (y, a) :: r
    | false => (y, b) :: aput x a r
theorem aget_cons (x y : Str) (a : AV) (r : Fs) : aget x ((y, a) :: r) = if y = x then some a else aget x r := by
  show (match decide (y = x) with | true => some a | false => aget x r) = _
  by_cases h : y = x
  · simp [h]
  · simp [h]
theorem aput_cons (x y : Str) (a b : AV) (r : Fs) : aput x a ((y, b) :: r) = if y = x then (y, a) :: r else (y, b) :: aput x a r := by
  show (match decide (y = x) with | true => (y, a) :: r | false => (y, b) :: aput x a r) = _
  by_cases h : y = x
  · simp [h]
  · simp [h]
theorem aget_aput (x y : Str) (a : AV) : ∀ f : Fs, aget y (aput x a f) = if x = y then some a else aget y f
  | [] => by rw [aput, aget_cons]
  | (z, b) :: r => by
    rw [aput_cons, aget_cons]
    by_cases h : z = x
    · subst h
      rw [if_pos rfl, aget_cons]
      by_cases q : z = y <;> simp [q]
    · rw [if_neg h, aget_cons, aget_aput x y a r]
      by_cases q : z = y
      · subst q
        rw [if_pos rfl, if_pos rfl, if_neg (fun e => h e.symm)]
      · rw [if_neg q, if_neg q]

theorem aput_len (x : Str) (a : AV) : ∀ f : Fs, (aput x a f).length = if (aget x f).isSome then f.length else f.length + 1
  | [] => rfl
  | (z, b) :: r => by
    rw [aput_cons, aget_cons]
    by_cases h : z = x
    · simp [h]
    · simp only [h, if_false, List.length_cons, aput_len x a r]
      split <;> rfl
set_option genInjectivity false in
structure LS where
  loc : Fs
  f0 : Fs
  f1 : Fs

inductive AFl where
  | next
  | brk
  | cont
  | ret (a : AV)

set_option genInjectivity false in
structure Cx where
  a0 : List Str
  a1 : List Str
  ms : Bool → Str → Option Addr
  pr : Str → Option Addr
  gl : Str → Option Value
  sc : List (Str × NameKind)
  c : Value → List AV → Fs → Fs → (AV → Fs → Fs → Prop) → Prop
  wl : Expr → List Stmt → List Stmt → LS → (AFl → LS → Prop) → Prop

set_option genInjectivity false in
structure Ev where
  e : Expr → LS → (AV → LS → Prop) → Prop
  t : Expr → LS → (Bool → LS → Prop) → Prop
  s : Stmt → LS → (AFl → LS → Prop) → Prop

noncomputable def Ev.es (ev : Ev) : List Expr → LS → (List AV → LS → Prop) → Prop
  | [], σ, k => k [] σ
  | e :: r, σ, k => ev.e e σ fun a σ' => Ev.es ev r σ' fun as σ'' => k (a :: as) σ''
noncomputable def noStar : List Expr → Bool
  | [] => true
  | e :: r => match e with
    | .Starred _ _ => false
    | _ => noStar r
noncomputable def Ev.ss (ev : Ev) : List Stmt → LS → (AFl → LS → Prop) → Prop
  | [], σ, k => k .next σ
  | st :: r, σ, k => ev.s st σ fun f σ' => match f with
    | .next => Ev.ss ev r σ' k
    | f => k f σ'
noncomputable def Ev.and (ev : Ev) : List Expr → LS → (Bool → LS → Prop) → Prop
  | [], σ, k => k true σ
  | x :: r, σ, k => ev.t x σ fun b σ' => match b with
    | true => Ev.and ev r σ' k
    | false => k false σ'
noncomputable def Ev.or (ev : Ev) : List Expr → LS → (Bool → LS → Prop) → Prop
  | [], σ, k => k false σ
  | x :: r, σ, k => ev.t x σ fun b σ' => match b with
    | true => k true σ'
    | false => Ev.or ev r σ' k

noncomputable def constA (c : Const) (k : AV → Prop) : Prop := match c with
  | .none => k .none
  | .bool b => k (.bool b)
  | .int i => k (.int i)
  | .str x => (match Nat.ble x.cps.size 100000 with
    | true => k (.str x)
    | false => False)
  | _ => False
noncomputable def nameA (X : Cx) (x : Str) (σ : LS) (k : AV → Prop) : Prop := match decide (x = ("__debug__" : Str)), X.sc.lookup x with
  | false, some .local => (match aget x σ.loc with
    | some a => k a
    | none => False)
  | false, some .globalImplicit => (match X.gl x with
    | some v => k (.val v)
    | none => False)
  | _, _ => False
noncomputable def getA (X : Cx) (b : AV) (a : Str) (σ : LS) (k : AV → LS → Prop) : Prop := match b with
  | .lex => (match X.pr a with
    | some f => X.c (.ref f) [.lex] σ.f0 σ.f1 fun r f0 f1 => (match r.plain with
      | true => k r { σ with f0, f1 }
      | false => False)
    | none => (match X.a0.contains a, aget a σ.f0 with
      | true, some v => k v σ
      | _, _ => False))
  | .sio => (match X.a1.contains a, aget a σ.f1 with
      | true, some v => k v σ
      | _, _ => False)
  | _ => False
noncomputable def setA (X : Cx) (b : AV) (a : Str) (v : AV) (σ : LS) (k : LS → Prop) : Prop := match v.plain, b with
  | true, .lex => (match X.a0.contains a, aget a σ.f0, Nat.blt σ.f0.length 100 with
      | true, some _, _ => k { σ with f0 := aput a v σ.f0 }
      | true, none, true => k { σ with f0 := aput a v σ.f0 }
      | _, _, _ => False)
  | true, .sio => (match X.a1.contains a, aget a σ.f1, Nat.blt σ.f1.length 100 with
      | true, some _, _ => k { σ with f1 := aput a v σ.f1 }
      | true, none, true => k { σ with f1 := aput a v σ.f1 }
      | _, _, _ => False)
  | _, _ => False
noncomputable def addA (a b : AV) (k : AV → Prop) : Prop := match a, b with
  | .sym i, .sym j => k (.sym (i + j))
  | .sym i, .int j => k (.sym (i + j))
  | .txt x, .str y => x.length + y.length ≤ sizeLine ∧ k (.txt (x ++ y))
  | .str x, .str y => x.length + y.length ≤ sizeLine ∧ k (.txt (x ++ y))
  | _, _ => False
noncomputable def cutA (a i j : AV) (k : AV → Prop) : Prop := match a, i, j with
  | .txt x, .sym i, .sym j => k (.txt (Txt.slice x (some i) (some j)))
  | _, _, _ => False
noncomputable def cmpA (op : CmpOp) (a b : AV) (k : Bool → Prop) : Prop := match op with
  | .Is => (match b, a with
    | .none, .none => k true
    | .none, .val _ => False
    | .none, _ => k false
    | .val (.type x), .val (.type y) => k (decide (y = x))
    | _, _ => False)
  | .IsNot => (match b, a with
    | .none, .none => k false
    | .none, .val _ => False
    | .none, _ => k true
    | .val (.type x), .val (.type y) => k (!decide (y = x))
    | _, _ => False)
  | .Eq => (match a, b with
    | .none, .none => k true
    | .str _, .none => k false
    | .txt _, .none => k false
    | .str x, .str y => k (x.cps.toList == y.cps.toList)
    | .txt x, .str y => (x.cps.toList = y.cps.toList → k true) ∧ (x.cps.toList ≠ y.cps.toList → k false)
    | _, _ => False)
  | .NotEq => (match a, b with
    | .str x, .str y => k (x.cps.toList != y.cps.toList)
    | _, _ => False)
  | .In => (match a, b with
    | .str y, .str x => k (!(Builtin.Str.occurrences x y 0 x.length 1).isEmpty)
    | _, _ => False)
  | .GtE => (match a, b with
    | .int i, .int j => k (decide (j ≤ i))
    | .sym i, .sym j => (j ≤ i → k true) ∧ (¬ j ≤ i → k false)
    | _, _ => False)
  | .Gt => (match a, b with
    | .int i, .int j => k (decide (j < i))
    | _, _ => False)
  | .Lt => (match a, b with
    | .int i, .int j => k (decide (i < j))
    | .sym i, .sym j => (i < j → k true) ∧ (¬ i < j → k false)
    | _, _ => False)
  | _ => False
noncomputable def truthA (a : AV) (k : Bool → Prop) : Prop := match a with
  | .none => k false
  | .bool b => k b
  | .int i => k (i != 0)
  | .str x => k ((x.length : Int) != 0)
  | .txt x => (x.length ≠ 0 → k true) ∧ (x.length = 0 → k false)
  | .q1 => k false
  | .q2 => k false
  | _ => False
noncomputable def strsOf : List Expr → Option (List Str)
  | [] => some []
  | .Constant (.str x) _ _ :: r => (match strsOf r with
    | some l => some (x :: l)
    | none => none)
  | _ :: _ => none

noncomputable def bltA (id : String) (as : List AV) (k : AV → Prop) : Prop := match decide (id = "len"), as with
  | true, [.txt x] => k (.sym x.length)
  | _, _ => False

noncomputable def typA (T : String) (as : List AV) (k : AV → Prop) : Prop := match as with
  | [.str _] => (match decide (T = "type") with
    | true => k (.val (.type "str"))
    | false => False)
  | [.txt _] => (match decide (T = "type") with
    | true => k (.val (.type "str"))
    | false => False)
  | [.int i] => (match decide (T = "type"), decide (T = "int") with
    | true, _ => k (.val (.type "int"))
    | _, true => k (.int i)
    | _, _ => False)
  | _ => False

noncomputable def stepE (X : Cx) (ev : Ev) (e : Expr) (σ : LS) (k : AV → LS → Prop) : Prop := match e with
  | .Constant c _ _ => constA c fun a => k a σ
  | .Name x _ => nameA X x σ fun a => k a σ
  | .Attribute o a _ => (match o with
    | .Name x p => ev.e (.Name x p) σ fun b σ' => getA X b a σ' k
    | .Attribute o' a' p => ev.e (.Attribute o' a' p) σ fun b σ' => getA X b a σ' k
    | _ => False)
  | .BinOp l op r _ => (match op with
    | .Add => ev.e l σ fun a σ' => ev.e r σ' fun b σ'' => addA a b fun c => k c σ''
    | _ => False)
  | .UnaryOp op x _ => (match op with
    | .USub => ev.e x σ fun a σ' => (match a with
      | .int i => k (.int (-i)) σ'
      | _ => False)
    | _ => False)
  | .Subscript v sl _ => (match sl with
    | .Slice (some lo) (some hi) none _ => ev.e v σ fun a σ1 => ev.e lo σ1 fun i σ2 => ev.e hi σ2 fun j σ3 => cutA a i j fun c => k c σ3
    | _ => False)
  | .Call f args kws cp => (match noStar args, kws with
    | true, [] => (match f with
      | .Name x _ => (match decide (x = ("__debug__" : Str)), X.sc.lookup x, X.gl x with
        | false, some .globalImplicit, some v => (match v with
          | .ref f => ev.es args σ fun as σ' => X.c (.ref f) as σ'.f0 σ'.f1 fun r f0 f1 => k r { σ' with f0, f1 }
          | .builtin id => ev.es args σ fun as σ' => bltA id as fun r => k r σ'
          | .type T => ev.es args σ fun as σ' => typA T as fun r => k r σ'
          | _ => False)
        | _, _, _ => False)
      | .Attribute o m ap => (match Nat.blt args.length 30 && ap.endLine == cp.line, o with
        | true, .Name x p => ev.e (.Name x p) σ fun b σ1 => (match b with
          | .lex => (match X.ms true m, aget m σ1.f0 with
            | some f, none => ev.es args σ1 fun as σ' => X.c (.ref f) (.lex :: as) σ'.f0 σ'.f1 fun r f0 f1 => k r { σ' with f0, f1 }
            | _, _ => False)
          | .sio => (match X.ms false m, aget m σ1.f1 with
            | some f, none => ev.es args σ1 fun as σ' => X.c (.ref f) (.sio :: as) σ'.f0 σ'.f1 fun r f0 f1 => k r { σ' with f0, f1 }
            | _, _ => False)
          | _ => False)
        | true, .Attribute o' a' p => ev.e (.Attribute o' a' p) σ fun b σ1 => (match b with
          | .sio => (match X.ms false m, aget m σ1.f1 with
            | some f, none => ev.es args σ1 fun as σ' => X.c (.ref f) (.sio :: as) σ'.f0 σ'.f1 fun r f0 f1 => k r { σ' with f0, f1 }
            | _, _ => False)
          | _ => False)
        | _, _ => False)
      | _ => False)
    | _, _ => False)
  | _ => False

noncomputable def stepT (_X : Cx) (ev : Ev) (e : Expr) (σ : LS) (k : Bool → LS → Prop) : Prop := match e with
  | .Compare l ops rs _ => (match ops, rs with
    | [op], [r] => (match r with
      | .Set _ _ _ => False
      | .Tuple es _ _ => (match op, strsOf es, Nat.ble es.length 100 with
        | .In, some ys, true => ev.e l σ fun a σ' => (match a with
          | .str x => k (ys.any (· == x)) σ'
          | _ => False)
        | _, _, _ => False)
      | r => ev.e l σ fun a σ' => ev.e r σ' fun b σ'' => cmpA op a b fun t => k t σ'')
    | _, _ => False)
  | .BoolOp op xs _ => (match op with
    | .And => ev.and xs σ k
    | .Or => ev.or xs σ k)
  | .UnaryOp op x _ => (match op with
    | .Not => ev.t x σ fun b σ' => k (!b) σ'
    | _ => False)
  | .Name x p => ev.e (.Name x p) σ fun a σ' => truthA a fun t => k t σ'
  | .Attribute o a p => ev.e (.Attribute o a p) σ fun a σ' => truthA a fun t => k t σ'
  | .Constant c u p => ev.e (.Constant c u p) σ fun a σ' => truthA a fun t => k t σ'
  | _ => False

noncomputable def noComp : Expr → Bool
  | .ListComp .. | .SetComp .. | .DictComp .. => false
  | _ => true

noncomputable def stepS (X : Cx) (ev : Ev) (st : Stmt) (σ : LS) (k : AFl → LS → Prop) : Prop := match st with
  | .If t b o _ => ev.t t σ fun c σ' => (match c with
    | true => ev.ss b σ' k
    | false => ev.ss o σ' k)
  | .Assign ts v _ => (match noComp v with
    | true => (match ts with
      | [] => False
      | t :: r => (match r with
        | _ :: _ => False
        | [] => (match t with
          | .Name x _ => (match X.sc.lookup x with
            | some .local => ev.e v σ fun a σ' => k .next { σ' with loc := aput x a σ'.loc }
            | _ => False)
          | .Attribute o a _ => (match o with
            | .Name x p => ev.e v σ fun b σ' => ev.e (.Name x p) σ' fun c σ'' => setA X c a b σ'' fun σ3 => k .next σ3
            | _ => False)
          | _ => False)))
    | false => False)
  | .AugAssign t op v _ => (match op, t with
    | .Add, .Attribute o a _ => (match o with
      | .Name x p => ev.e (.Name x p) σ fun c σ1 => getA X c a σ1 fun old σ2 => ev.e v σ2 fun b σ3 => addA old b fun new => setA X c a new σ3 fun σ4 => k .next σ4
      | _ => False)
    | _, _ => False)
  | .Return v _ => (match v with
    | some e => ev.e e σ fun a σ' => k (.ret a) σ'
    | none => k (.ret .none) σ)
  | .Expr e _ => (match noComp e with
    | true => ev.e e σ fun a σ' => (match a with
      | .none => k .next σ'
      | _ => False)
    | false => False)
  | .While t b o _ => X.wl t b o σ k
  | .Break _ => k .brk σ
  | .Continue _ => k .cont σ
  | .Pass _ => k .next σ
  | _ => False

noncomputable def ev (X : Cx) : Nat → Ev
  | 0 => ⟨fun _ _ _ => False, fun _ _ _ => False, fun _ _ _ => False⟩
  | n + 1 => ⟨stepE X (ev X n), stepT X (ev X n), stepS X (ev X n)⟩
end Mine
end
section
open PySem PySem.W PySem.Calls PyProof.Rows
namespace Mine

theorem getL_of (x : Str) (es : List DictEntry) : getL x es = match es.find? (·.key.isStr x) with
    | some e => some (some e.val)
    | none => if es.any (·.refKey) then none else some none := rfl
noncomputable def StrKs (es : List DictEntry) : Prop := ∀ e ∈ es, ∃ x t, e.key = .str x t
theorem StrKs.noRef {es : List DictEntry} (h : StrKs es) : es.any (·.refKey) = false := by
  rw [List.any_eq_false]
  intro e he
  obtain ⟨x, t, hk⟩ := h e he
  simp [DictEntry.refKey, hk]
theorem isStr_str (x y : Str) (t : Tok) : (Value.str x t).isStr y = decide (x = y) := by
  show (x == y) = _
  rfl
theorem StrKs.put {x : Str} {hs : Int} {t : Tok} {v : Value} : ∀ {es : List DictEntry}, StrKs es → StrKs (putL x hs (.str x t) v es)
  | [], _ => by
    intro e he
    simp only [putL, List.mem_singleton] at he
    subst he
    exact ⟨x, t, rfl⟩
  | e :: r, h => by
    intro e' he
    unfold putL at he
    split at he
    · rcases List.mem_cons.mp he with rfl | he
      · exact h e (.head _)
      · exact h e' (.tail _ he)
    · rcases List.mem_cons.mp he with rfl | he
      · exact h _ (.head _)
      · exact StrKs.put (fun q hq => h q (.tail _ hq)) e' he
theorem getL_eq {es : List DictEntry} (h : StrKs es) (y : Str) : getL y es = some ((es.find? (·.key.isStr y)).map (·.val)) := by
  rw [getL_of]
  cases es.find? (·.key.isStr y) with
  | some e => rfl
  | none => simp only [h.noRef]; rfl
theorem find_put (x y : Str) (hs : Int) (t : Tok) (v : Value) : ∀ {es : List DictEntry}, StrKs es →
    ((putL x hs (.str x t) v es).find? (·.key.isStr y)).map (·.val) = if x = y then some v else (es.find? (·.key.isStr y)).map (·.val)
  | [], _ => by
    simp only [putL, List.find?_cons, List.find?_nil, isStr_str]
    by_cases h : x = y <;> simp [h]
  | e :: r, h => by
    obtain ⟨z, tz, hz⟩ := h e (.head _)
    have ih := find_put x y hs t v (fun q hq => h q (.tail _ hq) : StrKs r)
    unfold putL
    rw [hz, isStr_str]
    by_cases q : z = x
    · subst q
      simp only [decide_true, if_true, List.find?_cons, hz, isStr_str]
      by_cases p : z = y
      · simp [p]
      · simp [p]
    · simp only [q, decide_false, Bool.false_eq_true, if_false, List.find?_cons, hz, isStr_str]
      by_cases p : z = y
      · subst p
        simp [show ¬ x = z from fun e => q e.symm]
      · simp only [p, decide_false]
        exact ih
theorem getL_put {x y : Str} {hs : Int} {t : Tok} {v : Value} {es : List DictEntry} (h : StrKs es) : getL y (putL x hs (.str x t) v es) = if x = y then some (some v) else getL y es := by
  rw [getL_eq h.put, find_put x y hs t v h, getL_eq h]
  by_cases q : x = y <;> simp [q]
theorem putL_len {x : Str} {hs : Int} {t : Tok} {v : Value} : ∀ {es : List DictEntry}, (es.find? (·.key.isStr x)).isSome = true → (putL x hs (.str x t) v es).length = es.length
  | [], h => by cases h
  | e :: r, h => by
    unfold putL
    rw [List.find?_cons] at h
    cases q : e.key.isStr x with
    | true => simp
    | false =>
      rw [q] at h
      simp only [Bool.false_eq_true, if_false, List.length_cons]
      rw [putL_len h]

structure EsIs (P : Ad) (es : List DictEntry) (fs : Fs) : Prop where
  ks : StrKs es
  len : es.length ≤ fs.length
  fit : fs.length ≤ 100
  at_ : ∀ x, match aget x fs with
    | some a => ∃ v, getL x es = some (some v) ∧ a.Is P v ∧ handedIn v = true
    | none => getL x es = some none
theorem EsIs.get {P : Ad} {es : List DictEntry} {fs : Fs} (h : EsIs P es fs) {x : Str} {a : AV} (e : aget x fs = some a) : ∃ v, getL x es = some (some v) ∧ a.Is P v ∧ handedIn v = true := by
  have := h.at_ x
  rw [e] at this
  exact this
theorem EsIs.miss {P : Ad} {es : List DictEntry} {fs : Fs} (h : EsIs P es fs) {x : Str} (e : aget x fs = none) : getL x es = some none := by
  have := h.at_ x
  rw [e] at this
  exact this
theorem putL_len1 {x : Str} {hs : Int} {t : Tok} {v : Value} : ∀ {es : List DictEntry}, (putL x hs (.str x t) v es).length ≤ es.length + 1
  | [] => Nat.le_refl _
  | e :: r => by
    unfold putL
    split
    · simp
    · simp only [List.length_cons]
      exact Nat.succ_le_succ putL_len1
theorem EsIs.put {P : Ad} {es : List DictEntry} {fs : Fs} (h : EsIs P es fs) {x : Str} {a : AV} {v : Value} {hs : Int} {t : Tok} (e : (aget x fs).isSome = true ∨ fs.length < 100) (ha : a.Is P v) (hv : handedIn v = true) :
    EsIs P (putL x hs (.str x t) v es) (aput x a fs) := by
  have hl := h.len
  have hf := h.fit
  refine ⟨h.ks.put, ?_, ?_, fun y => ?_⟩
  · rw [aput_len]
    split
    · rename_i q
      rw [putL_len]
      · exact hl
      · cases q' : aget x fs with
        | none => rw [q'] at q; cases q
        | some b =>
          obtain ⟨u, hu, _⟩ := h.get q'
          rw [getL_eq h.ks] at hu
          cases q2 : es.find? (·.key.isStr x) with
          | none => rw [q2] at hu; cases hu
          | some _ => rfl
    · exact Nat.le_trans putL_len1 (Nat.succ_le_succ hl)
  · rw [aput_len]
    split
    · exact hf
    · rename_i q
      rcases e with e | e
      · exact absurd e q
      · exact e
  · rw [aget_aput, getL_put h.ks]
    by_cases q : x = y
    · simp only [q, if_true]
      exact ⟨v, rfl, ha, hv⟩
    · simp only [q, if_false]
      exact h.at_ y

structure Dst (P : AdX) : Prop where
  a : P.lex ≠ P.ld
  b : P.sio ≠ P.ld
  c : P.sd ≠ P.ld
  d : P.lex ≠ P.sd
  e : P.sio ≠ P.sd
  x : ∀ p ∈ P.ex, p.1 ≠ P.ld ∧ p.1 ≠ P.sd
noncomputable def led (P : AdX) (e0 : List DictEntry) (n0 : Nat) (e1 : List DictEntry) (n1 : Nat) : List (Addr × Obj) :=
  (P.lex, instObj 746 P.ld) :: (P.ld, dictOf e0 n0) :: (P.sio, instObj 611 P.sd) :: (P.sd, dictOf e1 n1) :: P.ex
noncomputable def FO (P : AdX) (g : Heap) (L : Addr) (m : Str → Option Value) (f0 f1 : Fs) (h : Heap) : Prop :=
  Fr g L h m ∧ ∃ e0 n0 e1 n1, News g L h (led P e0 n0 e1 n1) ∧ EsIs P e0 f0 ∧ EsIs P e1 f1
noncomputable def LocIs (P : Ad) (m : Str → Option Value) (loc : Fs) : Prop := ∀ x a, aget x loc = some a → ∃ v, m x = some v ∧ a.Is P v
noncomputable def Rep (P : AdX) (g : Heap) (L : Addr) (σ : LS) (h : Heap) : Prop := ∃ m, FO P g L m σ.f0 σ.f1 h ∧ LocIs P m σ.loc

noncomputable def isBm (K : Frag) (v : Value) : Bool := match v with
  | .ref a => (match K.lookup a with
    | some o => (match o.data with
      | .fields _ => o.cls == .type "builtin_function_or_method"
      | _ => false)
    | none => false)
  | _ => false
noncomputable def keepB (K : Frag) (v : Value) : Bool := keepIn K v || isBm K v
theorem keeps_B {K : Frag} {M : Model} {f : Value} (hk : keepB K f = true) (h : Heap) (X : K.In h) : ∃ k, (k = Keeper.frame ∨ k = Keeper.machine ∨ k = Keeper.boundFrame) ∧ Looks M h (keeperOf f) k := by
  unfold keepB at hk
  rcases Bool.or_eq_true_iff.mp hk with hk | hk
  · exact keeps_K hk h X
  · unfold isBm at hk
    split at hk
    · rename_i a
      split at hk
      · rename_i o ho
        obtain ⟨oc, od, odt, osl⟩ := o
        dsimp only at hk
        split at hk
        · rename_i e
          obtain rfl := beq_iff_eq.mp hk
          refine ⟨.machine, .inr (.inl rfl), (Looks.ld (part := none) (X _ _ ho)).andThen ?_⟩
          exact .now
        · cases hk
      · cases hk
    · cases hk
section
variable {M : Model} {A : Around} {E : Value → Shared → Prop} {s : Shared} {K : Frag} {env : Env} {pos : Pos} {f : Value} {first : List Value} {Q : Value → Shared → Prop}
theorem callWith_KB {h₀ : Heap} {e : Expr} {rest : List Expr} (_X : K.In h₀) (hk : keepB K f = true) (h : wpAny M A (spliced (backTo pos (starEach (e :: rest) env))) (fun vs s₁ => K.In s₁.heap ∧ wpAny M A (call f (first ++ vs)) Q E s₁) E s)
    (he : starEach (e :: rest) env = (false, eval e env) :: starEach rest env := by rfl) (hplain : (backTo pos (starEach rest env)).any (·.1) = false := by rfl) :
    wpAny M A (callWith pos f first (backTo pos (starEach (e :: rest) env)) []) Q E s := by
  rw [he] at h ⊢
  exact callWith_of (by show ((false || (backTo pos (starEach rest env)).any (·.1)) || false) = false; rw [hplain]; rfl) (keeps_B hk) (evalArgs_plain h)
theorem callWith_KB0 (X : K.In s.heap) (hk : keepB K f = true) (h : wpAny M A (call f (first ++ [])) Q E s) : wpAny M A (callWith pos f first (backTo pos (starEach [] env)) []) Q E s :=
  callWith_of rfl (keeps_B hk) (evalArgs_nil3 ⟨X, h⟩)
end
structure AttrOk (K : Frag) (C : Addr) (x : Str) : Prop where
  pg : plainGet K C x = true
  hd : hasDictIn K C = true
  at_ : ∃ attr, findIn K (.ref C) x = some attr ∧ noGet K attr = true
  sa : findIn K (.ref C) "__setattr__" = some (some (.builtin "object.__setattr__"))
  po : plainOver K C = true
  tk : takerIn K C x = some none
structure MethOk (K : Frag) (C : Addr) (x : Str) (f : Addr) : Prop where
  pg : plainGet K C x = true
  fi : findIn K (.ref C) x = some (some (.ref f))
  fn : isFn K (.ref f) = true
  kp : keepB K (.ref f) = true
structure PropOk (K : Frag) (C : Addr) (x : Str) (f : Addr) : Prop where
  pg : plainGet K C x = true
  hd : hasDictIn K C = true
  pr : ∃ p rest, findIn K (.ref C) x = some (some (.ref p)) ∧ specialIn K (.ref p) "__get__" = some (some (.builtin "property.__get__")) ∧ takesIn K (.ref p) = some true ∧ recIn K p "property" = some (.ref f :: rest)
noncomputable def GlobOk (K : Frag) (x : Str) (v : Value) : Prop :=
  (nsIn K mainGlobals x = some (some v) ∨ (nsIn K mainGlobals x = some none ∧ nsIn K builtinsNs x = some (some v))) ∧ ∀ f, v = .ref f → keepB K v = true
structure KX (K : Frag) (X : Cx) : Prop where
  a0 : ∀ x, X.a0.contains x = true → AttrOk K 746 x
  a1 : ∀ x, X.a1.contains x = true → AttrOk K 611 x
  ms : ∀ b x f, X.ms b x = some f → MethOk K (cond b 746 611) x f
  pr : ∀ x f, X.pr x = some f → PropOk K 746 x f
  gl : ∀ x v, X.gl x = some v → GlobOk K x v
noncomputable abbrev dqO : Obj := { cls := .type "collections.deque", data := .fields #[.none, .int 0 0] }
structure Gd (K : Frag) (P : AdX) (g : Heap) : Prop where
  kin : K.In g
  nl : g.NoLimit
  mg : ∃ mg, g.Ns mainGlobals mg
  mb : ∃ mb, g.Ns builtinsNs mb
  dst : Dst P
  q1 : P.qs = true → g.get? P.q1 = some dqO
  q2 : P.qs = true → g.get? P.q2 = some dqO
noncomputable def okA (n : Nat) (A : Around) : Prop := A.handled = none ∧ A.depth + n < recursionLimit ∧ A.units + 8 * n < cLine
theorem okA.le {n m : Nat} {A : Around} (h : okA n A) (hm : m ≤ n) : okA m A := ⟨h.1, by have := h.2.1; omega, by have := h.2.2; omega⟩
theorem okA.in1 {n : Nat} {A : Around} (h : okA (n + 1) A) : okA n A.in1 := ⟨h.1, by have := h.2.1; show A.depth + n < _; omega, by have := h.2.2; show A.units + 1 + 8 * n < _; omega⟩

theorem ns_of {K : Frag} {h : Heap} {a : Addr} {mg : Str → Option Value} {n : Str} {r : Option Value} (X : K.In h) (G : h.Ns a mg) (e : nsIn K a n = some r) : mg n = r := by
  obtain ⟨o, es, ep, ho, hd, _, hf⟩ := G
  unfold nsIn at e
  split at e
  · rename_i c d es' n' sl q
    have := X _ _ q
    rw [ho] at this
    cases this
    cases hd
    rw [← hf]
    unfold nsFind findBy
    rw [← Array.find?_toList]
    split at e
    · rename_i en he
      cases e
      rw [he]; rfl
    · rename_i he
      split at e
      · cases e
      · cases e; rw [he]; rfl
  · cases e
end Mine
end
section
open PySem PySem.W PySem.Calls PyProof.Rows
namespace Mine

structure EnvOk (env : Env) (sc : List (Str × NameKind)) (L : Addr) : Prop where
  kind : env.scope.kind = .function
  loc : env.locals = L
  glo : env.globals = mainGlobals
  blt : env.builtins = builtinsNs
  sc : env.scope.names = sc

section
variable {prog : Program} {w : World} {K : Frag} {P : AdX} {X : Cx} {g : Heap} {L : Addr} {env : Env} {n : Nat} {A : Around} {s : Shared} {E : Value → Shared → Prop} {m : Str → Option Value}

noncomputable def IsAll (P : Ad) : List AV → List Value → Prop
  | [], [] => True
  | a :: r, v :: t => a.Is P v ∧ IsAll P r t
  | _, _ => False

noncomputable def Kp (P : Ad) (h h' : Heap) : Prop := ∀ b o, h.get? b = some o → b ∉ [P.lex, P.ld, P.sio, P.sd] → h'.get? b = some o

noncomputable def SndC (prog : Program) (w : World) (K : Frag) (P : AdX) (n : Nat) (c : Value → List AV → Fs → Fs → (AV → Fs → Fs → Prop) → Prop) : Prop :=
  ∀ f args f0 f1 k, c f args f0 f1 k → ∀ A g L m s vals R, okA n A → Gd K P g → FO P g L m f0 f1 s.heap → IsAll P args vals →
    (∀ v a f0' f1' h' t', FO P g L m f0' f1' h' → Kp P s.heap h' → a.Is P v → k a f0' f1' → R (.ok (.ret v)) { s with heap := h', toks := t' }) → codeAny (model prog w) A (.call f ⟨vals, []⟩) R s

noncomputable def SE (prog : Program) (w : World) (P : AdX) (g : Heap) (L : Addr) (env : Env) (n : Nat) (t : Expr → LS → (AV → LS → Prop) → Prop) : Prop :=
  ∀ e σ k, t e σ k → ∀ A s Q E, okA (n + 1) A → Rep P g L σ s.heap → (∀ v a σ' h' t', Rep P g L σ' h' → a.Is P v → k a σ' → Q v { s with heap := h', toks := t' }) → wpAny (model prog w) A (eval e env) Q E s
noncomputable def ST (prog : Program) (w : World) (P : AdX) (g : Heap) (L : Addr) (env : Env) (n : Nat) (t : Expr → LS → (Bool → LS → Prop) → Prop) : Prop :=
  ∀ e σ k, t e σ k → ∀ A s Q E, okA (n + 1) A → Rep P g L σ s.heap → (∀ b σ' h' t', Rep P g L σ' h' → k b σ' → Q b { s with heap := h', toks := t' }) → wpAny (model prog w) A (isTrue e env (eval e env)) Q E s
noncomputable def FlIs (P : Ad) : AFl → Flow → Prop
  | .next, f => f = .next
  | .brk, f => f = .brk
  | .cont, f => f = .cont
  | .ret a, f => ∃ v, f = .ret v ∧ a.Is P v
noncomputable def SS (prog : Program) (w : World) (P : AdX) (g : Heap) (L : Addr) (env : Env) (n : Nat) (t : Stmt → LS → (AFl → LS → Prop) → Prop) : Prop :=
  ∀ e σ k, t e σ k → ∀ A s Q E, okA (n + 1) A → Rep P g L σ s.heap → (∀ f b σ' h' t', Rep P g L σ' h' → FlIs P b f → k b σ' → Q f { s with heap := h', toks := t' }) → wpAny (model prog w) A (exec e env) Q E s
noncomputable def SSs (prog : Program) (w : World) (P : AdX) (g : Heap) (L : Addr) (env : Env) (n : Nat) (t : List Stmt → LS → (AFl → LS → Prop) → Prop) : Prop :=
  ∀ e σ k, t e σ k → ∀ A s Q E, okA (n + 1) A → Rep P g L σ s.heap → (∀ f b σ' h' t', Rep P g L σ' h' → FlIs P b f → k b σ' → Q f { s with heap := h', toks := t' }) → wpAny (model prog w) A (execs e env) Q E s

theorem snd_const {c : Const} {u : Nat} {p : Pos} {Q : Value → Shared → Prop} {k : AV → Prop} (h : constA c k) (hq : ∀ v a t', a.Is P v → k a → Q v { s with toks := t' }) : wpAny (model prog w) A (eval (.Constant c u p) env) Q E s := by
  unfold constA at h
  split at h
  · exact fun _ _ _ => hq .none .none s.toks rfl h
  · exact fun _ _ _ => hq (.bool _) (.bool _) s.toks rfl h
  · exact fun _ _ _ => hq (.int _ s.toks) (.int _) (s.toks + 1) ⟨_, rfl⟩ h
  · split at h
    · rename_i x _ hx
      refine Constant_str (hq (.str _ s.toks) (.str _) (s.toks + 1) ⟨?_, _, rfl⟩ h)
      have : x.cps.size ≤ 100000 := Nat.le_of_ble_eq_true hx
      show x.cps.size ≤ 2 ^ 24
      omega
    · exact h.elim
  · exact h.elim

theorem snd_name {x : Str} {p : Pos} {σ : LS} {Q : Value → Shared → Prop} {k : AV → Prop} (hX : KX K X) (G : Gd K P g) (hE : EnvOk env X.sc L) (R : Rep P g L σ s.heap) (h : nameA X x σ k) (hq : ∀ v a, a.Is P v → k a → Q v s) :
    wpAny (model prog w) A (eval (.Name x p) env) Q E s := by
  obtain ⟨m, ⟨F, _⟩, hl⟩ := R
  have hk : ∀ y, env.kindOf y = X.sc.lookup y := fun y => by unfold Env.kindOf; rw [hE.sc]
  unfold nameA at h
  split at h
  · rename_i hd hs
    have hd' : (x == ("__debug__" : Str)) = false := hd
    split at h
    · rename_i a ha
      obtain ⟨v, hv, hi⟩ := hl x a ha
      refine wpAny_Name (wpAny_loadName_local hE.kind ((hk x).trans hs) (by rw [hE.loc]; exact F.ns) hv (hq v a hi h)) hd'
    · exact h.elim
  · rename_i hd hs
    have hd' : (x == ("__debug__" : Str)) = false := hd
    split at h
    · rename_i v hv
      refine Name_function_global hE.kind ((hk x).trans hs) ?_ hd'
      obtain ⟨mg, hg⟩ := G.mg
      obtain ⟨mb, hb⟩ := G.mb
      rcases (hX.gl x v hv).1 with e | ⟨e1, e2⟩
      · exact loadGlobal_global (by rw [hE.glo]; exact hg.keeps F.keep) (ns_of G.kin hg e) (hq v (.val v) rfl h)
      · exact loadGlobal_builtin (by rw [hE.glo]; exact hg.keeps F.keep) (ns_of G.kin hg e1) (by rw [hE.blt]; exact hb.keeps F.keep) (ns_of G.kin hb e2) (hq v (.val v) rfl h)
    · exact h.elim
  · exact h.elim

theorem FO.inst0 {f0 f1 : Fs} {h : Heap} (R : FO P g L m f0 f1 h) : ∃ e0 n0, InstAt h P.lex (instObj 746 P.ld) 746 (some (dictOf e0 n0)) ∧ EsIs P e0 f0 := by
  obtain ⟨_, e0, n0, e1, n1, N, i0, _⟩ := R
  exact ⟨e0, n0, InstAt.of_news (sl := #[]) N (.head _) (.tail _ (.head _)), i0⟩
theorem FO.inst1 {f0 f1 : Fs} {h : Heap} (R : FO P g L m f0 f1 h) : ∃ e1 n1, InstAt h P.sio (instObj 611 P.sd) 611 (some (dictOf e1 n1)) ∧ EsIs P e1 f1 := by
  obtain ⟨_, e0, n0, e1, n1, N, _, i1⟩ := R
  exact ⟨e1, n1, InstAt.of_news (sl := #[]) N (.tail _ (.tail _ (.head _))) (.tail _ (.tail _ (.tail _ (.head _)))), i1⟩

theorem snd_get {b : AV} {a : Str} {σ : LS} {bv : Value} {Q : Value → Shared → Prop} {k : AV → LS → Prop} {x : Bool} (hX : KX K X) (G : Gd K P g) (hC : SndC prog w K P n X.c) (hA : okA (n + 1) A) (R : Rep P g L σ s.heap) (hb : b.Is P bv) (h : getA X b a σ k)
    (hq : ∀ v a σ' h' t', Rep P g L σ' h' → a.Is P v → k a σ' → Q v { s with heap := h', toks := t' }) : wpAny (model prog w) A (getAttr bv a x) Q E s := by
  obtain ⟨m, FO', hl⟩ := R
  have F := FO'.1
  unfold getA at h
  split at h
  · obtain rfl : bv = .ref P.lex := hb
    obtain ⟨e0, n0, I, ei⟩ := FO'.inst0
    split at h
    · rename_i f hf
      have ok := hX.pr a f hf
      obtain ⟨p, rest, h1, h2, h3, h4⟩ := ok.pr
      refine get_prop F G.kin I ok.pg ok.hd h1 h2 h3 h4 ?_
      refine hC _ _ _ _ _ h A.in1 g L m _ [.ref P.lex] _ hA.in1 G FO' ⟨rfl, trivial⟩ ?_
      intro v a' f0' f1' h' t' FO'' _ hi hk
      split at hk
      · rename_i hp
        show wpAny _ A (handedOut v) Q E _
        rw [handedOut_of (hi.handed hp)]
        exact wpAny_pure (hq v a' { σ with f0 := f0', f1 := f1' } h' t' ⟨m, FO'', hl⟩ hi hk)
      · exact hk.elim
    · split at h
      · rename_i v h1 h2
        have ok := hX.a0 a h1
        obtain ⟨at_, ha, hn⟩ := ok.at_
        obtain ⟨u, hu, hi, hh⟩ := ei.get h2
        exact get_own F G.kin I ok.pg ok.hd ha hn hu hh (hq u v σ s.heap _ ⟨m, FO', hl⟩ hi h)
      · exact h.elim
  · obtain rfl : bv = .ref P.sio := hb
    obtain ⟨e0, n0, I, ei⟩ := FO'.inst1
    split at h
    · rename_i v h1 h2
      have ok := hX.a1 a h1
      obtain ⟨at_, ha, hn⟩ := ok.at_
      obtain ⟨u, hu, hi, hh⟩ := ei.get h2
      exact get_own F G.kin I ok.pg ok.hd ha hn hu hh (hq u v σ s.heap _ ⟨m, FO', hl⟩ hi h)
    · exact h.elim
  · exact h.elim
end
end Mine
end
section
open PySem PySem.W PySem.Calls PyProof.Rows
namespace Mine

section
variable {prog : Program} {w : World} {K : Frag} {P : AdX} {X : Cx} {g : Heap} {L : Addr} {env : Env} {n : Nat} {A : Around} {s : Shared} {E : Value → Shared → Prop} {m : Str → Option Value}

noncomputable def TQ (prog : Program) (w : World) (P : Ad) (g : Heap) : Prop := P.qs = true → ∀ q, (q = P.q1 ∨ q = P.q2) → ∀ A s Q E, okA 1 A → (∀ b o, g.get? b = some o → s.heap.get? b = some o) → (∀ t', Q false { s with toks := t' }) → wpAny (model prog w) A (truthy (.ref q)) Q E s

theorem snd_set {b v : AV} {a : Str} {σ : LS} {bv vv : Value} {Q : Unit → Shared → Prop} {k : LS → Prop} (hX : KX K X) (G : Gd K P g) (R : Rep P g L σ s.heap) (hb : b.Is P bv) (hv : v.Is P vv) (h : setA X b a v σ k)
    (hq : ∀ σ' h' t', Rep P g L σ' h' → k σ' → Q () { s with heap := h', toks := t' }) : wpAny (model prog w) A (setAttr bv a vv) Q E s := by
  obtain ⟨m, FO', hl⟩ := R
  have F := FO'.1
  obtain ⟨_, e0, n0, e1, n1, N, i0, i1⟩ := FO'
  have D := G.dst
  unfold setA at h
  split at h
  · rename_i hp
    obtain rfl : bv = .ref P.lex := hb
    have hd : X.a0.contains a = true ∧ ((aget a σ.f0).isSome = true ∨ σ.f0.length < 100) ∧ k { σ with f0 := aput a v σ.f0 } := by
      split at h
      · rename_i h1 h2; exact ⟨h1, .inl (by rw [h2]; rfl), h⟩
      · rename_i h1 h2 h3; exact ⟨h1, .inr (Nat.le_of_ble_eq_true h3), h⟩
      · exact h.elim
    obtain ⟨h1, h2, h⟩ := hd
    have ok := hX.a0 a h1
    have hh := hv.handed hp
    have ei := i0.put (a := v) (v := vv) (hs := PyData.keyHash w.params a) (t := s.toks + 1) h2 hv hh
    refine set_dict F G.kin N (InstAt.of_news (sl := #[]) N (.head _) (.tail _ (.head _))) rfl ok.sa ok.po ok.tk ok.hd ?_ rfl (Upd.tail D.a (Upd.head ?_)) ?_ ?_
    · rw [getL_eq i0.ks]; rfl
    · intro p hp
      rcases List.mem_cons.mp hp with rfl | hp
      · exact D.b
      · rcases List.mem_cons.mp hp with rfl | hp
        · exact D.c
        · exact (D.x p hp).1
    · exact Nat.le_trans (Nat.le_trans ei.len ei.fit) (by decide)
    · intro h' F' N'
      exact hq { σ with f0 := aput a v σ.f0 } h' _ ⟨m, ⟨F', _, _, _, _, N', ei, i1⟩, hl⟩ h
  · rename_i hp
    obtain rfl : bv = .ref P.sio := hb
    have hd : X.a1.contains a = true ∧ ((aget a σ.f1).isSome = true ∨ σ.f1.length < 100) ∧ k { σ with f1 := aput a v σ.f1 } := by
      split at h
      · rename_i h1 h2; exact ⟨h1, .inl (by rw [h2]; rfl), h⟩
      · rename_i h1 h2 h3; exact ⟨h1, .inr (Nat.le_of_ble_eq_true h3), h⟩
      · exact h.elim
    obtain ⟨h1, h2, h⟩ := hd
    have ok := hX.a1 a h1
    have hh := hv.handed hp
    have ei := i1.put (a := v) (v := vv) (hs := PyData.keyHash w.params a) (t := s.toks + 1) h2 hv hh
    refine set_dict F G.kin N (InstAt.of_news (sl := #[]) N (.tail _ (.tail _ (.head _))) (.tail _ (.tail _ (.tail _ (.head _))))) rfl ok.sa ok.po ok.tk ok.hd ?_ rfl (Upd.tail D.d (Upd.tail (Ne.symm D.c) (Upd.tail D.e (Upd.head ?_)))) ?_ ?_
    · rw [getL_eq i1.ks]; rfl
    · intro p hp; exact (D.x p hp).2
    · exact Nat.le_trans (Nat.le_trans ei.len ei.fit) (by decide)
    · intro h' F' N'
      exact hq { σ with f1 := aput a v σ.f1 } h' _ ⟨m, ⟨F', _, _, _, _, N', i0, ei⟩, hl⟩ h
  · exact h.elim

theorem snd_add {a b : AV} {av bv : Value} {Q : Value → Shared → Prop} {k : AV → Prop} (ha : a.Is P av) (hb : b.Is P bv) (h : addA a b k) (hq : ∀ v c t', c.Is P v → k c → Q v { s with toks := t' }) : wpAny (model prog w) A (binaryOp .Add av bv) Q E s := by
  unfold addA at h
  split at h
  · obtain ⟨t, rfl⟩ := ha
    obtain ⟨u, rfl⟩ := hb
    exact PyProof.Rows.add_int (hq _ (.sym _) _ ⟨_, rfl⟩ h)
  · obtain ⟨t, rfl⟩ := ha
    obtain ⟨u, rfl⟩ := hb
    exact PyProof.Rows.add_int (hq _ (.sym _) _ ⟨_, rfl⟩ h)
  · obtain ⟨_, t, rfl⟩ := ha
    obtain ⟨_, u, rfl⟩ := hb
    exact PyProof.Rows.add_str (fun t' tk => hq _ (.txt _) tk ⟨by rw [Str.length_append]; exact h.1, _, rfl⟩ h.2) h.1
  · obtain ⟨_, t, rfl⟩ := ha
    obtain ⟨_, u, rfl⟩ := hb
    exact PyProof.Rows.add_str (fun t' tk => hq _ (.txt _) tk ⟨by rw [Str.length_append]; exact h.1, _, rfl⟩ h.2) h.1
  · exact h.elim
theorem snd_iadd {a b : AV} {av bv : Value} {Q : Value → Shared → Prop} {k : AV → Prop} (ha : a.Is P av) (hb : b.Is P bv) (h : addA a b k) (hq : ∀ v c t', c.Is P v → k c → Q v { s with toks := t' }) : wpAny (model prog w) A (inplaceOp .Add av bv) Q E s := by
  unfold addA at h
  split at h
  · obtain ⟨t, rfl⟩ := ha
    obtain ⟨u, rfl⟩ := hb
    exact PyProof.Rows.iadd_int (hq _ (.sym _) _ ⟨_, rfl⟩ h)
  · obtain ⟨t, rfl⟩ := ha
    obtain ⟨u, rfl⟩ := hb
    exact PyProof.Rows.iadd_int (hq _ (.sym _) _ ⟨_, rfl⟩ h)
  · obtain ⟨_, t, rfl⟩ := ha
    obtain ⟨_, u, rfl⟩ := hb
    exact PyProof.Rows.iadd_str (fun t' tk => hq _ (.txt _) tk ⟨by rw [Str.length_append]; exact h.1, _, rfl⟩ h.2) h.1
  · obtain ⟨_, t, rfl⟩ := ha
    obtain ⟨_, u, rfl⟩ := hb
    exact PyProof.Rows.iadd_str (fun t' tk => hq _ (.txt _) tk ⟨by rw [Str.length_append]; exact h.1, _, rfl⟩ h.2) h.1
  · exact h.elim

theorem not_none {a : AV} {av : Value} (ha : a.Is P av) (hn : a = .none → False) (hv : ∀ v, a = .val v → False) : plainIs av .none = true ∧ (av == Value.none) = false := by
  cases a
  case none => exact (hn rfl).elim
  case val => exact (hv _ rfl).elim
  case int => obtain ⟨_, rfl⟩ := ha; exact ⟨rfl, rfl⟩
  case sym => obtain ⟨_, rfl⟩ := ha; exact ⟨rfl, rfl⟩
  case str => obtain ⟨_, _, rfl⟩ := ha; exact ⟨rfl, rfl⟩
  case txt => obtain ⟨_, _, rfl⟩ := ha; exact ⟨rfl, rfl⟩
  case q1 => obtain ⟨_, rfl⟩ := ha; exact ⟨rfl, rfl⟩
  case q2 => obtain ⟨_, rfl⟩ := ha; exact ⟨rfl, rfl⟩
  all_goals (cases ha; exact ⟨rfl, rfl⟩)
theorem snd_cmp {op : CmpOp} {a b : AV} {av bv : Value} {Q : Value → Shared → Prop} {k : Bool → Prop} (ha : a.Is P av) (hb : b.Is P bv) (h : cmpA op a b k) (hq : ∀ b t', k b → Q (.bool b) { s with toks := t' }) : wpAny (model prog w) A (compareOp op av bv) Q E s := by
  unfold cmpA at h
  cases op
  case Is =>
    try dsimp only at h
    -- Is
    split at h
    · obtain rfl : bv = .none := hb
      obtain rfl : av = .none := ha
      exact wpAny_is_plain rfl (hq true s.toks h)
    · exact h.elim
    · rename_i hn hv
      obtain rfl : bv = .none := hb
      have hp := not_none ha hn hv
      exact wpAny_is_plain hp.1 (by rw [hp.2]; exact hq false s.toks h)
    · rename_i x y
      obtain rfl : bv = .type x := hb
      obtain rfl : av = .type y := ha
      refine wpAny_is_plain rfl ?_
      have : (Value.type y == Value.type x) = decide (y = x) := by
        by_cases e : y = x
        · subst e; simp
        · simp [e]
      rw [this]; exact hq _ s.toks h
    · exact h.elim
  case IsNot =>
    try dsimp only at h
    -- IsNot
    split at h
    · obtain rfl : bv = .none := hb
      obtain rfl : av = .none := ha
      exact wpAny_isNot_plain rfl (hq false s.toks h)
    · exact h.elim
    · rename_i hn hv
      obtain rfl : bv = .none := hb
      have hp := not_none ha hn hv
      exact wpAny_isNot_plain hp.1 (by rw [hp.2]; exact hq true s.toks h)
    · rename_i x y
      obtain rfl : bv = .type x := hb
      obtain rfl : av = .type y := ha
      refine wpAny_isNot_plain rfl ?_
      have : (Value.type y == Value.type x) = decide (y = x) := by
        by_cases e : y = x
        · subst e; simp
        · simp [e]
      rw [this]; exact hq _ s.toks h
    · exact h.elim
  case Eq =>
    try dsimp only at h
    -- Eq
    split at h
    · obtain rfl : bv = .none := hb
      obtain rfl : av = .none := ha
      exact EqNone.eq_none_none (hq true s.toks h)
    · obtain rfl : bv = .none := hb
      obtain ⟨_, t, rfl⟩ := ha
      exact EqNone.eq_str_none (hq false s.toks h)
    · obtain rfl : bv = .none := hb
      obtain ⟨_, t, rfl⟩ := ha
      exact EqNone.eq_str_none (hq false s.toks h)
    · obtain ⟨_, t, rfl⟩ := ha
      obtain ⟨_, u, rfl⟩ := hb
      exact PySem.P.eq_str (hq _ s.toks h)
    · rename_i x y
      obtain ⟨_, t, rfl⟩ := ha
      obtain ⟨_, u, rfl⟩ := hb
      refine PySem.P.eq_str (hq _ s.toks ?_)
      by_cases e : x.cps.toList = y.cps.toList
      · rw [beq_iff_eq.mpr e]; exact h.1 e
      · rw [beq_eq_false_iff_ne.mpr e]; exact h.2 e
    · exact h.elim
  case NotEq =>
    try dsimp only at h
    -- NotEq
    split at h
    · obtain ⟨_, t, rfl⟩ := ha
      obtain ⟨_, u, rfl⟩ := hb
      exact PySem.P.ne_str (hq _ s.toks h)
    · exact h.elim
  case In =>
    try dsimp only at h
    -- In
    split at h
    · obtain ⟨_, t, rfl⟩ := ha
      obtain ⟨_, u, rfl⟩ := hb
      exact PyProof.Rows.in_str (hq _ s.toks h)
    · exact h.elim
  case GtE =>
    try dsimp only at h
    split at h
    · obtain ⟨t, rfl⟩ := ha
      obtain ⟨u, rfl⟩ := hb
      exact PyProof.Rows.ge_int (hq _ s.toks h)
    · rename_i i j
      obtain ⟨t, rfl⟩ := ha
      obtain ⟨u, rfl⟩ := hb
      refine PyProof.Rows.ge_int (hq _ s.toks ?_)
      by_cases e : j ≤ i
      · rw [decide_eq_true e]; exact h.1 e
      · rw [decide_eq_false e]; exact h.2 e
    · exact h.elim
  case Gt =>
    try dsimp only at h
    split at h
    · obtain ⟨t, rfl⟩ := ha
      obtain ⟨u, rfl⟩ := hb
      exact PyProof.Rows.gt_int (hq _ s.toks h)
    · exact h.elim
  case Lt =>
    try dsimp only at h
    split at h
    · obtain ⟨t, rfl⟩ := ha
      obtain ⟨u, rfl⟩ := hb
      exact PyProof.Rows.lt_int (hq _ s.toks h)
    · rename_i i j
      obtain ⟨t, rfl⟩ := ha
      obtain ⟨u, rfl⟩ := hb
      refine PyProof.Rows.lt_int (hq _ s.toks ?_)
      by_cases e : i < j
      · rw [decide_eq_true e]; exact h.1 e
      · rw [decide_eq_false e]; exact h.2 e
    · exact h.elim
  all_goals exact False.elim h

theorem snd_truth {a : AV} {av : Value} {Q : Bool → Shared → Prop} {k : Bool → Prop} (hT : TQ prog w P g) (hA : okA (n + 1) A) (hk : ∀ b o, g.get? b = some o → s.heap.get? b = some o) (ha : a.Is P av) (h : truthA a k) (hq : ∀ b t', k b → Q b { s with toks := t' }) : wpAny (model prog w) A (truthy av) Q E s := by
  unfold truthA at h
  cases a
  case none =>
    try dsimp only at h
    obtain rfl : av = .none := ha
    exact truthy_none (hq false s.toks h)
  case bool =>
    try dsimp only at h
    rename_i b
    obtain rfl : av = .bool b := ha
    exact wpAny_truthy_bool (hq b s.toks h)
  case int =>
    try dsimp only at h
    obtain ⟨t, rfl⟩ := ha
    exact PySem.P.truthy_int (hq _ s.toks h)
  case str =>
    try dsimp only at h
    rename_i x
    obtain ⟨hx, t, rfl⟩ := ha
    refine PySem.P.truthy_str ?_ (hq _ _ h)
    have : x.length ≤ 2 ^ 24 := hx
    omega
  case txt =>
    try dsimp only at h
    rename_i x
    obtain ⟨hx, t, rfl⟩ := ha
    refine PySem.P.truthy_str ?_ (hq _ _ ?_)
    · have : x.length ≤ 2 ^ 24 := hx
      omega
    · by_cases e : x.length = 0
      · have : ((x.length : Int) != 0) = false := by simp [e]
        rw [this]; exact h.2 e
      · have : ((x.length : Int) != 0) = true := by simp; omega
        rw [this]; exact h.1 e
  case q1 =>
    try dsimp only at h
    obtain ⟨hqs, rfl⟩ := ha
    exact hT hqs _ (.inl rfl) A s Q E (hA.le (by omega)) hk fun t' => hq false t' h
  case q2 =>
    try dsimp only at h
    obtain ⟨hqs, rfl⟩ := ha
    exact hT hqs _ (.inr rfl) A s Q E (hA.le (by omega)) hk fun t' => hq false t' h
  all_goals exact False.elim h
end
end Mine
end
section
open PySem PySem.W PySem.Calls PyProof.Rows
namespace Mine

section
variable {prog : Program} {w : World} {K : Frag} {P : AdX} {X : Cx} {g : Heap} {L : Addr} {env : Env} {n : Nat} {A : Around} {s : Shared} {E : Value → Shared → Prop} {m : Str → Option Value}

theorem star_cons {e : Expr} {rest : List Expr} (h : noStar (e :: rest) = true) : starEach (e :: rest) env = (false, eval e env) :: starEach rest env ∧ noStar rest = true := by
  cases e <;> first | exact ⟨rfl, h⟩ | cases h
theorem star_any {pos : Pos} : ∀ {args : List Expr}, noStar args = true → (backTo pos (starEach args env)).any (·.1) = false
  | [], _ => rfl
  | e :: r, h => by
    obtain ⟨h1, h2⟩ := star_cons (env := env) h
    rw [h1]
    show (false || (backTo pos (starEach r env)).any (·.1)) = false
    rw [star_any h2]; rfl

theorem snd_es {ev : Ev} {pos : Pos} (he : SE prog w P g L env n ev.e) : ∀ (args : List Expr), noStar args = true → ∀ σ k, ev.es args σ k → ∀ A s Q E, okA (n + 1) A → Rep P g L σ s.heap →
    (∀ vs as σ' h' t', Rep P g L σ' h' → IsAll P as vs → k as σ' → Q vs { s with heap := h', toks := t' }) → wpAny (model prog w) A (spliced (backTo pos (starEach args env))) Q E s
  | [], _, σ, k, h, A, s, Q, E, hA, R, hq => args_nil (hq [] [] σ s.heap s.toks R trivial h)
  | e :: r, hs, σ, k, h, A, s, Q, E, hA, R, hq => by
    obtain ⟨h1, h2⟩ := star_cons (env := env) hs
    refine args_cons ?_ h1
    refine he e σ _ h A s _ E hA R fun v a σ' h' t' R' hi hk => ?_
    refine snd_es he r h2 σ' _ hk A _ _ E hA R' fun vs as σ'' h'' t'' R'' hi'' hk'' => ?_
    exact hq (v :: vs) (a :: as) σ'' h'' t'' R'' ⟨hi, hi''⟩ hk''

theorem rep_kin {σ : LS} {h : Heap} (G : Gd K P g) (R : Rep P g L σ h) : K.In h := by
  obtain ⟨m, ⟨F, _⟩, _⟩ := R
  exact G.kin.keeps F.keep

theorem snd_call {ev : Ev} {pos : Pos} {args : List Expr} {f : Addr} {first : List Value} {fa : List AV} {σ : LS} {k : AV → LS → Prop} {Q : Value → Shared → Prop} (he : SE prog w P g L env n ev.e) (hC : SndC prog w K P n X.c) (G : Gd K P g) (hk : keepB K (.ref f) = true) (hs : noStar args = true)
    (hA : okA (n + 1) A) (R : Rep P g L σ s.heap) (hf : IsAll P fa first) (h : ev.es args σ fun as σ' => X.c (.ref f) (fa ++ as) σ'.f0 σ'.f1 fun r f0 f1 => k r { σ' with f0, f1 })
    (hq : ∀ v a σ' h' t', Rep P g L σ' h' → a.Is P v → k a σ' → Q v { s with heap := h', toks := t' }) : wpAny (model prog w) A (callWith pos (.ref f) first (backTo pos (starEach args env)) []) Q E s := by
  have app : ∀ {a b : List AV} {u v : List Value}, IsAll P a u → IsAll P b v → IsAll P (a ++ b) (u ++ v) := by
    intro a
    induction a with
    | nil => intro b u v h1 h2; cases u with | nil => exact h2 | cons _ _ => exact h1.elim
    | cons x a ih => intro b u v h1 h2; cases u with | nil => exact h1.elim | cons y u => exact ⟨h1.1, ih h1.2 h2⟩
  have main : ∀ vs as σ' h' t', Rep P g L σ' h' → IsAll P as vs → X.c (.ref f) (fa ++ as) σ'.f0 σ'.f1 (fun r f0 f1 => k r { σ' with f0, f1 }) → wpAny (model prog w) A (call (.ref f) (first ++ vs)) Q E { s with heap := h', toks := t' } := by
    intro vs as σ' h' t' R' hi hc
    obtain ⟨m, FO', hl⟩ := R'
    refine wpAny_call (hC _ _ _ _ _ hc A g L m _ _ _ (hA.le (by omega)) G FO' (app hf hi) ?_)
    intro v a f0' f1' h'' t'' FO'' _ hv hk''
    exact hq v a { σ' with f0 := f0', f1 := f1' } h'' t'' ⟨m, FO'', hl⟩ hv hk''
  cases args with
  | nil => exact callWith_KB0 (rep_kin G R) hk (main [] [] σ s.heap s.toks R trivial h)
  | cons e r =>
    obtain ⟨h1, h2⟩ := star_cons (env := env) hs
    refine callWith_KB G.kin hk (snd_es he (e :: r) hs σ _ h A s _ E hA R fun vs as σ' h' t' R' hi hc => ⟨rep_kin G R', main vs as σ' h' t' R' hi hc⟩) h1 (star_any h2)

theorem snd_blt {id : String} {as : List AV} {vs : List Value} {Q : Value → Shared → Prop} {k : AV → Prop} (hi : IsAll P as vs) (h : bltA id as k) (hq : ∀ v a t', a.Is P v → k a → Q v { s with toks := t' }) : wpAny (model prog w) A (call (.builtin id) vs) Q E s := by
  unfold bltA at h
  split at h
  · rename_i x hd
    obtain rfl : id = "len" := of_decide_eq_true hd
    cases vs with
    | nil => exact hi.elim
    | cons v vs =>
      cases vs with
      | cons _ _ => exact hi.2.elim
      | nil =>
        obtain ⟨⟨hx, t, rfl⟩, _⟩ := hi
        refine PySem.P.len_str ?_ (hq _ (.sym _) _ ⟨_, rfl⟩ h)
        have : x.length ≤ 2 ^ 24 := hx
        omega
  · exact h.elim

theorem snd_typ {T : String} {as : List AV} {vs : List Value} {Q : Value → Shared → Prop} {k : AV → Prop} (hi : IsAll P as vs) (h : typA T as k) (hq : ∀ v a, a.Is P v → k a → Q v s) : wpAny (model prog w) A (call (.type T) vs) Q E s := by
  unfold typA at h
  split at h
  · split at h
    · rename_i hd
      obtain rfl : T = "type" := of_decide_eq_true hd
      cases vs with
      | nil => exact hi.elim
      | cons v vs =>
        cases vs with
        | cons _ _ => exact hi.2.elim
        | nil =>
          obtain ⟨⟨_, t, rfl⟩, _⟩ := hi
          exact call_type_of (typeIs_str s _ t) (by decide) (hq _ (.val (.type "str")) rfl h)
    · exact h.elim
  · split at h
    · rename_i hd
      obtain rfl : T = "type" := of_decide_eq_true hd
      cases vs with
      | nil => exact hi.elim
      | cons v vs =>
        cases vs with
        | cons _ _ => exact hi.2.elim
        | nil =>
          obtain ⟨⟨_, t, rfl⟩, _⟩ := hi
          exact call_type_of (typeIs_str s _ t) (by decide) (hq _ (.val (.type "str")) rfl h)
    · exact h.elim
  · rename_i i
    cases vs with
    | nil => exact hi.elim
    | cons v vs =>
      cases vs with
      | cons _ _ => exact hi.2.elim
      | nil =>
        obtain ⟨⟨t, rfl⟩, _⟩ := hi
        split at h
        · rename_i hd
          obtain rfl : T = "type" := of_decide_eq_true hd
          exact call_type_of (typeIs_int s i t) (by decide) (hq _ (.val (.type "int")) rfl h)
        · rename_i hd _
          obtain rfl : T = "int" := of_decide_eq_true hd
          exact call_int_int (hq _ (.int i) ⟨_, rfl⟩ h)
        · exact h.elim
  · exact h.elim
end
end Mine
end
section
open PySem PySem.W PySem.Calls PyProof.Rows
namespace Mine

section
variable {prog : Program} {w : World} {K : Frag} {P : AdX} {X : Cx} {g : Heap} {L : Addr} {env : Env} {n : Nat} {A : Around} {s : Shared} {E : Value → Shared → Prop} {m : Str → Option Value}

theorem rep_keep {σ : LS} {h : Heap} (R : Rep P g L σ h) : ∀ b o, g.get? b = some o → h.get? b = some o := by
  obtain ⟨m, ⟨F, _⟩, _⟩ := R
  exact F.keep

theorem lets_str {v : Expr} {x : Str} {t : Tok} (r : Value) : letTemporaryGo v (.str x t) r = pure () := by
  cases v <;> rfl

theorem snd_cut {v lo hi : Expr} {p : Pos} {a i j : AV} {av iv jv : Value} {σ : LS} {Q : Value → Shared → Prop} {k : AV → Prop} (R : Rep P g L σ s.heap) (ha : a.Is P av) (hi' : i.Is P iv) (hj : j.Is P jv) (h : cutA a i j k)
    (hq : ∀ v c h' t', Rep P g L σ h' → c.Is P v → k c → Q v { s with heap := h', toks := t' }) :
    wpAny (model prog w) A (subscriptTail v (.Slice (some lo) (some hi) none p) av (.ref s.heap.objs.size)) Q E { s with heap := s.heap.push { cls := .type "slice", data := .fields #[iv, jv, .none] } } := by
  unfold cutA at h
  split at h
  · rename_i x i j
    obtain ⟨hx, t, rfl⟩ := ha
    obtain ⟨ti, rfl⟩ := hi'
    obtain ⟨tj, rfl⟩ := hj
    obtain ⟨m, ⟨F, e0, n0, e1, n1, N, i0, i1⟩, hl⟩ := R
    refine slice_strN_ss_len F N (fun h' t' k' F' N' hlen => hq _ (.txt _) h' k' ⟨m, ⟨F', e0, n0, e1, n1, N', i0, i1⟩, hl⟩ ⟨Nat.le_trans hlen hx, _, rfl⟩ h) rfl (fun r => lets_str r) hx
  · exact h.elim

theorem method_eq {o : Expr} {name : Str} {apos pos : Pos} {args : List Expr} (hs : noStar args = true) (hn : (Nat.blt args.length 30 && apos.endLine == pos.line) = true) (hb : attributeBase o name env (eval o env) = eval o env) :
    eval (.Call (.Attribute o name apos) args [] pos) env = (do
      let ov ← eval o env
      standAt apos.atName
      let (f, first) ← holding [ov] (getMethod ov name (do return (← importBound o env).getD true))
      callWith pos f first (backTo pos (starEach args env)) []) := by
  obtain ⟨h1, h2⟩ := Bool.and_eq_true_iff.mp hn
  have hf : methodCallForm (args.length + 0) (backTo pos (starEach args env)) [] = true := by
    unfold methodCallForm
    have a : (backTo pos (starEach args env)).all (!·.1) = true := by
      have := star_any (env := env) (pos := pos) hs
      rw [List.all_eq_true]
      rw [List.any_eq_false] at this
      intro x hx
      have := this x hx
      simpa using this
    have b : args.length < 30 := Nat.le_of_ble_eq_true h1
    simp [a, b]
  rw [arm_eval_Call, hb]
  show (do
      let ov ← eval o env
      standAt apos.atName
      methodCall o name apos pos env ov (args.length + 0) (backTo pos (starEach args env)) []) = _
  unfold methodCall calleeOf methodCallPos
  rw [hf]
  simp only [if_true, h2, Bool.not_true, Bool.false_or]
  rfl

theorem stepE_snd {ev : Ev} (hX : KX K X) (G : Gd K P g) (hE : EnvOk env X.sc L) (hC : SndC prog w K P n X.c) (he : SE prog w P g L env n ev.e) : SE prog w P g L env n (stepE X ev) := by
  intro e σ k h A s Q E hA R hq
  unfold stepE at h
  cases e
  case Constant =>
    try dsimp only at h
    exact snd_const h fun v a t' hi hk => hq v a σ s.heap t' R hi hk
  case Name =>
    try dsimp only at h
    exact snd_name hX G hE R h fun v a hi hk => hq v a σ s.heap s.toks R hi hk
  case Attribute =>
    try dsimp only at h
    split at h
    · refine Attribute_Name_ (he _ σ _ h A s _ E hA R fun v b σ' h' t' R' hi hk => ?_)
      exact snd_get hX G hC hA R' hi hk fun v a σ'' h'' t'' R'' hi' hk' => hq v a σ'' h'' t'' R'' hi' hk'
    · refine Attribute_any_ (he _ σ _ h A s _ E hA R fun v b σ' h' t' R' hi hk => ?_)
      exact snd_get hX G hC hA R' hi hk fun v a σ'' h'' t'' R'' hi' hk' => hq v a σ'' h'' t'' R'' hi' hk'
    · exact h.elim
  case BinOp =>
    try dsimp only at h
    split at h
    · refine wpAny_BinOp (he _ σ _ h A s _ E hA R fun v a σ1 h1 t1 R1 hi1 hk1 => ?_)
      refine he _ σ1 _ hk1 A _ _ E hA R1 fun u b σ2 h2 t2 R2 hi2 hk2 => ?_
      exact snd_add hi1 hi2 hk2 fun v c t' hi hk => hq v c σ2 h2 t' R2 hi hk
    · exact h.elim
  case UnaryOp =>
    try dsimp only at h
    split at h
    · refine wpAny_UnaryOp (he _ σ _ h A s _ E hA R fun v a σ1 h1 t1 R1 hi1 hk1 => ?_)
      split at hk1
      · obtain ⟨t, rfl⟩ := hi1
        exact PySem.P.neg_int (hq _ (.int _) σ1 h1 _ R1 ⟨_, rfl⟩ hk1)
      · exact hk1.elim
    · exact h.elim
  case Subscript =>
    try dsimp only at h
    split at h
    · refine Subscript_ (he _ σ _ h A s _ E hA R fun v a σ1 h1 t1 R1 hi1 hk1 => ?_)
      refine wpAny_Slice (he _ σ1 _ hk1 A _ _ E hA R1 fun iv i σ2 h2 t2 R2 hi2 hk2 => ?_)
      refine he _ σ2 _ hk2 A _ _ E hA R2 fun jv j σ3 h3 t3 R3 hi3 hk3 => ?_
      refine wpAny_pure ?_
      exact snd_cut (s := { s with heap := h3, toks := t3 }) R3 hi1 hi2 hi3 hk3 fun v c h' t' R' hi hk => hq v c σ3 h' t' R' hi hk
    · exact h.elim
  case Call =>
    try dsimp only at h
    split at h
    · rename_i f0 args cp _ kws0 hs
      split at h
      · split at h
        · rename_i x p _ _ _ v hd hsc hgl
          have hn : nameA X x σ (fun a => a = .val v) := by
            unfold nameA
            rw [hd, hsc]
            simp only [hgl]
          refine Call_ (snd_name hX G hE R hn fun v' b hi hb => ?_)
          subst hb
          obtain rfl : v' = v := hi
          split at h
          · rename_i f
            exact snd_call (fa := []) (first := []) he hC G ((hX.gl x _ hgl).2 f rfl) hs hA R trivial h hq
          · rename_i id
            cases args with
            | nil =>
              refine callWith_method0 (first := []) ?_
              exact snd_blt (vs := []) (as := []) (k := fun r => k r σ) trivial h fun v a t' hi hk => hq v a σ s.heap t' R hi hk
            | cons e r =>
              obtain ⟨h1, h2⟩ := star_cons (env := env) hs
              refine callWith_builtin1 (snd_es he (e :: r) hs σ _ h A s _ E hA R fun vs as σ' h' t' R' hi hc => ?_) h1 (star_any h2)
              exact snd_blt hi hc fun v a t'' hi' hk => hq v a σ' h' t'' R' hi' hk
          · rename_i T
            cases args with
            | nil => exact h.elim
            | cons e r =>
              obtain ⟨h1, h2⟩ := star_cons (env := env) hs
              refine PyProof.Rows.callWith_type1 (snd_es he (e :: r) hs σ _ h A s _ E hA R fun vs as σ' h' t' R' hi hc => ?_) h1 (star_any h2)
              exact snd_typ hi hc fun v a hi' hk => hq v a σ' h' t' R' hi' hk
          · exact h.elim
        · exact h.elim
      · split at h
        · rename_i hn
          refine MethodCall_ (he _ σ _ h A s _ E hA R fun bv b σ1 h1 t1 R1 hi1 hk1 => ?_) (method_eq hs hn rfl)
          split at hk1
          · obtain rfl : bv = .ref P.lex := hi1
            split at hk1
            · rename_i f hm hg
              have ok := hX.ms _ _ _ hm
              obtain ⟨m, FO', hl⟩ := R1
              obtain ⟨e0, n0, I, ei⟩ := FO'.inst0
              refine method_inst FO'.1 G.kin I ok.pg ok.fi ok.fn (ei.miss hg) ?_
              exact snd_call (fa := [.lex]) (first := [.ref P.lex]) he hC G ok.kp hs hA ⟨m, FO', hl⟩ ⟨rfl, trivial⟩ hk1 fun v a σ' h' t' R' hi hk => hq v a σ' h' t' R' hi hk
            · exact hk1.elim
          · obtain rfl : bv = .ref P.sio := hi1
            split at hk1
            · rename_i f hm hg
              have ok := hX.ms _ _ _ hm
              obtain ⟨m, FO', hl⟩ := R1
              obtain ⟨e0, n0, I, ei⟩ := FO'.inst1
              refine method_inst FO'.1 G.kin I ok.pg ok.fi ok.fn (ei.miss hg) ?_
              exact snd_call (fa := [.sio]) (first := [.ref P.sio]) he hC G ok.kp hs hA ⟨m, FO', hl⟩ ⟨rfl, trivial⟩ hk1 fun v a σ' h' t' R' hi hk => hq v a σ' h' t' R' hi hk
            · exact hk1.elim
          · exact hk1.elim
        · rename_i hn
          refine MethodCall_ (he _ σ _ h A s _ E hA R fun bv b σ1 h1 t1 R1 hi1 hk1 => ?_) (method_eq hs hn rfl)
          split at hk1
          · obtain rfl : bv = .ref P.sio := hi1
            split at hk1
            · rename_i f hm hg
              have ok := hX.ms _ _ _ hm
              obtain ⟨m, FO', hl⟩ := R1
              obtain ⟨e0, n0, I, ei⟩ := FO'.inst1
              refine method_inst FO'.1 G.kin I ok.pg ok.fi ok.fn (ei.miss hg) ?_
              exact snd_call (fa := [.sio]) (first := [.ref P.sio]) he hC G ok.kp hs hA ⟨m, FO', hl⟩ ⟨rfl, trivial⟩ hk1 fun v a σ' h' t' R' hi hk => hq v a σ' h' t' R' hi hk
            · exact hk1.elim
          · exact hk1.elim
        · exact h.elim
      · exact h.elim
    · exact h.elim
  all_goals exact False.elim h

theorem and_snd {ev : Ev} {pos : Pos} {whole : Sem Value} (ht : ST prog w P g L env n ev.t) : ∀ (xs : List Expr) σ k, ev.and xs σ k → ∀ A s Q E, okA (n + 1) A → Rep P g L σ s.heap →
    (∀ b σ' h' t', Rep P g L σ' h' → k b σ' → Q b { s with heap := h', toks := t' }) → wpAny (model prog w) A (isTrue (.BoolOp .And xs pos) env whole) Q E s
  | [], σ, k, h, A, s, Q, E, hA, R, hq => isTrue_and_nil (hq true σ s.heap s.toks R h)
  | x :: r, σ, k, h, A, s, Q, E, hA, R, hq => by
    refine isTrue_and (ht x σ _ h A s _ E hA R fun b σ' h' t' R' hk => ?_)
    cases b with
    | true => exact and_snd ht r σ' k hk A _ Q E hA R' hq
    | false => exact hq false σ' h' t' R' hk
theorem or_snd {ev : Ev} {pos : Pos} {whole : Sem Value} (ht : ST prog w P g L env n ev.t) : ∀ (xs : List Expr) σ k, ev.or xs σ k → ∀ A s Q E, okA (n + 1) A → Rep P g L σ s.heap →
    (∀ b σ' h' t', Rep P g L σ' h' → k b σ' → Q b { s with heap := h', toks := t' }) → wpAny (model prog w) A (isTrue (.BoolOp .Or xs pos) env whole) Q E s
  | [], σ, k, h, A, s, Q, E, hA, R, hq => isTrue_or_nil (hq false σ s.heap s.toks R h)
  | x :: r, σ, k, h, A, s, Q, E, hA, R, hq => by
    refine isTrue_or (ht x σ _ h A s _ E hA R fun b σ' h' t' R' hk => ?_)
    cases b with
    | true => exact hq true σ' h' t' R' hk
    | false => exact or_snd ht r σ' k hk A _ Q E hA R' hq

theorem strs_snd {pos : Pos} : ∀ (es : List Expr) (ys : List Str), strsOf es = some ys → ∀ (A : Around) (s : Shared) (Q : List Value → Shared → Prop) (E : Value → Shared → Prop), (∀ vs t', StrsAre vs ys → vs.length = es.length → Q vs { s with toks := t' }) →
    wpAny (model prog w) A (spliced (backTo pos (starEach es env))) Q E s
  | [], ys, h, A, s, Q, E, hq => by
    cases h
    exact args_nil (hq [] s.toks .nil rfl)
  | e :: r, ys, h, A, s, Q, E, hq => by
    unfold strsOf at h
    split at h
    · rename_i heq
      cases heq
    · rename_i x u p r' heq
      cases heq
      split at h
      · rename_i l hl
        cases h
        refine args_cons (Constant_str ?_) rfl
        refine strs_snd r l hl A _ _ E fun vs t' hv hlen => ?_
        exact hq _ t' (.cons _ _ hv) (by simp [hlen])
      · cases h
    · cases h

theorem stepT_snd {ev : Ev} (G : Gd K P g) (hT : TQ prog w P g) (he : SE prog w P g L env n ev.e) (ht : ST prog w P g L env n ev.t) : ST prog w P g L env n (stepT X ev) := by
  intro e σ k h A s Q E hA R hq
  have truth : ∀ (e' : Expr) (hp : isTrue e' env (eval e' env) = (do let v ← eval e' env; standAt e'.pos; holding [v] (truthy v))), ev.e e' σ (fun a σ' => truthA a fun t => k t σ') → wpAny (model prog w) A (isTrue e' env (eval e' env)) Q E s := by
    intro e' hp h
    refine isTrue_plain (he e' σ _ h A s _ E hA R fun v a σ' h' t' R' hi hk => ?_) hp
    exact snd_truth hT hA (rep_keep R') hi hk fun b t'' hb => hq b σ' h' t'' R' hb
  unfold stepT at h
  cases e
  case Compare =>
    try dsimp only at h
    split at h
    · rename_i op r
      split at h
      · exact h.elim
      · rename_i es u p
        split at h
        · rename_i ys hys hz
          refine wpAny_isTrue_Compare1 (he _ σ _ h A s _ E hA R fun v a σ' h' t' R' hi hk => ?_) rfl
          split at hk
          · rename_i x
            obtain ⟨hx, t, rfl⟩ := hi
            refine Tuple_ (strs_snd es ys hys A _ _ E fun vs t'' hv hlen => ?_)
            obtain ⟨m, ⟨F, e0, n0, e1, n1, N, i0, i1⟩, hl⟩ := R'
            refine newTuple_N F N (fun h'' F' N' => ?_) ?_
            · refine PyProof.Rows.in_tuple_strs ⟨_, (N' _ (.head _)).1, rfl, 0, rfl⟩ (by simpa using hv) ?_
              refine wpAny_truthy_bool (hq _ σ' h'' _ ⟨m, ⟨F', e0, n0, e1, n1, fun p hp => N' p (.tail _ hp), i0, i1⟩, hl⟩ hk)
            · have := Nat.le_of_ble_eq_true hz
              rw [hlen]
              show es.length ≤ 2 ^ 24
              omega
          · exact hk.elim
        · exact h.elim
      · rename_i hns hnt
        have hm : behindInMarks op r = false := by
          cases r <;> first | rfl | exact absurd rfl (hns _ _ _)
        refine wpAny_isTrue_Compare1 (he _ σ _ h A s _ E hA R fun v a σ' h' t' R' hi hk => ?_) hm
        refine he _ σ' _ hk A _ _ E hA R' fun u b σ'' h'' t'' R'' hi' hk' => ?_
        exact snd_cmp hi hi' hk' fun c t3 hc => wpAny_truthy_bool (hq c σ'' h'' t3 R'' hc)
    · exact h.elim
  case BoolOp =>
    try dsimp only at h
    split at h
    · exact and_snd ht _ σ k h A s Q E hA R hq
    · exact or_snd ht _ σ k h A s Q E hA R hq
  case UnaryOp =>
    try dsimp only at h
    split at h
    · refine isTrue_not (ht _ σ _ h A s _ E hA R fun b σ' h' t' R' hk => hq _ σ' h' t' R' hk)
    · exact h.elim
  case Name =>
    try dsimp only at h
    exact truth _ rfl h
  case Attribute =>
    try dsimp only at h
    exact truth _ rfl h
  case Constant =>
    try dsimp only at h
    exact truth _ rfl h
  all_goals exact False.elim h
end
end Mine
end
section
open PySem PySem.W PySem.Calls PyProof.Rows
namespace Mine

section
variable {prog : Program} {w : World} {K : Frag} {P : AdX} {X : Cx} {g : Heap} {L : Addr} {env : Env} {n : Nat} {A : Around} {s : Shared} {E : Value → Shared → Prop} {m : Str → Option Value}

theorem swaps_no {v : Expr} {t : Option Expr} {l : Nat} (h : noComp v = true) : swapsWith v t l env = pure false := by
  cases v <;> first | rfl | cases h

theorem snd_store {x : Str} {a : AV} {v : Value} {σ : LS} {Q : Unit → Shared → Prop} (hE : EnvOk env X.sc L) (hx : X.sc.lookup x = some .local) (R : Rep P g L σ s.heap) (ha : a.Is P v)
    (hq : ∀ h' t', Rep P g L { σ with loc := aput x a σ.loc } h' → Q () { s with heap := h', toks := t' }) : wpAny (model prog w) A (storeName env x v) Q E s := by
  obtain ⟨m, ⟨F, e0, n0, e1, n1, N, i0, i1⟩, hl⟩ := R
  refine wpAny_storeName_local (m := m) (by unfold Env.kindOf; rw [hE.sc]; exact hx) (by rw [hE.loc]; exact F.ns) (fun h' hn hs => ?_) ?_
  · rw [hE.loc] at hn hs
    refine hq h' _ ⟨_, ⟨F.set hn hs, e0, n0, e1, n1, N.set hs, i0, i1⟩, fun y b hy => ?_⟩
    rw [aget_aput] at hy
    by_cases q : x = y
    · subst q
      rw [if_pos rfl] at hy
      cases hy
      exact ⟨v, by simp, ha⟩
    · rw [if_neg q] at hy
      obtain ⟨u, hu, hi⟩ := hl y b hy
      exact ⟨u, by simp [show ¬ y = x from fun e => q e.symm, hu], hi⟩
  · rw [hE.kind]; rfl

theorem ss_snd {ev : Ev} (hs : SS prog w P g L env n ev.s) : SSs prog w P g L env n ev.ss := by
  intro st
  induction st with
  | nil => intro σ k h A s Q E hA R hq; exact wpAny_execs_nil (hq .next .next σ s.heap s.toks R rfl h)
  | cons st r ih =>
    intro σ k h A s Q E hA R hq
    refine wpAny_execs_cons (hs st σ _ h A s _ E hA R fun f b σ' h' t' R' hf hk => ?_)
    cases b with
    | next => obtain rfl : f = .next := hf; exact ih σ' k hk A _ Q E hA R' hq
    | brk => obtain rfl : f = .brk := hf; exact hq _ .brk σ' h' t' R' rfl hk
    | cont => obtain rfl : f = .cont := hf; exact hq _ .cont σ' h' t' R' rfl hk
    | ret a => obtain ⟨v, rfl, hv⟩ := hf; exact hq _ (.ret a) σ' h' t' R' ⟨v, rfl, hv⟩ hk

noncomputable def SndW (prog : Program) (w : World) (P : AdX) (g : Heap) (L : Addr) (env : Env) (n : Nat) (wl : Expr → List Stmt → List Stmt → LS → (AFl → LS → Prop) → Prop) : Prop :=
  ∀ t b o σ k, wl t b o σ k → ∀ p A s Q E, okA (n + 1) A → Rep P g L σ s.heap → (∀ f b σ' h' t', Rep P g L σ' h' → FlIs P b f → k b σ' → Q f { s with heap := h', toks := t' }) → wpAny (model prog w) A (exec (.While t b o p) env) Q E s

theorem stepS_snd {ev : Ev} (hX : KX K X) (G : Gd K P g) (hE : EnvOk env X.sc L) (hC : SndC prog w K P n X.c) (hW : SndW prog w P g L env n X.wl) (he : SE prog w P g L env n ev.e) (ht : ST prog w P g L env n ev.t) (hs : SS prog w P g L env n ev.s) : SS prog w P g L env n (stepS X ev) := by
  intro st σ k h A s Q E hA R hq
  unfold stepS at h
  cases st
  case If =>
    try dsimp only at h
    refine wpAny_If (ht _ σ _ h A s _ E hA R fun b σ' h' t' R' hk => ?_)
    cases b with
    | true => exact ss_snd hs _ σ' k hk A _ Q E hA R' hq
    | false => exact ss_snd hs _ σ' k hk A _ Q E hA R' hq
  case Assign ts v _ =>
    try dsimp only at h
    split at h
    · rename_i hn
      cases ts with
      | nil => exact False.elim h
      | cons t r =>
        cases r with
        | cons _ _ => exact False.elim h
        | nil =>
          cases t
          case Name x _ =>
            try dsimp only at h
            split at h
            · rename_i hx
              refine wpAny_Assign_Name (he _ σ _ h A s _ E hA R fun v a σ' h' t' R' hi hk => ?_) (swaps_no hn)
              exact snd_store hE hx R' hi fun h'' t'' R'' => hq .next .next _ h'' t'' R'' rfl hk
            · exact h.elim
          case Attribute o a _ =>
            cases o
            case Name =>
              refine plainObj_wpAny_Assign_Attribute (he _ σ _ h A s _ E hA R fun v b σ' h' t' R' hi hk => ?_) (swaps_no hn)
              refine he _ σ' _ hk A _ _ E hA R' fun u c σ'' h'' t'' R'' hi' hk' => ?_
              exact snd_set hX G R'' hi' hi hk' fun σ3 h3 t3 R3 hk3 => hq .next .next σ3 h3 t3 R3 rfl hk3
            all_goals exact False.elim h
          all_goals exact False.elim h
    · exact h.elim
  case AugAssign =>
    try dsimp only at h
    split at h
    · split at h
      · refine wpAny_AugAssign_AttributeAny (he _ σ _ h A s _ E hA R fun u c σ1 h1 t1 R1 hi1 hk1 => ?_)
        refine snd_get hX G hC hA R1 hi1 hk1 fun old a σ2 h2 t2 R2 hi2 hk2 => ?_
        refine he _ σ2 _ hk2 A _ _ E hA R2 fun v b σ3 h3 t3 R3 hi3 hk3 => ?_
        refine snd_iadd hi2 hi3 hk3 fun new d t4 hi4 hk4 => ?_
        exact snd_set (s := { s with heap := h3, toks := t4 }) hX G R3 hi1 hi4 hk4 fun σ5 h5 t5 R5 hk5 => hq .next .next σ5 h5 t5 R5 rfl hk5
      · exact h.elim
    · exact h.elim
  case Return =>
    try dsimp only at h
    split at h
    · refine wpAny_Return_some (he _ σ _ h A s _ E hA R fun v a σ' h' t' R' hi hk => hq (.ret v) (.ret a) σ' h' t' R' ⟨v, rfl, hi⟩ hk)
    · exact wpAny_Return_none (hq (.ret .none) (.ret .none) σ s.heap s.toks R ⟨.none, rfl, rfl⟩ h)
  case Expr =>
    try dsimp only at h
    split at h
    · rename_i hn
      refine wpAny_Expr (he _ σ _ h A s _ E hA R fun v a σ' h' t' R' hi hk => ?_) (by unfold interactive; rw [hE.kind]; rfl) (swaps_no hn)
      split at hk
      · obtain rfl : v = .none := hi
        exact hq .next .next σ' h' t' R' rfl hk
      · exact hk.elim
    · exact h.elim
  case While =>
    try dsimp only at h
    exact hW _ _ _ σ k h _ A s Q E hA R hq
  case Break =>
    try dsimp only at h
    exact wpAny_Break (hq .brk .brk σ s.heap s.toks R rfl h)
  case Continue =>
    try dsimp only at h
    exact wpAny_Continue (hq .cont .cont σ s.heap s.toks R rfl h)
  case Pass =>
    try dsimp only at h
    exact wpAny_Pass (hq .next .next σ s.heap s.toks R rfl h)
  all_goals exact False.elim h

theorem ev_snd (hX : KX K X) (G : Gd K P g) (hE : EnvOk env X.sc L) (hT : TQ prog w P g) (hC : SndC prog w K P n X.c) (hW : SndW prog w P g L env n X.wl) : ∀ d, SE prog w P g L env n (ev X d).e ∧ ST prog w P g L env n (ev X d).t ∧ SS prog w P g L env n (ev X d).s
  | 0 => ⟨fun _ _ _ h => h.elim, fun _ _ _ h => h.elim, fun _ _ _ h => h.elim⟩
  | d + 1 =>
    let ⟨a, b, c⟩ := ev_snd hX G hE hT hC hW d
    ⟨stepE_snd hX G hE hC a, stepT_snd (X := X) G hT a b, stepS_snd hX G hE hC hW a b c⟩
end
end Mine
end
section
open PySem PySem.W PySem.Calls PyProof.Rows
namespace Mine

section
variable {prog : Program} {w : World} {K : Frag} {P : Ad} {X : Cx} {g : Heap} {L : Addr} {env : Env} {n : Nat} {A : Around} {s : Shared} {E : Value → Shared → Prop} {m : Str → Option Value}

noncomputable def rdK {α : Type} (K : Frag) : Nat → Sem α → Option α
  | 0, _ => none
  | n + 1, t => match t with
    | .pure a => some a
    | .rule _ k => rdK K n (k ())
    | .at _ k => rdK K n (k ())
    | .point _ k => rdK K n (k ())
    | .load a _ k => (match K.lookup a with
      | some o => rdK K n (k o)
      | none => none)
    | _ => none
theorem no_some {α : Type} {a : α} (h : (none : Option α) = some a) : False := nomatch h
theorem rdK_snd {α : Type} {a : α} {M : Model} {Q : α → Shared → Prop} (X : K.In s.heap) : ∀ {n : Nat} {t : Sem α}, rdK K n t = some a → Q a s → wpAny M A t Q E s
  | 0, _, h, _ => by cases h
  | n + 1, t, h, hq => by
    cases t
    case pure =>
      have h : some _ = some a := h
      cases h; exact fun _ _ _ => hq
    case rule => exact fun Γ p hΓ => rdK_snd (n := n) X h hq Γ p hΓ
    case «at» => exact fun Γ p hΓ => rdK_snd (n := n) X h hq Γ _ hΓ
    case point => exact fun Γ p hΓ => rdK_snd (n := n) X h hq Γ p hΓ
    case load b _ k =>
      have h : (match K.lookup b with
        | some o => rdK K n (k o)
        | none => none) = some a := h
      split at h
      · rename_i o ho
        exact nd_load (X _ _ ho) (rdK_snd X h hq)
      · cases h
    all_goals exact (no_some h).elim

structure FnOk (K : Frag) (f : Addr) (fo : Obj) (fd : FuncData) (body : List Stmt) (sc : List (Str × NameKind)) (ps : List Str) : Prop where
  at_ : K.lookup f = some fo
  dat : fo.data = .func fd
  bod : fd.body = .stmts body
  cod : codeIn K fd.code fd.qualname = true
  scn : fd.scope.names = sc
  kind : fd.scope.kind = .function
  co : fd.scope.isCoroutine = false
  gen : fd.scope.isGenerator = false
  glo : fd.globals = mainGlobals
  blt : fd.builtins = builtinsNs
  cell : (sc.all fun x => decide (x.2 ≠ .cell)) = true
  loc : (ps.all fun x => sc.lookup x == some .local) = true
  bind : ∀ vals : List Value, vals.length = ps.length → rdK K 20 (bindArgs fd ⟨vals, []⟩) = some (ps.zip vals)

theorem Gd.up {g' : Heap} (G : Gd K P g) (h : ∀ b o, g.get? b = some o → g'.get? b = some o) : Gd K P g' :=
  ⟨G.kin.keeps h, G.nl.keeps h, let ⟨a, b⟩ := G.mg; ⟨a, b.keeps h⟩, let ⟨a, b⟩ := G.mb; ⟨a, b.keeps h⟩, G.dst, fun e => h _ _ (G.q1 e), fun e => h _ _ (G.q2 e)⟩
theorem TQ.up {g' : Heap} (T : TQ prog w P g) (h : ∀ b o, g.get? b = some o → g'.get? b = some o) : TQ prog w P g' :=
  fun e q hq A s Q E hA hk => T e q hq A s Q E hA fun b o e => hk b o (h b o e)

theorem isAll_len : ∀ {as : List AV} {vs : List Value}, IsAll P as vs → vs.length = as.length
  | [], [], _ => rfl
  | _ :: _, _ :: _, h => by simp [isAll_len h.2]
  | [], _ :: _, h => h.elim
  | _ :: _, [], h => h.elim

theorem loc_of : ∀ {ps : List Str} {as : List AV} {vs : List Value}, IsAll P as vs → ∀ x a, aget x (ps.zip as) = some a → ∃ v, (ps.zip vs).lookup x = some v ∧ a.Is P v
  | [], _, _, _, x, a, e => by simp [aget] at e
  | p :: ps, [], _, _, x, a, e => by simp [aget] at e
  | p :: ps, b :: as, [], h, _, _, _ => h.elim
  | p :: ps, b :: as, v :: vs, h, x, a, e => by
    rw [List.zip_cons_cons, aget_cons] at e
    rw [List.zip_cons_cons, List.lookup_cons]
    by_cases q : p = x
    · subst q
      rw [if_pos rfl] at e
      cases e
      exact ⟨v, by simp, h.1⟩
    · rw [if_neg q] at e
      have : (x == p) = false := beq_eq_false_iff_ne.mpr fun e => q e.symm
      rw [this]
      exact loc_of h.2 x a e
theorem isAll_rev {as : List AV} {vs : List Value} (h : IsAll P as vs) : IsAll P as.reverse vs.reverse := by
  have app : ∀ {a b : List AV} {u v : List Value}, IsAll P a u → IsAll P b v → IsAll P (a ++ b) (u ++ v) := by
    intro a
    induction a with
    | nil => intro b u v h1 h2; cases u with | nil => exact h2 | cons _ _ => exact h1.elim
    | cons x a ih => intro b u v h1 h2; cases u with | nil => exact h1.elim | cons y u => exact ⟨h1.1, ih h1.2 h2⟩
  induction as generalizing vs with
  | nil => cases vs with | nil => trivial | cons _ _ => exact h.elim
  | cons a as ih =>
    cases vs with
    | nil => exact h.elim
    | cons v vs =>
      rw [List.reverse_cons, List.reverse_cons]
      exact app (ih h.2) ⟨h.1, trivial⟩

theorem zip_rev {α β : Type} : ∀ {as : List α} {bs : List β}, as.length = bs.length → (as.zip bs).reverse = as.reverse.zip bs.reverse
  | [], [], _ => rfl
  | a :: as, b :: bs, h => by
    have h' : as.length = bs.length := by simpa using h
    rw [List.zip_cons_cons, List.reverse_cons, zip_rev h', List.reverse_cons, List.reverse_cons, List.zip_append (by simpa using h')]
    rfl
  | [], _ :: _, h => by simp at h
  | _ :: _, [], h => by simp at h

noncomputable def backA (kk : AV → Fs → Fs → Prop) (b : AFl) (σ : LS) : Prop := match b with
  | .ret a => kk a σ.f0 σ.f1
  | .next => kk .none σ.f0 σ.f1
  | _ => False

theorem led_addr (e0 : List DictEntry) (n0 : Nat) (e1 : List DictEntry) (n1 : Nat) : (led P e0 n0 e1 n1).map (·.1) = [P.lex, P.ld, P.sio, P.sd] := rfl

theorem enterB {gb : Heap} {args0 : Args} {nn : Nat} {f : Addr} {fo : Obj} {fd : FuncData} {body : List Stmt} {sc : List (Str × NameKind)} {ps : List Str} {args : List AV} {vals : List Value} {f0 f1 : Fs} {kk : AV → Fs → Fs → Prop} {R : Result → Shared → Prop}
    (ok : FnOk K f fo fd body sc ps) (hbd : rdK K nn (bindArgs fd args0) = some (ps.zip vals)) (G : Gd K P gb) (kb : ∀ b o, gb.get? b = some o → s.heap.get? b = some o) (nb : ∀ a ∈ [P.lex, P.ld, P.sio, P.sd], gb.get? a = none) (FO' : FO P g L m f0 f1 s.heap) (hA : okA (n + 2) A) (ha : IsAll P args vals) (hl : args.length = ps.length)
    (h : ∀ g' L' env s1, Gd K P g' → (∀ b o, gb.get? b = some o → g'.get? b = some o) → EnvOk env sc L' → okA (n + 1) (A.deeper env) → Rep P g' L' ⟨(ps.reverse.zip args.reverse), f0, f1⟩ s1.heap → s1.gens = s.gens → s1.drawn = s.drawn → s1.os = s.os →
      ∀ Q' E', (∀ fl b σ' h' t', Rep P g' L' σ' h' → FlIs P b fl → backA kk b σ' → Q' fl { s1 with heap := h', toks := t' }) → wpAny (model prog w) (A.deeper env) (execs body env) Q' E' s1)
    (hq : ∀ v a f0' f1' h' t', FO P g L m f0' f1' h' → Kp P s.heap h' → a.Is P v → kk a f0' f1' → R (.ok (.ret v)) { s with heap := h', toks := t' }) :
    codeAny (model prog w) A (.call (.ref f) args0) R s := by
  have F := FO'.1
  obtain ⟨_, e0, n0, e1, n1, N, i0, i1⟩ := FO'
  have hvl : vals.length = ps.length := (isAll_len ha).trans hl
  have nm : ∀ b o, g.get? b = some o → b ∉ (led P e0 n0 e1 n1).map (·.1) := fun b o e q => by
    obtain ⟨p, hp, rfl⟩ := List.mem_map.mp q
    rw [(N p hp).2.2] at e; cases e
  have st : ∀ b o, g.get? b = some o → (hideAll s.heap ((led P e0 n0 e1 n1).map (·.1))).get? b = some o := fun b o e => hideAll_get _ (F.keep b o e) (nm b o e)
  have stb : ∀ b o, gb.get? b = some o → (hideAll s.heap ((led P e0 n0 e1 n1).map (·.1))).get? b = some o := fun b o e => hideAll_get _ (kb b o e) fun q => by
    rw [nb b q] at e; cases e
  obtain ⟨oL, es, ep, hL, hLd, hLk, hLf⟩ := F.ns
  have nL : L ∉ (led P e0 n0 e1 n1).map (·.1) := fun q => by
    obtain ⟨p, hp, e⟩ := List.mem_map.mp q
    exact (N p hp).2.1 e
  have hLg := hideAll_get ((led P e0 n0 e1 n1).map (·.1)) hL nL
  refine codeAny_call_def (fd := fd) (body := body) (binds := ps.zip vals) (by have := hA.2.1; omega) (G.kin.keeps kb _ _ ok.at_) ok.dat (G.nl.keeps kb) (codeRec_of (G.kin.keeps kb) ok.cod) ok.bod (fun _ _ _ _ hq => rdK_snd (G.kin.keeps kb) hbd hq) ?_ ?_ ?_ ok.co ok.gen ok.kind
  · intro x hx
    have c := List.all_eq_true.mp ok.cell x (ok.scn ▸ hx)
    exact of_decide_eq_true c
  · intro x hx
    have c := List.all_eq_true.mp ok.loc x.1 (List.of_mem_zip (a := x.1) (b := x.2) hx).1
    rw [ok.scn]
    exact beq_iff_eq.mp c
  · intro h₁ hns hk₁
    have hE : EnvOk (callEnv fd s.heap.objs.size f) sc s.heap.objs.size := ⟨ok.kind, rfl, ok.glo, ok.blt, ok.scn⟩
    have hA' : okA (n + 1) (A.deeper (callEnv fd s.heap.objs.size f)) := ⟨hA.1, by have := hA.2.1; show A.depth + 1 + (n + 1) < _; omega, by have := hA.2.2; show A.units + 3 + 8 * (n + 1) < _; omega⟩
    have G' := G.up stb
    have hh := h _ _ _ { s with heap := h₁, toks := s.toks + (ps.zip vals).length } G' stb hE hA'
    refine hh ?_ rfl rfl rfl _ _ ?_
    · refine ⟨_, ⟨⟨hns, fun b o e => hk₁ b o (of_hideAll _ e), Nat.le_of_eq (hideAll_size _ _)⟩, e0, n0, e1, n1, fun p hp => ⟨hk₁ _ _ (N p hp).1, Nat.ne_of_lt (Heap.lt_size (N p hp).1), hideAll_none _ (List.mem_map_of_mem hp)⟩, i0, i1⟩, fun x a e => ?_⟩
      have z : (ps.zip vals).reverse = ps.reverse.zip vals.reverse := by
        rw [zip_rev hvl.symm]
      show ∃ v, (ps.zip vals).reverse.lookup x = some v ∧ _
      rw [z]
      exact loc_of (isAll_rev ha) x a e
    · intro fl b σ' h' t' R' hf hb
      obtain ⟨m', ⟨F', e0', n0', e1', n1', N', i0', i1'⟩, _⟩ := R'
      have back : FO P g L m σ'.f0 σ'.f1 h' := by
        refine ⟨⟨⟨oL, es, ep, F'.keep L oL hLg, hLd, hLk, hLf⟩, fun b o e => F'.keep b o (st b o e), F.above⟩, e0', n0', e1', n1', fun p hp => ⟨(N' p hp).1, fun q => ?_, ?_⟩, i0', i1'⟩
        · have := (N' p hp).2.2; rw [q, hLg] at this; cases this
        · cases q : g.get? p.1 with
          | none => rfl
          | some o => have := (N' p hp).2.2; rw [st _ _ q] at this; cases this
      have kp : Kp P s.heap h' := fun b o e hb => F'.keep b o (hideAll_get _ e hb)
      cases b with
      | ret a => obtain ⟨v, rfl, hv⟩ := hf; exact hq v a _ _ h' t' back kp hv hb
      | next => obtain rfl : fl = .next := hf; exact hq .none .none _ _ h' t' back kp rfl hb
      | brk => exact hb.elim
      | cont => exact hb.elim

theorem enter0 {gb : Heap} {f : Addr} {fo : Obj} {fd : FuncData} {body : List Stmt} {sc : List (Str × NameKind)} {ps : List Str} {args : List AV} {vals : List Value} {f0 f1 : Fs} {kk : AV → Fs → Fs → Prop} {R : Result → Shared → Prop}
    (ok : FnOk K f fo fd body sc ps) (G : Gd K P gb) (kb : ∀ b o, gb.get? b = some o → s.heap.get? b = some o) (nb : ∀ a ∈ [P.lex, P.ld, P.sio, P.sd], gb.get? a = none) (FO' : FO P g L m f0 f1 s.heap) (hA : okA (n + 2) A) (ha : IsAll P args vals) (hl : args.length = ps.length)
    (h : ∀ g' L' env s1, Gd K P g' → (∀ b o, gb.get? b = some o → g'.get? b = some o) → EnvOk env sc L' → okA (n + 1) (A.deeper env) → Rep P g' L' ⟨(ps.reverse.zip args.reverse), f0, f1⟩ s1.heap → s1.gens = s.gens → s1.drawn = s.drawn → s1.os = s.os →
      ∀ Q' E', (∀ fl b σ' h' t', Rep P g' L' σ' h' → FlIs P b fl → backA kk b σ' → Q' fl { s1 with heap := h', toks := t' }) → wpAny (model prog w) (A.deeper env) (execs body env) Q' E' s1)
    (hq : ∀ v a f0' f1' h' t', FO P g L m f0' f1' h' → Kp P s.heap h' → a.Is P v → kk a f0' f1' → R (.ok (.ret v)) { s with heap := h', toks := t' }) :
    codeAny (model prog w) A (.call (.ref f) ⟨vals, []⟩) R s :=
  enterB ok (ok.bind vals ((isAll_len ha).trans hl)) G kb nb FO' hA ha hl h hq

theorem enter {f : Addr} {fo : Obj} {fd : FuncData} {body : List Stmt} {sc : List (Str × NameKind)} {ps : List Str} {args : List AV} {vals : List Value} {f0 f1 : Fs} {kk : AV → Fs → Fs → Prop} {R : Result → Shared → Prop}
    (ok : FnOk K f fo fd body sc ps) (G : Gd K P g) (FO' : FO P g L m f0 f1 s.heap) (hA : okA (n + 2) A) (ha : IsAll P args vals) (hl : args.length = ps.length)
    (h : ∀ g' L' env s1, Gd K P g' → (∀ b o, g.get? b = some o → g'.get? b = some o) → EnvOk env sc L' → okA (n + 1) (A.deeper env) → Rep P g' L' ⟨(ps.reverse.zip args.reverse), f0, f1⟩ s1.heap → s1.gens = s.gens → s1.drawn = s.drawn → s1.os = s.os →
      ∀ Q' E', (∀ fl b σ' h' t', Rep P g' L' σ' h' → FlIs P b fl → backA kk b σ' → Q' fl { s1 with heap := h', toks := t' }) → wpAny (model prog w) (A.deeper env) (execs body env) Q' E' s1)
    (hq : ∀ v a f0' f1' h' t', FO P g L m f0' f1' h' → Kp P s.heap h' → a.Is P v → kk a f0' f1' → R (.ok (.ret v)) { s with heap := h', toks := t' }) :
    codeAny (model prog w) A (.call (.ref f) ⟨vals, []⟩) R s := by
  refine enter0 ok G FO'.1.keep (fun a ha => ?_) FO' hA ha hl h hq
  obtain ⟨_, e0, n0, e1, n1, N, _⟩ := FO'
  rw [← led_addr e0 n0 e1 n1] at ha
  obtain ⟨p, hp, rfl⟩ := List.mem_map.mp ha
  exact (N p hp).2.2

theorem fn_snd {f : Addr} {fo : Obj} {fd : FuncData} {body : List Stmt} {ps : List Str} {args : List AV} {vals : List Value} {f0 f1 : Fs} {kk : AV → Fs → Fs → Prop} {R : Result → Shared → Prop}
    (ok : FnOk K f fo fd body X.sc ps) (hX : KX K X) (hC : SndC prog w K P n X.c) (hW : ∀ g' L' env, Gd K P g' → (∀ b o, g.get? b = some o → g'.get? b = some o) → EnvOk env X.sc L' → SndW prog w P g' L' env n X.wl) (G : Gd K P g) (hT : TQ prog w P g) (FO' : FO P g L m f0 f1 s.heap) (hA : okA (n + 2) A) (ha : IsAll P args vals) (hl : args.length = ps.length) (d : Nat)
    (h : (ev X d).ss body ⟨(ps.reverse.zip args.reverse), f0, f1⟩ (backA kk))
    (hq : ∀ v a f0' f1' h' t', FO P g L m f0' f1' h' → Kp P s.heap h' → a.Is P v → kk a f0' f1' → R (.ok (.ret v)) { s with heap := h', toks := t' }) :
    codeAny (model prog w) A (.call (.ref f) ⟨vals, []⟩) R s := by
  refine enter ok G FO' hA ha hl (fun g' L' env s1 G' st hE hA' R1 _ _ _ Q' E' hq' => ?_) hq
  exact ss_snd (ev_snd hX G' hE (hT.up st) hC (hW g' L' env G' st hE) d).2.2 body _ _ h (A.deeper env) s1 Q' E' hA' R1 hq'
theorem fn_sndB {gb : Heap} {args0 : Args} {nn : Nat} {f : Addr} {fo : Obj} {fd : FuncData} {body : List Stmt} {ps : List Str} {args : List AV} {vals : List Value} {f0 f1 : Fs} {kk : AV → Fs → Fs → Prop} {R : Result → Shared → Prop}
    (ok : FnOk K f fo fd body X.sc ps) (hbd : rdK K nn (bindArgs fd args0) = some (ps.zip vals)) (hX : KX K X) (hC : SndC prog w K P n X.c) (hW : ∀ g' L' env, Gd K P g' → (∀ b o, gb.get? b = some o → g'.get? b = some o) → EnvOk env X.sc L' → SndW prog w P g' L' env n X.wl) (G : Gd K P gb) (kb : ∀ b o, gb.get? b = some o → s.heap.get? b = some o) (nb : ∀ a ∈ [P.lex, P.ld, P.sio, P.sd], gb.get? a = none) (hT : TQ prog w P gb) (FO' : FO P g L m f0 f1 s.heap) (hA : okA (n + 2) A) (ha : IsAll P args vals) (hl : args.length = ps.length) (d : Nat)
    (h : (ev X d).ss body ⟨(ps.reverse.zip args.reverse), f0, f1⟩ (backA kk))
    (hq : ∀ v a f0' f1' h' t', FO P g L m f0' f1' h' → Kp P s.heap h' → a.Is P v → kk a f0' f1' → R (.ok (.ret v)) { s with heap := h', toks := t' }) :
    codeAny (model prog w) A (.call (.ref f) args0) R s := by
  refine enterB ok hbd G kb nb FO' hA ha hl (fun g' L' env s1 G' st hE hA' R1 _ _ _ Q' E' hq' => ?_) hq
  exact ss_snd (ev_snd hX G' hE (hT.up st) hC (hW g' L' env G' st hE) d).2.2 body _ _ h (A.deeper env) s1 Q' E' hA' R1 hq'
theorem fn_snd0 {gb : Heap} {f : Addr} {fo : Obj} {fd : FuncData} {body : List Stmt} {ps : List Str} {args : List AV} {vals : List Value} {f0 f1 : Fs} {kk : AV → Fs → Fs → Prop} {R : Result → Shared → Prop}
    (ok : FnOk K f fo fd body X.sc ps) (hX : KX K X) (hC : SndC prog w K P n X.c) (hW : ∀ g' L' env, Gd K P g' → (∀ b o, gb.get? b = some o → g'.get? b = some o) → EnvOk env X.sc L' → SndW prog w P g' L' env n X.wl) (G : Gd K P gb) (kb : ∀ b o, gb.get? b = some o → s.heap.get? b = some o) (nb : ∀ a ∈ [P.lex, P.ld, P.sio, P.sd], gb.get? a = none) (hT : TQ prog w P gb) (FO' : FO P g L m f0 f1 s.heap) (hA : okA (n + 2) A) (ha : IsAll P args vals) (hl : args.length = ps.length) (d : Nat)
    (h : (ev X d).ss body ⟨(ps.reverse.zip args.reverse), f0, f1⟩ (backA kk))
    (hq : ∀ v a f0' f1' h' t', FO P g L m f0' f1' h' → Kp P s.heap h' → a.Is P v → kk a f0' f1' → R (.ok (.ret v)) { s with heap := h', toks := t' }) :
    codeAny (model prog w) A (.call (.ref f) ⟨vals, []⟩) R s :=
  fn_sndB ok (ok.bind vals ((isAll_len ha).trans hl)) hX hC hW G kb nb hT FO' hA ha hl d h hq
end
end Mine
end
section
open PySem PySem.W PySem.Calls PyProof.Rows
namespace Mine

set_option genInjectivity false in
structure Fn where
  body : List Stmt
  sc : List (Str × NameKind)
  ps : List Str
noncomputable def tabC (T : Addr → Option Fn) (X : Cx) (d : Nat) : Nat → Value → List AV → Fs → Fs → (AV → Fs → Fs → Prop) → Prop
  | 0 => fun _ _ _ _ _ => False
  | n + 1 => fun f args f0 f1 k => match f with
    | .ref a => (match T a with
      | some fn => (match Nat.beq args.length fn.ps.length with
        | true => (ev { X with sc := fn.sc, c := tabC T X d n } d).ss fn.body ⟨fn.ps.reverse.zip args.reverse, f0, f1⟩ (backA k)
        | false => False)
      | none => False)
    | _ => False

structure KL (K : Frag) (a0 a1 : List Str) (ms : Bool → Str → Option Addr) (pr : Str → Option Addr) (gl : Str → Option Value) : Prop where
  a0 : ∀ x, a0.contains x = true → AttrOk K 746 x
  a1 : ∀ x, a1.contains x = true → AttrOk K 611 x
  ms : ∀ b x f, ms b x = some f → MethOk K (cond b 746 611) x f
  pr : ∀ x f, pr x = some f → PropOk K 746 x f
  gl : ∀ x v, gl x = some v → GlobOk K x v
theorem KL.kx {K : Frag} {X : Cx} (h : KL K X.a0 X.a1 X.ms X.pr X.gl) : KX K X := ⟨h.a0, h.a1, h.ms, h.pr, h.gl⟩

theorem tabC_snd {prog : Program} {w : World} {K : Frag} {P : Ad} {T : Addr → Option Fn} {X : Cx} {d : Nat} (hL : KL K X.a0 X.a1 X.ms X.pr X.gl) (hQ : ∀ g, Gd K P g → TQ prog w P g)
    (hW0 : ∀ t b o σ k, ¬ X.wl t b o σ k) (hT : ∀ a fn, T a = some fn → ∃ fo fd, FnOk K a fo fd fn.body fn.sc fn.ps) : ∀ n, SndC prog w K P (2 * n) (tabC T X d n)
  | 0 => fun _ _ _ _ _ h => h.elim
  | n + 1 => by
    intro f args f0 f1 k h A g L m s vals R hA G FO' ha hq
    unfold tabC at h
    split at h
    · rename_i a
      split at h
      · rename_i fn hfn
        split at h
        · rename_i hl
          obtain ⟨fo, fd, ok⟩ := hT a fn hfn
          exact fn_snd (X := { X with sc := fn.sc, c := tabC T X d n }) ok (KL.kx hL) (tabC_snd hL hQ hW0 hT n) (fun _ _ _ _ _ _ t b o σ k h => absurd h (hW0 t b o σ k)) G (hQ g G) FO' hA ha (Nat.eq_of_beq_eq_true hl) d h hq
        · exact h.elim
      · exact h.elim
    · exact h.elim

noncomputable def lkS {α : Type} (x : Str) : List (Str × α) → Option α
  | [] => none
  | (y, a) :: r => match decide (y = x) with
    | true => some a
    | false => lkS x r
theorem lkS_mem {α : Type} {x : Str} {a : α} : ∀ {l : List (Str × α)}, lkS x l = some a → (x, a) ∈ l
  | [], h => by cases h
  | (y, b) :: r, h => by
    unfold lkS at h
    split at h
    · rename_i e
      cases h
      rw [of_decide_eq_true e]
      exact .head _
    · exact .tail _ (lkS_mem h)
noncomputable def attrB (K : Frag) (C : Addr) (x : Str) : Bool :=
  plainGet K C x && hasDictIn K C && (match findIn K (.ref C) x with | some a => noGet K a | none => false) && (findIn K (.ref C) "__setattr__" == some (some (.builtin "object.__setattr__"))) && plainOver K C && (takerIn K C x == some none)
theorem attrB_ok {K : Frag} {C : Addr} {x : Str} (h : attrB K C x = true) : AttrOk K C x := by
  simp only [attrB, Bool.and_eq_true, beq_iff_eq] at h
  obtain ⟨⟨⟨⟨⟨h1, h2⟩, h3⟩, h4⟩, h5⟩, h6⟩ := h
  refine ⟨h1, h2, ?_, h4, h5, h6⟩
  split at h3
  · exact ⟨_, by assumption, h3⟩
  · cases h3
noncomputable def methB (K : Frag) (C : Addr) (p : Str × Addr) : Bool := plainGet K C p.1 && (findIn K (.ref C) p.1 == some (some (.ref p.2))) && isFn K (.ref p.2) && keepB K (.ref p.2)
theorem methB_ok {K : Frag} {C : Addr} {p : Str × Addr} (h : methB K C p = true) : MethOk K C p.1 p.2 := by
  simp only [methB, Bool.and_eq_true, beq_iff_eq] at h
  obtain ⟨⟨⟨h1, h2⟩, h3⟩, h4⟩ := h
  exact ⟨h1, h2, h3, h4⟩
noncomputable def propB (K : Frag) (C : Addr) (p : Str × Addr) : Bool := plainGet K C p.1 && hasDictIn K C && (match findIn K (.ref C) p.1 with
  | some (some (.ref q)) => (specialIn K (.ref q) "__get__" == some (some (.builtin "property.__get__"))) && (takesIn K (.ref q) == some true) && (match recIn K q "property" with
    | some (.ref f :: _) => f == p.2
    | _ => false)
  | _ => false)
theorem propB_ok {K : Frag} {C : Addr} {p : Str × Addr} (h : propB K C p = true) : PropOk K C p.1 p.2 := by
  simp only [propB, Bool.and_eq_true] at h
  obtain ⟨⟨h1, h2⟩, h3⟩ := h
  refine ⟨h1, h2, ?_⟩
  split at h3
  · rename_i q hq
    simp only [Bool.and_eq_true, beq_iff_eq] at h3
    obtain ⟨⟨h4, h5⟩, h6⟩ := h3
    split at h6
    · rename_i f rest hf
      obtain rfl : f = p.2 := beq_iff_eq.mp h6
      exact ⟨q, rest, hq, h4, h5, hf⟩
    · cases h6
  · cases h3
noncomputable def globB (K : Frag) (p : Str × Value) : Bool := ((nsIn K mainGlobals p.1 == some (some p.2)) || ((nsIn K mainGlobals p.1 == some none) && (nsIn K builtinsNs p.1 == some (some p.2)))) && (match p.2 with | .ref _ => keepB K p.2 | _ => true)
theorem globB_ok {K : Frag} {p : Str × Value} (h : globB K p = true) : GlobOk K p.1 p.2 := by
  simp only [globB, Bool.and_eq_true, Bool.or_eq_true, beq_iff_eq] at h
  refine ⟨h.1, fun f e => ?_⟩
  have h2 := h.2
  rw [e] at h2 ⊢
  exact h2
noncomputable def klB (K : Frag) (a0 a1 : List Str) (m0 m1 pr : List (Str × Addr)) (gl : List (Str × Value)) : Bool :=
  a0.all (attrB K 746) && a1.all (attrB K 611) && m0.all (methB K 746) && m1.all (methB K 611) && pr.all (propB K 746) && gl.all (globB K)
noncomputable def msOf (m0 m1 : List (Str × Addr)) (b : Bool) (x : Str) : Option Addr := match b with
  | true => lkS x m0
  | false => lkS x m1
theorem kl_of {K : Frag} {a0 a1 : List Str} {m0 m1 pr : List (Str × Addr)} {gl : List (Str × Value)} (h : klB K a0 a1 m0 m1 pr gl = true) : KL K a0 a1 (msOf m0 m1) (fun x => lkS x pr) (fun x => lkS x gl) := by
  simp only [klB, Bool.and_eq_true, List.all_eq_true] at h
  obtain ⟨⟨⟨⟨⟨h1, h2⟩, h3⟩, h4⟩, h5⟩, h6⟩ := h
  refine ⟨fun x hx => attrB_ok (h1 x (List.contains_iff_mem.mp hx)), fun x hx => attrB_ok (h2 x (List.contains_iff_mem.mp hx)), fun b x f hf => ?_, fun x f hf => propB_ok (h5 _ (lkS_mem hf)), fun x v hv => globB_ok (h6 _ (lkS_mem hv))⟩
  cases b with
  | true => exact methB_ok (h3 _ (lkS_mem hf))
  | false => exact methB_ok (h4 _ (lkS_mem hf))
end Mine
end
section
open PySem PySem.W PySem.Calls PyProof.Rows
namespace Mine
noncomputable abbrev prg : Program := PySem.Challenge.rw_mj0250_01.row.prog

noncomputable def clsOf (c : Str) : List Stmt → List Stmt
  | [] => []
  | .ClassDef n _ _ b _ _ _ _ _ _ _ :: r => (match decide (n = c) with
    | true => b
    | false => clsOf c r)
  | _ :: r => clsOf c r
noncomputable def defOf (f : Str) : List Stmt → List Stmt × List (Str × NameKind)
  | [] => ([], [])
  | .FunctionDef n _ b _ _ _ sc _ _ _ :: r => (match decide (n = f) with
    | true => (b, sc.names)
    | false => defOf f r)
  | _ :: r => defOf f r
noncomputable def pwB : List Stmt := PySem.Challenge.pw_mj0250_01.main.body
noncomputable def lexB : List Stmt := clsOf "shlex" pwB
noncomputable def sioB : List Stmt := clsOf "StringIO" pwB
noncomputable def objAt (K : Frag) (f : Addr) : Obj := match K.lookup f with
  | some o => o
  | none => default
noncomputable def fnAt (K : Frag) (f : Addr) : FuncData := match (objAt K f).data with
  | .func fd => fd
  | _ => default

noncomputable def fnRow (K : Frag) (f : Addr) (fo : Obj) (fd : FuncData) := (K.lookup f, fo.data, fd.body, codeIn K fd.code fd.qualname, fd.scope.names, fd.scope.kind, fd.scope.isCoroutine, fd.scope.isGenerator, fd.globals, fd.builtins)
theorem fnOk_of {K : Frag} {f : Addr} {fo : Obj} {fd : FuncData} {b : List Stmt × List (Str × NameKind)} {ps : List Str}
    (e : fnRow K f fo fd = (some fo, .func fd, .stmts b.1, true, b.2, .function, false, false, mainGlobals, builtinsNs))
    (e2 : ((b.2.all fun x => decide (x.2 ≠ .cell)) && (ps.all fun x => b.2.lookup x == some .local)) = true)
    (e3 : ∀ vals : List Value, vals.length = ps.length → rdK K 20 (bindArgs fd ⟨vals, []⟩) = some (ps.zip vals)) : FnOk K f fo fd b.1 b.2 ps := by
  simp only [fnRow, Prod.mk.injEq] at e
  obtain ⟨h1, h2, h3, h4, h5, h6, h7, h8, h9, h10⟩ := e
  obtain ⟨h11, h12⟩ := Bool.and_eq_true_iff.mp e2
  exact ⟨h1, h2, h3, h4, h5, h6, h7, h8, h9, h10, h11, h12, e3⟩
theorem bind1 {K : Frag} {fd : FuncData} {p : Str} (e : (fun v => rdK K 20 (bindArgs fd ⟨[v], []⟩)) = fun v => some [(p, v)]) : ∀ vals : List Value, vals.length = [p].length → rdK K 20 (bindArgs fd ⟨vals, []⟩) = some ([p].zip vals)
  | [v], _ => congrFun e v
  | [], h => by cases h
  | _ :: _ :: _, h => by simp at h
theorem bind2 {K : Frag} {fd : FuncData} {p q : Str} (e : (fun v u => rdK K 20 (bindArgs fd ⟨[v, u], []⟩)) = fun v u => some [(p, v), (q, u)]) : ∀ vals : List Value, vals.length = [p, q].length → rdK K 20 (bindArgs fd ⟨vals, []⟩) = some ([p, q].zip vals)
  | [v, u], _ => congrFun (congrFun e v) u
  | [], h => by cases h
  | [_], h => by simp at h
  | _ :: _ :: _ :: _, h => by simp at h


noncomputable def names0 : List Str := ["state", "token", "lineno", "posix", "debug", "whitespace", "commenters", "escape", "wordchars", "quotes", "whitespace_split", "escapedquotes", "instream", "_punctuation_chars", "pushback", "source", "eof", "filestack", "infile"]
noncomputable def names1 : List Str := ["_StringIO__buf", "_StringIO__pos", "_StringIO__newline"]
noncomputable def meth0 : List (Str × Addr) := [("read_token", 714), ("get_token", 707)]
noncomputable def meth1 : List (Str × Addr) := [("read", 557), ("_StringIO__check", 395)]
noncomputable def props : List (Str × Addr) := [("punctuation_chars", 677)]
noncomputable def globs : List (Str × Value) := [("_index", .ref 77), ("len", .builtin "len"), ("type", .type "type"), ("int", .type "int"), ("bool", .type "bool")]
noncomputable def X0 : Cx := { a0 := names0, a1 := names1, ms := msOf meth0 meth1, pr := fun x => lkS x props, gl := fun x => lkS x globs, sc := [], c := fun _ _ _ _ _ => False, wl := fun _ _ _ _ _ => False }
noncomputable def fnOf1 (b : List Stmt × List (Str × NameKind)) (ps : List Str) : Fn := ⟨b.1, b.2, ps⟩
noncomputable def tab0 (a : Addr) : Option Fn := match Nat.beq a 77 with
  | true => some (fnOf1 (defOf "_index" pwB) ["n", "what"])
  | false => (match Nat.beq a 395 with
    | true => some (fnOf1 (defOf "__check" sioB) ["self"])
    | false => (match Nat.beq a 677 with
      | true => some (fnOf1 (defOf "punctuation_chars" lexB) ["self"])
      | false => (match Nat.beq a 557 with
        | true => some (fnOf1 (defOf "read" sioB) ["self", "size"])
        | false => none)))
noncomputable def c0 : Nat → Value → List AV → Fs → Fs → (AV → Fs → Fs → Prop) → Prop := tabC tab0 X0 30

noncomputable def rtB : List Stmt × List (Str × NameKind) := defOf "read_token" lexB
noncomputable def gtB : List Stmt × List (Str × NameKind) := defOf "get_token" lexB
noncomputable def nxB : List Stmt × List (Str × NameKind) := defOf "__next__" lexB
noncomputable def itB : List Stmt × List (Str × NameKind) := defOf "__iter__" lexB
noncomputable def FnK (K : Frag) (f : Addr) (b : List Stmt × List (Str × NameKind)) (ps : List Str) : Prop := FnOk K f (objAt K f) (fnAt K f) b.1 b.2 ps
class KF (KK : World → Frag) : Prop where
  kl : ∀ w, klB (KK w) names0 names1 meth0 meth1 props globs = true
  f557 : ∀ w, FnK (KK w) 557 (defOf "read" sioB) ["self", "size"]
  f77 : ∀ w, FnK (KK w) 77 (defOf "_index" pwB) ["n", "what"]
  f395 : ∀ w, FnK (KK w) 395 (defOf "__check" sioB) ["self"]
  f677 : ∀ w, FnK (KK w) 677 (defOf "punctuation_chars" lexB) ["self"]
  f714 : ∀ w, FnK (KK w) 714 rtB ["self"]
  f707 : ∀ w, FnK (KK w) 707 gtB ["self"]
  f743 : ∀ w, FnK (KK w) 743 nxB ["self"]
  f736 : ∀ w, FnK (KK w) 736 itB ["self"]
  stop : ∀ w, (nsIn (KK w) mainGlobals "StopIteration", nsIn (KK w) builtinsNs "StopIteration", nxB.2.lookup (Str.ofString "StopIteration")) = (some none, some (some (.type "StopIteration")), some NameKind.globalImplicit)
  next : ∀ w, (findIn (KK w) (.ref 746) "__next__", isFn (KK w) (.ref 743), findIn (KK w) (.ref 746) "__iter__", isFn (KK w) (.ref 736), findIn (KK w) (.ref 746) "__len__", findIn (KK w) (.ref 746) "__length_hint__") = (some (some (.ref 743)), true, some (some (.ref 736)), true, some none, some none)
section
variable {KK : World → Frag} [KF KK]
theorem kl_ok (w : World) : klB (KK w) names0 names1 meth0 meth1 props globs = true := KF.kl w
theorem tab0_ok (w : World) : ∀ a fn, tab0 a = some fn → ∃ fo fd, FnOk (KK w) a fo fd fn.body fn.sc fn.ps := by
  intro a fn h
  unfold tab0 at h
  split at h
  · rename_i e; cases h; rw [Nat.eq_of_beq_eq_true e]; exact ⟨_, _, KF.f77 w⟩
  · split at h
    · rename_i e; cases h; rw [Nat.eq_of_beq_eq_true e]; exact ⟨_, _, KF.f395 w⟩
    · split at h
      · rename_i e; cases h; rw [Nat.eq_of_beq_eq_true e]; exact ⟨_, _, KF.f677 w⟩
      · split at h
        · rename_i e; cases h; rw [Nat.eq_of_beq_eq_true e]; exact ⟨_, _, KF.f557 w⟩
        · cases h
end

noncomputable def s1Of (b : Str) (p : Int) : Fs := [("_StringIO__newline", .str "\n"), ("_StringIO__buf", .txt b), ("_StringIO__pos", .sym p)]
theorem read_vc (b : Str) (p : Int) (f0 : Fs) (k : AV → Fs → Fs → Prop) : c0 2 (.ref 557) [.sio, .int 1] f0 (s1Of b p) k =
    (((b.length : Int) ≤ p → k (.str "") f0 (s1Of b p)) ∧ (¬ (b.length : Int) ≤ p → ((p + 1 < b.length → k (.txt (Txt.slice b (some p) (some (p + 1)))) f0 (s1Of b (p + 1))) ∧ (¬ p + 1 < b.length → k (.txt (Txt.slice b (some p) (some b.length))) f0 (s1Of b b.length))))) := by kernel_rfl
end Mine
end
section
namespace Mine
inductive St where
  | sp | q1 | q2 | es | a
deriving DecidableEq

inductive Tk where
  | eof
  | word (t : List Nat) (r : List Nat)
  | last (t : List Nat)

noncomputable def stp (s : St) (t : List Nat) (c : Nat) : Option (St × Bool × List Nat) :=
  match s with
  | .sp => if c = 97 then some (.a, false, [97]) else if c = 39 then some (.q1, false, t) else if c = 34 then some (.q2, false, t) else none
  | .q1 => if c = 39 then some (.a, true, t) else some (.q1, true, t ++ [c])
  | .q2 => if c = 34 then some (.a, true, t) else if c = 92 then some (.es, true, t) else some (.q2, true, t ++ [c])
  | .es => if c = 34 ∨ c = 92 then some (.q2, false, t ++ [c]) else none
  | .a => if c = 97 then some (.a, false, t ++ [97]) else if c = 39 then some (.q1, false, t) else if c = 34 then some (.q2, false, t) else none

noncomputable def rt : St → Bool → List Nat → List Nat → Option Tk
  | .sp, _, _, [] => some .eof
  | .a, q, t, [] => if t ≠ [] ∨ q = true then some (.last t) else none
  | _, _, _, [] => none
  | s, q, t, c :: r =>
    if s = .a ∧ c = 32 then (if t ≠ [] ∨ q = true then some (.word t r) else none)
    else match stp s t c with
      | some (s', q', t') => rt s' (q || q') t' r
      | none => none

theorem rt_cons {s : St} {q : Bool} {t : List Nat} {c : Nat} {r : List Nat} (h : ¬ (s = .a ∧ c = 32)) : rt s q t (c :: r) = match stp s t c with
    | some (s', q', t') => rt s' (q || q') t' r
    | none => none := by
  cases s <;> rw [rt] <;> rw [if_neg h]

theorem rt_suffix : ∀ (r : List Nat) (s : St) (q : Bool) (t : List Nat) {t' r' : List Nat}, rt s q t r = some (.word t' r') → ∃ u, r = u ++ r' ∧ u ≠ []
  | [], s, q, t, t', r', h => by
    cases s <;> simp [rt] at h
  | c :: r, s, q, t, t', r', h => by
    by_cases hw : s = .a ∧ c = 32
    · obtain ⟨rfl, rfl⟩ := hw
      rw [rt] at h
      simp only [and_self, if_true] at h
      split at h
      · cases h; exact ⟨[32], rfl, by simp⟩
      · cases h
    · rw [rt_cons hw] at h
      split at h
      · obtain ⟨u, hu, _⟩ := rt_suffix r _ _ _ h
        exact ⟨c :: u, by rw [hu]; rfl, by simp⟩
      · cases h

noncomputable def splitN : Nat → List Nat → Option (List (List Nat))
  | 0, _ => none
  | n + 1, l => match rt .sp false [] l with
    | some .eof => some []
    | some (.last t) => some [t]
    | some (.word t r) => (splitN n r).map (t :: ·)
    | none => none

noncomputable def inAl (c : Nat) : Bool := c == 39 || c == 34 || c == 92 || c == 97 || c == 32 || c == 10

noncomputable def pairs (p : List Nat) : List Nat := p.flatMap fun c => if c = 92 ∨ c = 34 then [92, c] else [c]
noncomputable def qs (p : List Nat) : List Nat := 34 :: pairs p ++ [34]
noncomputable def sqz (p : List Nat) : List Nat := p.flatMap fun c => if c = 39 then [39, 34, 39, 34, 39] else [c]
noncomputable def qt (p : List Nat) : List Nat := if p = [] then [39, 39] else if p.all (· == 97) then p else 39 :: sqz p ++ [39]

theorem rt_q1 (p : List Nat) : ∀ (q : Bool) (t r : List Nat), rt .q1 q t (sqz p ++ 39 :: r) = rt .a true (t ++ p) r := by
  induction p with
  | nil => intro q t r; simp [sqz, rt, stp]
  | cons c p ih =>
    intro q t r
    by_cases h : c = 39
    · subst h
      have : sqz (39 :: p) = [39, 34, 39, 34, 39] ++ sqz p := by simp [sqz]
      rw [this]
      simp only [List.cons_append, List.nil_append]
      simp only [rt, stp]
      simp [ih]
    · have : sqz (c :: p) = c :: sqz p := by simp [sqz, h]
      rw [this]
      simp only [List.cons_append]
      rw [rt]
      simp [stp, h, ih]
theorem rt_q2 (p : List Nat) : ∀ (q : Bool) (t r : List Nat), rt .q2 q t (pairs p ++ 34 :: r) = rt .a true (t ++ p) r := by
  induction p with
  | nil => intro q t r; simp [pairs, rt, stp]
  | cons c p ih =>
    intro q t r
    by_cases h : c = 92 ∨ c = 34
    · have e : pairs (c :: p) = 92 :: c :: pairs p := by simp [pairs, h]
      rw [e]
      simp only [List.cons_append]
      rw [rt]
      simp only [stp]
      simp only [reduceCtorEq, false_and, if_false]
      rw [if_neg (by decide)]
      simp only [if_true]
      rw [rt]
      simp only [stp, reduceCtorEq, false_and, if_false]
      rw [if_pos (Or.symm h)]
      simp [ih]
    · have e : pairs (c :: p) = c :: pairs p := by simp [pairs, h]
      rw [e]
      simp only [List.cons_append]
      rw [rt]
      have h1 : c ≠ 34 := fun e => h (.inr e)
      have h2 : c ≠ 92 := fun e => h (.inl e)
      simp [stp, h1, h2, ih]
theorem rt_a (n : Nat) : ∀ (q : Bool) (t r : List Nat), rt .a q t (List.replicate n 97 ++ r) = rt .a q (t ++ List.replicate n 97) r := by
  induction n with
  | zero => intro q t r; simp
  | succ n ih =>
    intro q t r
    rw [List.replicate_succ, List.cons_append, rt]
    simp [stp, ih]
theorem all97 {p : List Nat} (h : (p.all (· == 97)) = true) : p = List.replicate p.length 97 := by
  induction p with
  | nil => rfl
  | cons c p ih =>
    simp only [List.all_cons, Bool.and_eq_true, beq_iff_eq] at h
    rw [List.length_cons, List.replicate_succ, ← ih h.2, h.1]

noncomputable def hand (b : Bool) (p : List Nat) : List Nat := if b then qs p else qt p
theorem rt_piece_a (b : Bool) (p : List Nat) (q : Bool) (t r : List Nat) (h : t ≠ [] ∨ q = true) : ∃ q', rt .a q t (hand b p ++ r) = rt .a q' (t ++ p) r ∧ (t ++ p ≠ [] ∨ q' = true) := by
  unfold hand
  cases b with
  | true =>
    refine ⟨true, ?_, .inr rfl⟩
    simp only [if_true, qs, List.cons_append, List.append_assoc]
    rw [rt]
    simp [stp, rt_q2]
  | false =>
    simp only [Bool.false_eq_true, if_false, qt]
    split
    · rename_i e; subst e
      refine ⟨true, ?_, .inr rfl⟩
      simp [rt, stp]
    · split
      · rename_i h1 h2
        rw [all97 h2]
        refine ⟨q, rt_a _ _ _ _, ?_⟩
        rcases h with h | h
        · exact .inl (by simp [h])
        · exact .inr h
      · refine ⟨true, ?_, .inr rfl⟩
        simp only [List.cons_append, List.append_assoc]
        rw [rt]
        simp [stp, rt_q1]
theorem rt_piece_sp (b : Bool) (p : List Nat) (r : List Nat) : ∃ q', rt .sp false [] (hand b p ++ r) = rt .a q' p r ∧ (p ≠ [] ∨ q' = true) := by
  unfold hand
  cases b with
  | true =>
    refine ⟨true, ?_, .inr rfl⟩
    simp only [if_true, qs, List.cons_append, List.append_assoc]
    rw [rt]
    simp [stp, rt_q2]
  | false =>
    simp only [Bool.false_eq_true, if_false, qt]
    split
    · rename_i e; subst e
      refine ⟨true, ?_, .inr rfl⟩
      simp [rt, stp]
    · split
      · rename_i h1 h2
        cases p with
        | nil => exact absurd rfl h1
        | cons c p =>
          simp only [List.all_cons, Bool.and_eq_true, beq_iff_eq] at h2
          obtain ⟨rfl, h2⟩ := h2
          refine ⟨false, ?_, .inl (by simp)⟩
          rw [List.cons_append, rt]
          simp only [stp, reduceCtorEq, false_and, if_false, if_true]
          rw [all97 h2, rt_a]
          simp
      · refine ⟨true, ?_, .inr rfl⟩
        simp only [List.cons_append, List.append_assoc]
        rw [rt]
        simp [stp, rt_q1]

noncomputable def write (b : Bool) : List (List Nat) → List Nat
  | [] => []
  | p :: ps => hand b p ++ write (!b) ps
theorem rt_write_a (ps : List (List Nat)) : ∀ (b q : Bool) (t r : List Nat), (t ≠ [] ∨ q = true) → ∃ q', rt .a q t (write b ps ++ r) = rt .a q' (t ++ ps.flatten) r ∧ (t ++ ps.flatten ≠ [] ∨ q' = true) := by
  induction ps with
  | nil => intro b q t r h; exact ⟨q, by simp [write], by simpa using h⟩
  | cons p ps ih =>
    intro b q t r h
    obtain ⟨q1, e1, h1⟩ := rt_piece_a b p q t (write (!b) ps ++ r) h
    obtain ⟨q2, e2, h2⟩ := ih (!b) q1 (t ++ p) r h1
    refine ⟨q2, ?_, by simpa using h2⟩
    rw [write, List.append_assoc, e1, e2]
    simp
theorem rt_write {ps : List (List Nat)} (hp : ps ≠ []) (b : Bool) (r : List Nat) : ∃ q', rt .sp false [] (write b ps ++ r) = rt .a q' ps.flatten r ∧ (ps.flatten ≠ [] ∨ q' = true) := by
  cases ps with
  | nil => exact absurd rfl hp
  | cons p ps =>
    obtain ⟨q1, e1, h1⟩ := rt_piece_sp b p (write (!b) ps ++ r)
    obtain ⟨q2, e2, h2⟩ := rt_write_a ps (!b) q1 p r h1
    exact ⟨q2, by rw [write, List.append_assoc, e1, e2]; simp, by simpa using h2⟩

noncomputable def joinB : List (List Nat) → List Nat
  | [] => []
  | [w] => w
  | w :: ws => w ++ 32 :: joinB ws

theorem split_words : ∀ (ws : List (Bool × List (List Nat))), (∀ w ∈ ws, w.2 ≠ []) → ∀ n, ws.length < n → splitN n (joinB (ws.map fun w => write w.1 w.2)) = some (ws.map fun w => w.2.flatten)
  | [], _, n, hn => by
    cases n with
    | zero => exact absurd hn (Nat.not_lt_zero _)
    | succ n => simp [joinB, splitN, rt]
  | [w], hw, n, hn => by
    cases n with
    | zero => exact absurd hn (Nat.not_lt_zero _)
    | succ n =>
      obtain ⟨q', e, h⟩ := rt_write (hw w (.head _)) w.1 []
      simp only [List.map_cons, List.map_nil, joinB, splitN]
      rw [List.append_nil] at e
      rw [e, rt, if_pos h]
  | w :: w2 :: ws, hw, n, hn => by
    cases n with
    | zero => exact absurd hn (Nat.not_lt_zero _)
    | succ n =>
      have ih := split_words (w2 :: ws) (fun x hx => hw x (.tail _ hx)) n (by simpa using Nat.lt_of_succ_lt_succ hn)
      obtain ⟨q', e, h⟩ := rt_write (hw w (.head _)) w.1 (32 :: joinB ((w2 :: ws).map fun w => write w.1 w.2))
      simp only [List.map_cons, joinB, splitN] at ih e ⊢
      rw [e, rt]
      simp only [true_and, if_true]
      rw [if_pos h]
      simp only [ih, Option.map_some]

theorem split_one (b : Bool) (p : List Nat) (n : Nat) (hn : 1 < n) : splitN n (hand b p) = some [p] := by
  have := split_words [(b, [p])] (by simp) n (by simpa using hn)
  simpa [joinB, write] using this
end Mine
end
section
open PySem PySem.W PySem.Calls PyProof.Rows
namespace Mine

noncomputable def reCode : Array Nat := #[14, 17, 4, 1, 1, 21, 9, 0, 604043296, 1, 0, 0, 0, 0, 0, 8, 4, 0, 13, 14, 21, 9, 0, 604043296, 1, 0, 0, 0, 0, 0, 8, 4, 0, 1]
noncomputable def okB (e : Except String (Bool × Sre.Seen)) : Option Bool := match e with
  | .ok (b, _) => some b
  | .error _ => none
theorem okB_of {e : Except String (Bool × Sre.Seen)} {b : Bool} (h : okB e = some b) : ∃ s, e = .ok (b, s) := by
  unfold okB at h
  split at h
  · cases h; exact ⟨_, rfl⟩
  · cases h
theorem set_97 (i : Sre.Seen) : okB (Sre.inSet reCode 97 34 5 true i) = some false := by kernel_rfl
theorem set_39 (i : Sre.Seen) : okB (Sre.inSet reCode 39 34 5 true i) = some true := by kernel_rfl
theorem set_34 (i : Sre.Seen) : okB (Sre.inSet reCode 34 34 5 true i) = some true := by kernel_rfl
theorem set_92 (i : Sre.Seen) : okB (Sre.inSet reCode 92 34 5 true i) = some true := by kernel_rfl
theorem set_32 (i : Sre.Seen) : okB (Sre.inSet reCode 32 34 5 true i) = some true := by kernel_rfl
theorem set_10 (i : Sre.Seen) : okB (Sre.inSet reCode 10 34 5 true i) = some true := by kernel_rfl
theorem acc_39 (i : Sre.Seen) : okB (Sre.accepts reCode 18 39 i) = some true := by kernel_rfl
theorem acc_34 (i : Sre.Seen) : okB (Sre.accepts reCode 18 34 i) = some true := by kernel_rfl
theorem acc_92 (i : Sre.Seen) : okB (Sre.accepts reCode 18 92 i) = some true := by kernel_rfl
theorem acc_32 (i : Sre.Seen) : okB (Sre.accepts reCode 18 32 i) = some true := by kernel_rfl
theorem acc_10 (i : Sre.Seen) : okB (Sre.accepts reCode 18 10 i) = some true := by kernel_rfl
theorem al_cases {c : Nat} (hc : inAl c = true) : c = 97 ∨ (c = 39 ∨ c = 34 ∨ c = 92 ∨ c = 32 ∨ c = 10) := by
  simp only [inAl, Bool.or_eq_true, beq_iff_eq] at hc
  rcases hc with ((((h | h) | h) | h) | h) | h
  · exact .inr (.inl h)
  · exact .inr (.inr (.inl h))
  · exact .inr (.inr (.inr (.inl h)))
  · exact .inl h
  · exact .inr (.inr (.inr (.inr (.inl h))))
  · exact .inr (.inr (.inr (.inr (.inr h))))
theorem set_al {c : Nat} (hc : inAl c = true) (h : c ≠ 97) (i : Sre.Seen) : ∃ s, Sre.inSet reCode c 34 5 true i = .ok (true, s) := by
  rcases al_cases hc with h' | rfl | rfl | rfl | rfl | rfl
  · exact absurd h' h
  · exact okB_of (set_39 i)
  · exact okB_of (set_34 i)
  · exact okB_of (set_92 i)
  · exact okB_of (set_32 i)
  · exact okB_of (set_10 i)
theorem acc_al {c : Nat} (hc : inAl c = true) (h : c ≠ 97) (i : Sre.Seen) : ∃ s, Sre.accepts reCode 18 c i = .ok (true, s) := by
  rcases al_cases hc with h' | rfl | rfl | rfl | rfl | rfl
  · exact absurd h' h
  · exact okB_of (acc_39 i)
  · exact okB_of (acc_34 i)
  · exact okB_of (acc_92 i)
  · exact okB_of (acc_32 i)
  · exact okB_of (acc_10 i)

theorem adm_none {m : Sre.M} (hc : m.code = reCode) : ∀ (fuel s : Nat) (i : Sre.Seen), (∀ k, s ≤ k → k < m.lim → m.text.getD k 0 = 97) → ∃ i', Sre.M.admitted m fuel s i = .ok (none, i')
  | 0, _, i, _ => ⟨i, rfl⟩
  | fuel + 1, s, i, h => by
    unfold Sre.M.admitted
    by_cases hs : s ≥ m.lim
    · exact ⟨i, if_pos hs⟩
    · rw [if_neg hs, h s (Nat.le_refl _) (by omega), hc]
      obtain ⟨i', e⟩ := okB_of (set_97 i)
      rw [show reCode.size = 34 from rfl, e]
      exact adm_none hc fuel (s + 1) i' fun k hk => h k (by omega)
theorem adm_some {m : Sre.M} (hc : m.code = reCode) (hal : ∀ k, k < m.lim → inAl (m.text.getD k 0) = true) : ∀ (fuel s : Nat) (i : Sre.Seen), m.lim < fuel + s → (∃ k, s ≤ k ∧ k < m.lim ∧ m.text.getD k 0 ≠ 97) → ∃ k i', Sre.M.admitted m fuel s i = .ok (some k, i') ∧ k < m.lim ∧ m.text.getD k 0 ≠ 97
  | 0, s, i, hf, ⟨k, h1, h2, _⟩ => by omega
  | fuel + 1, s, i, hf, ⟨k, h1, h2, h3⟩ => by
    unfold Sre.M.admitted
    have hs : ¬ s ≥ m.lim := by omega
    rw [if_neg hs, hc, show reCode.size = 34 from rfl]
    by_cases h : m.text.getD s 0 = 97
    · rw [h]
      obtain ⟨i', e⟩ := okB_of (set_97 i)
      rw [e]
      refine adm_some hc hal fuel (s + 1) i' (by omega) ⟨k, ?_, h2, h3⟩
      rcases Nat.lt_or_ge s k with q | q
      · exact q
      · obtain rfl : k = s := by omega
        exact absurd h h3
    · obtain ⟨i', e⟩ := set_al (hal s (by omega)) h i
      rw [e]
      exact ⟨s, i', rfl, by omega, h⟩

theorem from_none {m : Sre.M} (hc : m.code = reCode) (ho : m.outcome = none) (hf : m.frames = []) (h : ∀ k, k < m.lim → m.text.getD k 0 = 97) : ((m.attemptFrom 0 true).runFor 4).outcome = some .failed := by
  obtain ⟨i', e⟩ := adm_none hc (m.lim + 1 - 0) 0 m.seen fun k _ hk => h k hk
  have hfs : m.hasFirstSet = true := by unfold Sre.M.hasFirstSet; rw [hc]; kernel_rfl
  unfold Sre.M.attemptFrom
  rw [hfs, e]
  obtain ⟨code, text, lim, start, lastStart, wholeText, mustAdvance, pc, pos, handed, outermost, marks, lastmark, lastindex, loops, inner, frames, weight, answer, seen, outcome⟩ := m
  dsimp only at ho hf
  subst ho hf
  rfl
theorem from_some {m : Sre.M} (hc : m.code = reCode) (ho : m.outcome = none) (hf : m.frames = []) (ha : m.answer = none) (hw : m.wholeText = false) (hz : m.weight = 0) (hp : m.pc = 18) (hal : ∀ k, k < m.lim → inAl (m.text.getD k 0) = true) (h : ∃ k, k < m.lim ∧ m.text.getD k 0 ≠ 97) : ((m.attemptFrom 0 true).runFor 4).outcome = some .matched := by
  obtain ⟨k, hk1, hk2⟩ := h
  obtain ⟨p, i', e, hp1, hp2⟩ := adm_some hc hal (m.lim + 1 - 0) 0 m.seen (by omega) ⟨k, Nat.zero_le _, hk1, hk2⟩
  have hfs : m.hasFirstSet = true := by unfold Sre.M.hasFirstSet; rw [hc]; kernel_rfl
  unfold Sre.M.attemptFrom
  rw [hfs, e]
  obtain ⟨i2, e2⟩ := acc_al (hal p hp1) hp2 (i'.add 13)
  obtain ⟨code, text, lim, start, lastStart, wholeText, mustAdvance, pc, pos, handed, outermost, marks, lastmark, lastindex, loops, inner, frames, weight, answer, seen, outcome⟩ := m
  dsimp only at hc ho hf ha hw hz hp hp1 e2
  subst hc ho hf ha hw hz hp
  have hp3 : ¬ p ≥ lim := by omega
  let f : Sre.Frame := { wait := .nextStart, pc := 18, pos := p, outermost := true }
  let m1 : Sre.M := ⟨reCode, text, lim, p, lastStart, false, false, 18, p, p, true, marks, -1, -1, loops, inner, [f], 1, none, i', none⟩
  let m2 : Sre.M := ⟨reCode, text, lim, p, lastStart, false, false, 33, p + 1, p, true, marks, -1, -1, loops, inner, [f], 1, none, i2, none⟩
  have s1 : Sre.M.step m1 = m2 := by
    show Sre.M.exec m1 = m2
    unfold Sre.M.exec
    have q : Sre.ops[m1.word 0]? = some .IN := by kernel_rfl
    simp only [q]
    rw [if_neg hp3]
    have e3 : Sre.accepts m1.code m1.pc (m1.text.getD m1.pos 0) (m1.seen.add (m1.word 0)) = .ok (true, i2) := e2
    simp only [e3]
    rfl
  show (Sre.M.runFor 4 m1).outcome = _
  show (Sre.M.runFor 3 (Sre.M.step m1)).outcome = _
  rw [s1]
  rfl
end Mine
end
section
open PySem PySem.W PySem.Calls PyProof.Rows
namespace Mine

inductive U where
  | none
  | bool (b : Bool)
  | int (i : Int)
  | str (x : Str)
  | ref (a : Addr)
  | val (v : Value)
noncomputable def U.Is : U → Value → Prop
  | .none, v => v = .none
  | .bool b, v => v = .bool b
  | .int i, v => ∃ t, v = .int i t
  | .str x, v => x.length ≤ sizeLine ∧ ∃ t, v = .str x t
  | .ref a, v => v = .ref a
  | .val u, v => v = u
noncomputable abbrev Ls := List (Str × U)
noncomputable def uput (x : Str) (u : U) : Ls → Ls
  | [] => [(x, u)]
  | (y, b) :: r => match decide (y = x) with
    | true => (y, u) :: r
    | false => (y, b) :: uput x u r
noncomputable def Le (g g' : Heap) : Prop := ∀ b o, g.get? b = some o → g'.get? b = some o
noncomputable abbrev Ow := List (Addr × List Value)
noncomputable abbrev lstO (items : Array Value) (c : Nat) : Obj := { cls := .type "list", dict := none, data := .seq items c, slots := #[] }
noncomputable def PL (h : Heap) (a : Addr) (vs : List Value) : Prop := ∃ c, h.get? a = some (lstO vs.toArray c)
theorem PL.isList {h : Heap} {a : Addr} {vs : List Value} (x : PL h a vs) : h.IsList a vs.toArray := let ⟨c, e⟩ := x; ⟨_, e, rfl, c, rfl⟩
theorem PL.keeps {h h' : Heap} {a : Addr} {vs : List Value} (x : PL h a vs) (k : ∀ o, h.get? a = some o → h'.get? a = some o) : PL h' a vs := let ⟨c, e⟩ := x; ⟨c, k _ e⟩
set_option genInjectivity false in
structure S2 where
  loc : Ls
  g : Heap
  ow : Ow
inductive UF where
  | next
  | brk
  | cont
  | ret (u : U)
set_option genInjectivity false in
structure C2 where
  sc : List (Str × NameKind)
  gl : Str → Option Value
  cell : Str → Option Addr
  own : Bool
  kp : Addr → Bool
  /-- is what is read from there a text (or a list)? -/
  hint : Str → Nat → Option Bool
  c : Addr → List U → Heap → (U → Heap → Prop) → Prop
  lc : Expr → S2 → (U → S2 → Prop) → Prop
  fr : Stmt → S2 → (UF → S2 → Prop) → Prop
  eq : Addr → Addr → Heap → (Bool → Prop) → Prop
set_option genInjectivity false in
structure E2 where
  e : Expr → S2 → (U → S2 → Prop) → Prop
  t : Expr → S2 → (Bool → S2 → Prop) → Prop
  s : Stmt → S2 → (UF → S2 → Prop) → Prop
noncomputable def E2.es (ev : E2) : List Expr → S2 → (List U → S2 → Prop) → Prop
  | [], σ, k => k [] σ
  | e :: r, σ, k => ev.e e σ fun a σ' => E2.es ev r σ' fun as σ'' => k (a :: as) σ''
noncomputable def E2.ss (ev : E2) : List Stmt → S2 → (UF → S2 → Prop) → Prop
  | [], σ, k => k .next σ
  | st :: r, σ, k => ev.s st σ fun f σ' => match f with
    | .next => E2.ss ev r σ' k
    | f => k f σ'
noncomputable def E2.and (ev : E2) : List Expr → S2 → (Bool → S2 → Prop) → Prop
  | [], σ, k => k true σ
  | x :: r, σ, k => ev.t x σ fun b σ' => match b with
    | true => E2.and ev r σ' k
    | false => k false σ'
noncomputable def E2.or (ev : E2) : List Expr → S2 → (Bool → S2 → Prop) → Prop
  | [], σ, k => k false σ
  | x :: r, σ, k => ev.t x σ fun b σ' => match b with
    | true => k true σ'
    | false => E2.or ev r σ' k

noncomputable def LstIn (σ : S2) (a : Addr) (vs : List Value) : Prop := (a, vs) ∈ σ.ow ∨ σ.g.IsList a vs.toArray
noncomputable def at_ (vs : List Value) (i : Int) : Option Value := if 0 ≤ i then vs[i.toNat]? else if 0 ≤ i + vs.length then vs[(i + vs.length).toNat]? else none
noncomputable def IsAllU : List U → List Value → Prop
  | [], [] => True
  | a :: r, v :: t => a.Is v ∧ IsAllU r t
  | _, _ => False

noncomputable def constU (c : Const) (k : U → Prop) : Prop := match c with
  | .none => k .none
  | .bool b => k (.bool b)
  | .int i => k (.int i)
  | .str x => (match Nat.ble x.cps.size 100000 with
    | true => k (.str x)
    | false => False)
  | _ => False
noncomputable def nameU (X : C2) (x : Str) (σ : S2) (k : U → Prop) : Prop := match decide (x = ("__debug__" : Str)), X.sc.lookup x with
  | false, some .local => (match lkS x σ.loc with
    | some a => k a
    | none => False)
  | false, some .globalImplicit => (match X.gl x with
    | some v => k (.val v)
    | none => False)
  | false, some .cell => (match X.cell x with
    | some c => ∃ v u, σ.g.IsCell c (some v) ∧ U.Is u v ∧ k u
    | none => False)
  | false, some .free => (match X.cell x, x == ("__classdict__" : Str) with
    | some c, false => ∃ v u, σ.g.IsCell c (some v) ∧ U.Is u v ∧ k u
    | _, _ => False)
  | _, _ => False
noncomputable def newU (X : C2) (vs : List Value) (σ : S2) (k : U → S2 → Prop) : Prop := vs.length ≤ sizeLine ∧ (match X.own with
  | true => ∀ a, σ.g.get? a = none → a ∉ σ.ow.map (·.1) → k (.ref a) { σ with ow := (a, vs) :: σ.ow }
  | false => ∀ g' a, Le σ.g g' → σ.g.get? a = none → g'.IsList a vs.toArray → k (.ref a) { σ with g := g' })
noncomputable def binU (X : C2) (op : Operator) (a b : U) (σ : S2) (k : U → S2 → Prop) : Prop := match op with
  | .Add => (match a, b with
    | .str x, .str y => x.length + y.length ≤ sizeLine ∧ k (.str (x ++ y)) σ
    | .int i, .int j => k (.int (i + j)) σ
    | .ref a, .ref b => ∃ vs us, LstIn σ a vs ∧ LstIn σ b us ∧ newU X (vs ++ us) σ k
    | _, _ => False)
  | .Sub => (match a, b with
    | .int i, .int j => k (.int (i - j)) σ
    | _, _ => False)
  | .Mod => (match a, b with
    | .int i, .int j => (match decide (j = 0) with
      | false => k (.int (i.fmod j)) σ
      | true => False)
    | _, _ => False)
  | _ => False
noncomputable def cmpU (X : C2) (op : CmpOp) (a b : U) (σ : S2) (k : Bool → Prop) : Prop := match op with
  | .Is => (match b, a with
    | .none, .none => k true
    | .none, .ref _ => k false
    | .val (.type x), .val (.type y) => k (decide (y = x))
    | _, _ => False)
  | .Eq => (match a, b with
    | .int i, .int j => (i = j → k true) ∧ (¬ i = j → k false)
    | .ref a, .ref b => X.eq a b σ.g fun r => k r
    | _, _ => False)
  | .NotEq => (match a, b with
    | .str x, .str y => (x = y → k false) ∧ (¬ x = y → k true)
    | .int i, .int j => (i = j → k false) ∧ (¬ i = j → k true)
    | .ref a, .ref b => X.eq a b σ.g fun r => k (!r)
    | _, _ => False)
  | .In => (match a, b with
    | .str y, .str x => ((Builtin.Str.occurrences x y 0 x.length 1).isEmpty = false → k true) ∧ ((Builtin.Str.occurrences x y 0 x.length 1).isEmpty = true → k false)
    | _, _ => False)
  | .Gt => (match a, b with
    | .int i, .int j => (j < i → k true) ∧ (¬ j < i → k false)
    | _, _ => False)
  | .Lt => (match a, b with
    | .int i, .int j => (i < j → k true) ∧ (¬ i < j → k false)
    | _, _ => False)
  | _ => False
noncomputable def truthU (a : U) (k : Bool → Prop) : Prop := match a with
  | .none => k false
  | .bool b => k b
  | .str x => (x.length ≠ 0 → k true) ∧ (x.length = 0 → k false)
  | _ => False
noncomputable def rootE : Expr → Option (Str × Nat)
  | .Name x _ => some (x, 0)
  | .Call .. => some ("", 0)
  | .Subscript v _ _ => (match rootE v with
    | some (x, n) => some (x, n + 1)
    | none => none)
  | _ => none
noncomputable def subU (X : C2) (e : Expr) (a i : U) (σ : S2) (k : U → S2 → Prop) : Prop := match a, i with
  | .ref a, .int i => (match rootE e with
    | some (x, n) => (match X.hint x n with
      | some true => ∃ vs y t, LstIn σ a vs ∧ at_ vs i = some (.str y t) ∧ y.length ≤ sizeLine ∧ i < 2 ^ 63 ∧ -(2 ^ 63) ≤ i ∧ k (.str y) σ
      | some false => ∃ vs b, LstIn σ a vs ∧ at_ vs i = some (.ref b) ∧ i < 2 ^ 63 ∧ -(2 ^ 63) ≤ i ∧ k (.ref b) σ
      | none => False)
    | none => False)
  | .str x, .int i => ∃ c, (seqIndex? i x.length).bind (x.cps[·]?) = some c ∧ i < 2 ^ 63 ∧ -(2 ^ 63) ≤ i ∧ k (.str ⟨#[c]⟩) σ
  | _, _ => False
noncomputable def pickU : List U → Nat → Int → (U → Prop) → Prop
  | [], _, _, _ => True
  | u :: r, n, i, k => (i = (n : Int) → k u) ∧ pickU r (n + 1) i k
noncomputable def atU (d : Prop) (fi : Int → Prop) (fs : Str → Prop) (fr : Addr → Prop) : U → Prop
  | .int i => fi i
  | .str x => fs x
  | .ref a => fr a
  | _ => d
noncomputable def oneU (p : U → Prop) : List U → Prop
  | [] => False
  | u :: r => (match r with
    | [] => p u
    | _ :: _ => False)
noncomputable def bltU (id : String) (as : List U) (σ : S2) (k : U → Prop) : Prop := match decide (id = "len") with
  | true => oneU (atU False (fun _ => False) (fun _ => False) fun a => ∃ vs, LstIn σ a vs ∧ vs.length ≤ sizeLine ∧ k (.int vs.length)) as
  | false => False
noncomputable def typU (T : String) (as : List U) (σ : S2) (k : U → Prop) : Prop := match decide (T = "type") with
  | true => oneU (atU False (fun _ => False) (fun _ => k (.val (.type "str"))) fun a => ∃ vs, LstIn σ a vs ∧ k (.val (.type "list"))) as
  | false => (match decide (T = "str") with
    | true => oneU (atU False (fun _ => False) (fun x => k (.str x)) fun _ => False) as
    | false => False)
noncomputable def joinU (x : Str) (u : U) (σ : S2) (k : U → S2 → Prop) : Prop := match u with
  | .ref a => ∃ vs ys, LstIn σ a vs ∧ StrsAre vs ys ∧ (ys.map (·.length)).sum + ys.length * x.length ≤ 16777216 ∧ k (.str (Txt.join x ys)) σ
  | _ => False
noncomputable def appU (a : Addr) (u : U) (σ : S2) (k : U → S2 → Prop) : Prop := ∃ pre vs post, σ.ow = pre ++ (a, vs) :: post ∧ vs.length + 1 ≤ sizeLine ∧ ∀ v, u.Is v → k .none { σ with ow := pre ++ (a, vs ++ [v]) :: post }
noncomputable def constS : Expr → Option Str
  | .Constant (.str x) _ _ => (match Nat.ble x.cps.size 100000 with
    | true => some x
    | false => none)
  | _ => none
noncomputable def callU (X : C2) (f : Addr) (as : List U) (σ : S2) (k : U → S2 → Prop) : Prop := match X.own with
  | true => X.c f as σ.g fun u _ => k u σ
  | false => σ.ow = [] ∧ X.c f as σ.g fun u g' => k u { σ with g := g' }

noncomputable def E2.parts (ev : E2) : List Expr → Str → S2 → (U → S2 → Prop) → Prop
  | [], acc, σ, k => k (.str acc) σ
  | e :: r, acc, σ, k => (match e with
    | .FormattedValue v (-1) none _ => ev.e v σ fun u σ' => (match u with
      | .str y => acc.length + y.length ≤ sizeLine ∧ E2.parts ev r (acc ++ y) σ' k
      | _ => False)
    | .Constant c u p => ev.e (.Constant c u p) σ fun u σ' => (match u with
      | .str y => acc.length + y.length ≤ sizeLine ∧ E2.parts ev r (acc ++ y) σ' k
      | _ => False)
    | _ => False)

noncomputable def noC0 : Expr → Bool
  | .Call _ [] [] _ => false
  | _ => true
noncomputable def intC (c : Const) (k : Int → Prop) : Prop := match c with
  | .int i => k i
  | _ => False
noncomputable def intN (X : C2) (x : Str) (l : Ls) (k : Int → Prop) : Prop := match decide (x = ("__debug__" : Str)) with
  | true => False
  | false => (match X.sc.lookup x with
    | some .local => (match lkS x l with
      | some (.int i) => k i
      | _ => False)
    | _ => False)
noncomputable def intOp (op : Operator) (i j : Int) (k : Int → Prop) : Prop := match op with
  | .Add => k (i + j)
  | .Sub => k (i - j)
  | .Mod => (match decide (j = 0) with
    | false => k (i.fmod j)
    | true => False)
  | _ => False
noncomputable def intU (X : C2) : Nat → Expr → Ls → (Int → Prop) → Prop
  | 0, _, _, _ => False
  | n + 1, e, l, k => match e with
    | .Constant c _ _ => intC c k
    | .Name x _ => intN X x l k
    | .BinOp a op b _ => intU X n a l fun i => intU X n b l fun j => intOp op i j k
    | _ => False

noncomputable def stepE2 (X : C2) (ev : E2) (e : Expr) (σ : S2) (k : U → S2 → Prop) : Prop := match e with
  | .Constant c _ _ => constU c fun a => k a σ
  | .Name x _ => nameU X x σ fun a => k a σ
  | .BinOp l op r _ => ev.e l σ fun a σ' => ev.e r σ' fun b σ'' => binU X op a b σ'' k
  | .UnaryOp op x _ => (match op with
    | .USub => ev.e x σ fun a σ' => (match a with
      | .int i => k (.int (-i)) σ'
      | _ => False)
    | _ => False)
  | .Subscript v sl p => (match sl with
    | .Slice none (some hi) none _ => (match v with
      | .Name x px => ev.e (.Name x px) σ fun a σ1 => ev.e hi σ1 fun j σ2 => (match a, j with
        | .ref a, .int j => ∃ vs, LstIn σ2 a vs ∧ vs.length ≤ sizeLine ∧ newU X (slicePick vs.toArray none (some j) none).toList σ2 k
        | _, _ => False)
      | _ => False)
    | .Slice .. => False
    | sl => (match v with
      | .List es _ => (match noStar es, Nat.ble es.length 100 with
        | true, true => ev.es es σ fun us σ1 => intU X 10 sl σ1.loc fun i => 0 ≤ i ∧ i < (us.length : Nat) ∧ pickU us 0 i fun u => k u σ1
        | _, _ => False)
      | v => ev.e v σ fun a σ1 => ev.e sl σ1 fun i σ2 => subU X (.Subscript v sl p) a i σ2 k))
  | .List es _ => (match noStar es with
    | true => ev.es es σ fun as σ' => ∀ vs, IsAllU as vs → newU X vs σ' k
    | false => False)
  | .ListComp .. => X.lc e σ k
  | .IfExp t b o _ => ev.t t σ fun c σ' => (match c with
    | true => ev.e b σ' k
    | false => ev.e o σ' k)
  | .JoinedStr es _ => (match es with
    | a :: b :: r => ev.parts (a :: b :: r) "" σ k
    | _ => False)
  | .Call f args kws cp => (match noStar args, kws with
    | true, [] => (match f with
      | .Attribute o m ap => (match Nat.blt args.length 30 && ap.endLine == cp.line && noC0 o with
        | true => (match decide (m = ("replace" : Str)) with
          | true => (match args with
            | [p, q] => (match constS p, constS q with
              | some y, some z => (match y == z with
                | false => ev.e o σ fun b σ1 => (match b with
                  | .str x => x.length + (x.length + 1) * z.length ≤ 16777216 ∧ k (.str (Txt.replace x y z)) σ1
                  | _ => False)
                | true => False)
              | _, _ => False)
            | _ => False)
          | false => (match args with
            | [a] => (match decide (m = ("join" : Str)) with
              | true => ev.e o σ fun b σ1 => (match b with
                | .str x => ev.e a σ1 fun u σ' => joinU x u σ' k
                | _ => False)
              | false => (match decide (m = ("append" : Str)) with
                | true => ev.e o σ fun b σ1 => (match b with
                  | .ref l => (∃ vs, (l, vs) ∈ σ1.ow) ∧ ev.e a σ1 fun u σ' => appU l u σ' k
                  | _ => False)
                | false => False))
            | _ => False))
        | false => False)
      | f => ev.e f σ fun b σ1 => (match b with
        | .val (.ref f) => (match X.kp f with
          | true => ev.es args σ1 fun as σ' => callU X f as σ' k
          | false => False)
        | .val (.builtin id) => ev.es args σ1 fun as σ' => bltU id as σ' fun r => k r σ'
        | .val (.type T) => ev.es args σ1 fun as σ' => typU T as σ' fun r => k r σ'
        | _ => False))
    | _, _ => False)
  | _ => False

noncomputable def stepT2 (X : C2) (ev : E2) (e : Expr) (σ : S2) (k : Bool → S2 → Prop) : Prop := match e with
  | .Compare l ops rs _ => (match ops, rs with
    | [op], [r] => (match r with
      | .Set _ _ _ => False
      | .Tuple _ _ _ => False
      | r => ev.e l σ fun a σ' => ev.e r σ' fun b σ'' => cmpU X op a b σ'' fun t => k t σ'')
    | _, _ => False)
  | .BoolOp op xs _ => (match op with
    | .And => ev.and xs σ k
    | .Or => ev.or xs σ k)
  | .UnaryOp op x _ => (match op with
    | .Not => ev.t x σ fun b σ' => k (!b) σ'
    | _ => False)
  | .Name x p => ev.e (.Name x p) σ fun a σ' => truthU a fun t => k t σ'
  | _ => False

noncomputable def stepS2 (X : C2) (ev : E2) (st : Stmt) (σ : S2) (k : UF → S2 → Prop) : Prop := match st with
  | .If t b o _ => ev.t t σ fun c σ' => (match c with
    | true => ev.ss b σ' k
    | false => ev.ss o σ' k)
  | .Assign ts v p => (match noComp v with
    | true => (match ts with
      | [] => False
      | t :: r => (match r with
        | _ :: _ => False
        | [] => (match t with
          | .Name x _ => (match X.sc.lookup x with
            | some .local => ev.e v σ fun a σ' => k .next { σ' with loc := uput x a σ'.loc }
            | _ => False)
          | .Subscript o sl _ => ev.e v σ fun u σ1 => ev.e o σ1 fun a σ2 => ev.e sl σ2 fun i σ3 => (match a, i with
            | .ref a, .int i => ∃ pre vs post, σ3.ow = pre ++ (a, vs) :: post ∧ i = -1 ∧ vs ≠ [] ∧ vs.length ≤ sizeLine ∧ ∀ v, u.Is v → k .next { σ3 with ow := pre ++ (a, vs.dropLast ++ [v]) :: post }
            | _, _ => False)
          | _ => False)))
    | false => X.fr (.Assign ts v p) σ k)
  | .Return v _ => (match v with
    | some e => ev.e e σ fun a σ' => k (.ret a) σ'
    | none => k (.ret .none) σ)
  | .Expr e _ => (match noComp e with
    | true => ev.e e σ fun a σ' => (match a with
      | .none => k .next σ'
      | _ => False)
    | false => False)
  | .For t i b o p => X.fr (.For t i b o p) σ k
  | .Pass _ => k .next σ
  | _ => False

noncomputable def ev2 (X : C2) : Nat → E2
  | 0 => ⟨fun _ _ _ => False, fun _ _ _ => False, fun _ _ _ => False⟩
  | n + 1 => ⟨stepE2 X (ev2 X n), stepT2 X (ev2 X n), stepS2 X (ev2 X n)⟩
end Mine
end
section
open PySem PySem.W PySem.Calls PyProof.Rows
namespace Mine

theorem Le.rfl {g : Heap} : Le g g := fun _ _ e => e
theorem Le.trans {a b c : Heap} (h : Le a b) (h' : Le b c) : Le a c := fun x o e => h' x o (h x o e)
theorem lk_put (x y : Str) (u : U) : ∀ f : Ls, lkS y (uput x u f) = if x = y then some u else lkS y f
  | [] => by
    show (match decide (x = y) with | true => some u | false => none) = _
    by_cases h : x = y <;> simp [h, lkS]
  | (z, b) :: r => by
    have ih := lk_put x y u r
    show lkS y (match decide (z = x) with | true => (z, u) :: r | false => (z, b) :: uput x u r) = if x = y then some u else (match decide (z = y) with | true => some b | false => lkS y r)
    by_cases h : z = x
    · subst h
      simp only [decide_true]
      show (match decide (z = y) with | true => some u | false => lkS y r) = _
      by_cases q : z = y <;> simp [q]
    · simp only [h, decide_false]
      show (match decide (z = y) with | true => some b | false => lkS y (uput x u r)) = _
      rw [ih]
      by_cases q : z = y
      · subst q
        simp [show ¬ x = z from fun e => h e.symm]
      · simp [q]

structure Sr (K : Frag) (g : Heap) (fb : List (Addr × Obj)) (h : Heap) : Prop where
  kin : K.In g
  nl : g.NoLimit
  mg : ∃ mg, g.Ns mainGlobals mg
  mb : ∃ mb, g.Ns builtinsNs mb
  keep : Le g h
  fb : ∀ p ∈ fb, g.get? p.1 = none ∧ (∀ vs, p.2.data ≠ .fields vs) ∧ ∃ sl, h.get? p.1 = some { p.2 with slots := sl }
structure Bd (K : Frag) (g : Heap) (fb : List (Addr × Obj)) (ow : Ow) (L : Addr) (m : Str → Option Value) (h : Heap) : Prop where
  sr : Sr K g fb h
  fL : L ∉ fb.map (·.1)
  ns : h.Ns L m
  gL : g.get? L = none
  own : ∀ p ∈ ow, PL h p.1 p.2 ∧ g.get? p.1 = none ∧ p.1 ≠ L ∧ p.1 ∉ fb.map (·.1)
  nd : (ow.map (·.1)).Nodup
noncomputable def FrOk (A : Around) (L : Addr) (fb : List (Addr × Obj)) : Prop := ∃ frs, A.frames = some frs ∧ ∀ e ∈ frs, e.scope.kind ≠ .module ∧ ∃ a, e.frame = some a ∧ (a = L ∨ a ∈ fb.map (·.1))
noncomputable def FrIn (A : Around) (fb : List (Addr × Obj)) : Prop := ∃ frs, A.frames = some frs ∧ ∀ e ∈ frs, e.scope.kind ≠ .module ∧ ∃ a, e.frame = some a ∧ a ∈ fb.map (·.1)

theorem Sr.mono {K : Frag} {g g' : Heap} {fb : List (Addr × Obj)} {h : Heap} (S : Sr K g fb h) (le : Le g g') (k : Le g' h) (hf : ∀ p ∈ fb, g'.get? p.1 = none) : Sr K g' fb h :=
  ⟨S.kin.keeps le, S.nl.keeps le, let ⟨a, b⟩ := S.mg; ⟨a, b.keeps le⟩, let ⟨a, b⟩ := S.mb; ⟨a, b.keeps le⟩, k, fun p hp => ⟨hf p hp, (S.fb p hp).2⟩⟩
theorem not_mem_of_none {g : Heap} {l : List Addr} (h : ∀ a ∈ l, g.get? a = none) {b : Addr} {o : Obj} (e : g.get? b = some o) : b ∉ l := fun q => by
  rw [h b q] at e; cases e

section
variable {K : Frag} {g : Heap} {fb : List (Addr × Obj)} {ow : Ow} {L : Addr} {m m' : Str → Option Value} {h h1 : Heap}
theorem Bd.grow (B : Bd K g fb ow L m h) (hk : ∀ b o, b ≠ L → h.get? b = some o → h1.get? b = some o) (ns : h1.Ns L m') : Bd K g fb ow L m' h1 := by
  refine ⟨⟨B.sr.kin, B.sr.nl, B.sr.mg, B.sr.mb, fun b o e => hk b o (fun q => by rw [q, B.gL] at e; cases e) (B.sr.keep b o e), fun p hp => ?_⟩, B.fL, ns, B.gL, fun p hp => ?_, B.nd⟩
  · obtain ⟨h1, h2, sl, h3⟩ := B.sr.fb p hp
    exact ⟨h1, h2, sl, hk _ _ (fun q => B.fL (q ▸ List.mem_map_of_mem hp)) h3⟩
  · obtain ⟨h1, h3, h4, h5⟩ := B.own p hp
    exact ⟨h1.keeps fun o e => hk _ o h4 e, h3, h4, h5⟩
theorem Bd.more (B : Bd K g fb ow L m h) (hk : Le h h1) : Bd K g fb ow L m h1 := B.grow (fun b o _ e => hk b o e) (B.ns.keeps hk)
noncomputable def hid (fb : List (Addr × Obj)) (ow : Ow) (L : Addr) : List Addr := L :: (fb.map (·.1) ++ ow.map (·.1))
theorem Bd.hidden (B : Bd K g fb ow L m h) : ∀ a ∈ hid fb ow L, g.get? a = none := by
  intro a ha
  rcases List.mem_cons.mp ha with rfl | ha
  · exact B.gL
  · rcases List.mem_append.mp ha with ha | ha
    · obtain ⟨p, hp, rfl⟩ := List.mem_map.mp ha; exact (B.sr.fb p hp).1
    · obtain ⟨p, hp, rfl⟩ := List.mem_map.mp ha; exact (B.own p hp).2.1
theorem Bd.le_max (B : Bd K g fb ow L m h) : Le g (hideAll h (hid fb ow L)) := fun b o e => hideAll_get _ (B.sr.keep b o e) (not_mem_of_none B.hidden e)
theorem Bd.max (B : Bd K g fb ow L m h) : Bd K (hideAll h (hid fb ow L)) fb ow L m h := by
  refine ⟨B.sr.mono B.le_max (fun b o e => of_hideAll _ e) fun p hp => hideAll_none _ ?_, B.fL, B.ns, hideAll_none _ (.head _), fun p hp => ⟨(B.own p hp).1, hideAll_none _ ?_, (B.own p hp).2.2⟩, B.nd⟩
  · exact .tail _ (List.mem_append_left _ (List.mem_map_of_mem hp))
  · exact .tail _ (List.mem_append_right _ (List.mem_map_of_mem hp))
theorem Bd.fresh (B : Bd K g fb ow L m h) {a : Addr} (ha : h.get? a = none) : a ∉ hid fb ow L := by
  intro q
  rcases List.mem_cons.mp q with rfl | q
  · obtain ⟨o, _, _, e, _⟩ := B.ns; rw [ha] at e; cases e
  · rcases List.mem_append.mp q with q | q
    · obtain ⟨p, hp, rfl⟩ := List.mem_map.mp q; obtain ⟨_, _, sl, e⟩ := B.sr.fb p hp; rw [ha] at e; cases e
    · obtain ⟨p, hp, rfl⟩ := List.mem_map.mp q; obtain ⟨⟨c, e⟩, _⟩ := B.own p hp; rw [ha] at e; cases e
theorem Bd.g_none (B : Bd K g fb ow L m h) {a : Addr} (ha : h.get? a = none) : g.get? a = none := by
  cases e : g.get? a with
  | none => exact Eq.refl _
  | some o => have := B.sr.keep a o e; rw [ha] at this; cases this
theorem Bd.lst (B : Bd K g fb ow L m h) {l : Ls} {a : Addr} {vs : List Value} (hl : LstIn ⟨l, g, ow⟩ a vs) : h.IsList a vs.toArray := by
  rcases hl with hl | ⟨o, e, r⟩
  · exact (B.own _ hl).1.isList
  · exact ⟨o, B.sr.keep _ _ e, r⟩
end

noncomputable def Ct (prog : Program) (w : World) (K : Frag) (n : Nat) (f : Value) (vals : List Value) (g : Heap) (P : Heap → Value → Prop) : Prop :=
  ∀ A s fb R, okA n A → FrIn A fb → 1 ≤ s.toks → Sr K g fb s.heap → (∀ g' v h' t', 1 ≤ t' → Le g g' → Sr K g' fb h' → P g' v → R (.ok (.ret v)) { s with heap := h', toks := t' }) → codeAny (model prog w) A (.call f ⟨vals, []⟩) R s
noncomputable def SndC2 (prog : Program) (w : World) (K : Frag) (n : Nat) (c : Addr → List U → Heap → (U → Heap → Prop) → Prop) : Prop :=
  ∀ f as g k, c f as g k → ∀ g1, Le g g1 → ∀ vals, IsAllU as vals → Ct prog w K n (.ref f) vals g1 fun g' v => ∃ u, U.Is u v ∧ k u g'

noncomputable def Rep2 (K : Frag) (fb : List (Addr × Obj)) (L : Addr) (σ : S2) (h : Heap) : Prop := ∃ m, Bd K σ.g fb σ.ow L m h ∧ ∀ x u, lkS x σ.loc = some u → ∃ v, m x = some v ∧ U.Is u v
structure Env2 (env : Env) (X : C2) (L : Addr) : Prop where
  ok : EnvOk env X.sc L
  cell : ∀ x c, X.cell x = some c → env.cells.lookup x = some c

section
variable {prog : Program} {w : World} {K : Frag} {X : C2} {fb : List (Addr × Obj)} {L : Addr} {env : Env} {n : Nat} {A : Around} {s : Shared} {E : Value → Shared → Prop}

noncomputable def SE2 (prog : Program) (w : World) (K : Frag) (fb : List (Addr × Obj)) (L : Addr) (env : Env) (A : Around) (t : Expr → S2 → (U → S2 → Prop) → Prop) : Prop :=
  ∀ e σ k, t e σ k → ∀ s Q E, 1 ≤ s.toks → Rep2 K fb L σ s.heap → (∀ v u σ' h' t', 1 ≤ t' → Rep2 K fb L σ' h' → U.Is u v → k u σ' → Q v { s with heap := h', toks := t' }) → wpAny (model prog w) A (eval e env) Q E s
noncomputable def ST2 (prog : Program) (w : World) (K : Frag) (fb : List (Addr × Obj)) (L : Addr) (env : Env) (A : Around) (t : Expr → S2 → (Bool → S2 → Prop) → Prop) : Prop :=
  ∀ e σ k, t e σ k → ∀ s Q E, 1 ≤ s.toks → Rep2 K fb L σ s.heap → (∀ b σ' h' t', 1 ≤ t' → Rep2 K fb L σ' h' → k b σ' → Q b { s with heap := h', toks := t' }) → wpAny (model prog w) A (isTrue e env (eval e env)) Q E s
noncomputable def FlU : UF → Flow → Prop
  | .next, f => f = .next
  | .brk, f => f = .brk
  | .cont, f => f = .cont
  | .ret a, f => ∃ v, f = .ret v ∧ a.Is v
noncomputable def SS2 (prog : Program) (w : World) (K : Frag) (fb : List (Addr × Obj)) (L : Addr) (env : Env) (A : Around) (t : Stmt → S2 → (UF → S2 → Prop) → Prop) : Prop :=
  ∀ e σ k, t e σ k → ∀ s Q E, 1 ≤ s.toks → Rep2 K fb L σ s.heap → (∀ f b σ' h' t', 1 ≤ t' → Rep2 K fb L σ' h' → FlU b f → k b σ' → Q f { s with heap := h', toks := t' }) → wpAny (model prog w) A (exec e env) Q E s
noncomputable def SSs2 (prog : Program) (w : World) (K : Frag) (fb : List (Addr × Obj)) (L : Addr) (env : Env) (A : Around) (t : List Stmt → S2 → (UF → S2 → Prop) → Prop) : Prop :=
  ∀ e σ k, t e σ k → ∀ s Q E, 1 ≤ s.toks → Rep2 K fb L σ s.heap → (∀ f b σ' h' t', 1 ≤ t' → Rep2 K fb L σ' h' → FlU b f → k b σ' → Q f { s with heap := h', toks := t' }) → wpAny (model prog w) A (execs e env) Q E s

theorem const2 {c : Const} {u : Nat} {p : Pos} {Q : Value → Shared → Prop} {k : U → Prop} (h : constU c k) (hq : ∀ v a t', U.Is a v → k a → Q v { s with toks := t' }) : wpAny (model prog w) A (eval (.Constant c u p) env) Q E s := by
  unfold constU at h
  split at h
  · exact fun _ _ _ => hq .none .none s.toks rfl h
  · exact fun _ _ _ => hq (.bool _) (.bool _) s.toks rfl h
  · exact fun _ _ _ => hq (.int _ s.toks) (.int _) (s.toks + 1) ⟨_, rfl⟩ h
  · split at h
    · rename_i x _ hx
      refine Constant_str (hq (.str _ s.toks) (.str _) (s.toks + 1) ⟨?_, _, rfl⟩ h)
      have : x.cps.size ≤ 100000 := Nat.le_of_ble_eq_true hx
      show x.cps.size ≤ 2 ^ 24
      omega
    · exact h.elim
  · exact h.elim

theorem name2 {x : Str} {p : Pos} {σ : S2} {Q : Value → Shared → Prop} {k : U → Prop} (hG : ∀ x v, X.gl x = some v → GlobOk K x v) (hE : Env2 env X L) (R : Rep2 K fb L σ s.heap) (h : nameU X x σ k) (hq : ∀ v a, U.Is a v → k a → Q v s) :
    wpAny (model prog w) A (eval (.Name x p) env) Q E s := by
  obtain ⟨m, B, hl⟩ := R
  have hk : ∀ y, env.kindOf y = X.sc.lookup y := fun y => by unfold Env.kindOf; rw [hE.ok.sc]
  unfold nameU at h
  split at h
  · rename_i hd hs
    have hd' : (x == ("__debug__" : Str)) = false := hd
    split at h
    · rename_i a ha
      obtain ⟨v, hv, hi⟩ := hl x a ha
      exact wpAny_Name (wpAny_loadName_local hE.ok.kind ((hk x).trans hs) (by rw [hE.ok.loc]; exact B.ns) hv (hq v a hi h)) hd'
    · exact h.elim
  · rename_i hd hs
    have hd' : (x == ("__debug__" : Str)) = false := hd
    split at h
    · rename_i v hv
      refine Name_function_global hE.ok.kind ((hk x).trans hs) ?_ hd'
      obtain ⟨mg, hg⟩ := B.sr.mg
      obtain ⟨mb, hb⟩ := B.sr.mb
      rcases (hG x v hv).1 with e | ⟨e1, e2⟩
      · exact loadGlobal_global (by rw [hE.ok.glo]; exact hg.keeps B.sr.keep) (ns_of B.sr.kin hg e) (hq v (.val v) rfl h)
      · exact loadGlobal_builtin (by rw [hE.ok.glo]; exact hg.keeps B.sr.keep) (ns_of B.sr.kin hg e1) (by rw [hE.ok.blt]; exact hb.keeps B.sr.keep) (ns_of B.sr.kin hb e2) (hq v (.val v) rfl h)
    · exact h.elim
  · rename_i hd hs
    have hd' : (x == ("__debug__" : Str)) = false := hd
    split at h
    · rename_i c hc
      obtain ⟨v, u, hv, hi, hk'⟩ := h
      exact wpAny_Name (wpAny_loadName_cell hE.ok.kind ((hk x).trans hs) (hE.cell x c hc) (hv.keeps B.sr.keep) (hq v u hi hk')) hd'
    · exact h.elim
  · rename_i hd hs
    have hd' : (x == ("__debug__" : Str)) = false := hd
    split at h
    · rename_i c hc hcd
      obtain ⟨v, u, hv, hi, hk'⟩ := h
      exact wpAny_Name (wpAny_loadName_free hE.ok.kind ((hk x).trans hs) (hE.cell x c hc) (hv.keeps B.sr.keep) (hq v u hi hk') hcd) hd'
    · exact h.elim
  · exact h.elim

theorem new2 {vs : List Value} {σ : S2} {k : U → S2 → Prop} {h h1 : Heap} {a : Addr} {m : Str → Option Value} (B : Bd K σ.g fb σ.ow L m h) (hloc : ∀ x u, lkS x σ.loc = some u → ∃ v, m x = some v ∧ U.Is u v) (hx : newU X vs σ k)
    (hk : ∀ b o, b ≠ L → h.get? b = some o → h1.get? b = some o) (ns : h1.Ns L m) (hn : h.get? a = none) (hl : PL h1 a vs) : ∃ u σ', Rep2 K fb L σ' h1 ∧ U.Is u (.ref a) ∧ k u σ' := by
  have B1 := B.grow hk ns
  have fr := B.fresh hn
  obtain ⟨hsz, h⟩ := hx
  split at h
  · refine ⟨.ref a, { σ with ow := (a, vs) :: σ.ow }, ⟨m, ⟨B1.sr, B1.fL, B1.ns, B1.gL, fun p hp => ?_, ?_⟩, hloc⟩, rfl, h a (B.g_none hn) fun q => fr (.tail _ (List.mem_append_right _ q))⟩
    · rcases List.mem_cons.mp hp with rfl | hp
      · exact ⟨hl, B.g_none hn, fun q => fr (q ▸ .head _), fun q => fr (.tail _ (List.mem_append_left _ q))⟩
      · exact B1.own p hp
    · exact List.nodup_cons.mpr ⟨fun q => fr (.tail _ (List.mem_append_right _ q)), B1.nd⟩
  · obtain ⟨o, e, r⟩ := hl.isList
    exact ⟨.ref a, { σ with g := hideAll h1 (hid fb σ.ow L) }, ⟨m, B1.max, hloc⟩, rfl, h _ a B1.le_max (B.g_none hn) ⟨o, hideAll_get _ e fr, r⟩⟩
end
end Mine
end
section
open PySem PySem.W PySem.Calls PyProof.Rows
namespace Mine

theorem strsAre_toks {vs : List Value} {ys : List Str} (h : StrsAre vs ys) : vs.length = ys.length := by
  induction h with
  | nil => rfl
  | cons _ _ _ ih => simp [ih]
noncomputable def allN (h : Heap) (L : Addr) : List (Addr × Obj) := (List.range h.objs.size).filterMap fun a => if a = L then none else (h.get? a).map (Prod.mk a)
theorem mem_allN {h : Heap} {L a : Addr} {o : Obj} : (a, o) ∈ allN h L ↔ h.get? a = some o ∧ a ≠ L := by
  unfold allN
  rw [List.mem_filterMap]
  constructor
  · rintro ⟨b, _, hb⟩
    split at hb
    · cases hb
    · rename_i hne
      cases e : h.get? b with
      | none => rw [e] at hb; cases hb
      | some o' => rw [e] at hb; cases hb; exact ⟨e, hne⟩
  · rintro ⟨e, hne⟩
    exact ⟨a, List.mem_range.mpr (Heap.lt_size e), by rw [if_neg hne, e]; rfl⟩
noncomputable def noH (h : Heap) : Heap := { h with objs := #[] }
theorem noH_get {h : Heap} {a : Addr} : (noH h).get? a = none := Heap.get?_none_of_le (Nat.zero_le _)
theorem fr_all {h : Heap} {L : Addr} {m : Str → Option Value} (ns : h.Ns L m) : Fr (noH h) L h m := ⟨ns, fun b o e => (by rw [noH_get] at e; cases e), Nat.zero_le _⟩
theorem news_all {h : Heap} {L : Addr} : News (noH h) L h (allN h L) := fun p hp => ⟨(mem_allN (a := p.1) (o := p.2).mp hp).1, (mem_allN (a := p.1) (o := p.2).mp hp).2, noH_get⟩
theorem of_all {h h' : Heap} {L : Addr} {x : List (Addr × Obj)} (N : News (noH h) L h' (x ++ allN h L)) : ∀ b o, b ≠ L → h.get? b = some o → h'.get? b = some o :=
  fun _ _ hb e => (N _ (List.mem_append_right _ (mem_allN.mpr ⟨e, hb⟩))).1
section
variable {prog : Program} {w : World} {K : Frag} {X : C2} {fb : List (Addr × Obj)} {L : Addr} {env : Env} {n : Nat} {A : Around} {s : Shared} {E : Value → Shared → Prop}

theorem append_pl {l : Addr} {vs : List Value} {x : Value} {Q : Value → Shared → Prop} (hl : PL s.heap l vs) (hz : vs.length + 1 ≤ sizeLine)
    (hQ : ∀ h', PL h' l (vs ++ [x]) → (∀ b o, b ≠ l → s.heap.get? b = some o → h'.get? b = some o) → Q .none { s with heap := h' }) : wpAny (model prog w) A (call (.builtin "list.append") [.ref l, x]) Q E s := by
  obtain ⟨c, ho⟩ := id hl
  refine wpAny_call_entry slot_list_append hl.isList.typeIs entry_list_append ?_ (args_list_append _ _)
  show wpAny _ _ (updateSeq l (·.push x) >>= fun _ => ret .none) _ _ s
  refine wpAny_bind (wpAny_updateSeq ho rfl (wpAny_pure ⟨.none, rfl, hQ _ ?_ fun b o hb e => (Heap.get?_update_other _ _ (Ne.symm hb)).trans e⟩) ?_ ?_)
  · have := Heap.get?_update_self (Obj.mapSeq (·.push x)) ho rfl
    refine ⟨c + 1, this.trans ?_⟩
    show some (lstO (vs.toArray.push x) _) = _
    simp
  · simp; omega
  · show (vs.toArray.push x).size ≤ _
    simp; omega
theorem set_pl {l : Addr} {vs : List Value} {t : Tok} {x : Value} {Q : Unit → Shared → Prop} (hl : PL s.heap l vs) (hne : vs ≠ []) (hz : vs.length ≤ sizeLine)
    (hQ : ∀ h', PL h' l (vs.dropLast ++ [x]) → (∀ b o, b ≠ l → s.heap.get? b = some o → h'.get? b = some o) → Q () { s with heap := h' }) : wpAny (model prog w) A (setItem (.ref l) (.int (-1) t) x) Q E s := by
  obtain ⟨c, ho⟩ := id hl
  have hp : 0 < vs.length := List.length_pos_iff.mpr hne
  refine ki_setBack ho (by decide) (by simp; omega) (by decide) (hQ _ ?_ fun b o hb e => (Heap.get?_update_other _ _ (Ne.symm hb)).trans e)
  have := Heap.get?_update_self (Obj.mapSeq (·.setIfInBounds (-1 + (vs.toArray.size : Int)).toNat x)) ho rfl
  obtain ⟨init, y, rfl⟩ : ∃ init y, vs = init ++ [y] := ⟨vs.dropLast, vs.getLast hne, (List.dropLast_concat_getLast hne).symm⟩
  refine ⟨c, this.trans ?_⟩
  have e : (-1 + ((init ++ [y]).toArray.size : Int)).toNat = init.length := by simp; omega
  have e2 : (init ++ [y]).toArray.setIfInBounds (-1 + ((init ++ [y]).toArray.size : Int)).toNat x = ((init ++ [y]).dropLast ++ [x]).toArray := by
    rw [e]; simp
  show some (lstO ((init ++ [y]).toArray.setIfInBounds (-1 + ((init ++ [y]).toArray.size : Int)).toNat x) _) = _
  rw [e2]
  exact congrArg some (congrArg (lstO _) (if_pos (by simp)))

theorem at_get {l : Addr} {vs : List Value} {i : Int} {t : Tok} {v : Value} {Q : Value → Shared → Prop} {value slice : Expr} {ops : List Value} (hl : s.heap.IsList l vs.toArray) (ha : at_ vs i = some v) (h1 : i < 2 ^ 63) (h2 : -(2 ^ 63) ≤ i) (hs : subscripted slice false (.ref l) (.int i t) = operate ops (getItem (.ref l) (.int i t))) (hq : Q v s) :
    wpAny (model prog w) A (subscriptTail value slice (.ref l) (.int i t)) Q E s := by
  refine tail_any hl.typeIs slot_list_getitem.lookup ?_ hs
  unfold at_ at ha
  split at ha
  · rename_i h0
    exact wpAny_getItem_list hl h0 h1 (by simpa using ha) hq
  · rename_i h0
    split at ha
    · rename_i h3
      exact wpAny_getItem_list_neg hl (by omega) (by simp; omega) h2 (by simpa using ha) hq
    · cases ha

theorem sub_slice {sl : Expr} {o : Value} {i : Int} {t : Tok} (hn : ∀ a b c p, sl ≠ .Slice a b c p) : ∃ ops, subscripted sl false o (.int i t) = operate ops (getItem o (.int i t)) := by
  cases sl <;> first | exact ⟨_, rfl⟩ | exact absurd rfl (hn _ _ _ _)

theorem es2 {ev : E2} {pos : Pos} (he : SE2 prog w K fb L env A ev.e) : ∀ (args : List Expr), noStar args = true → ∀ σ k, ev.es args σ k → ∀ s Q E, 1 ≤ s.toks → Rep2 K fb L σ s.heap →
    (∀ vs as σ' h' t', 1 ≤ t' → Rep2 K fb L σ' h' → IsAllU as vs → vs.length = args.length → as.length = args.length → k as σ' → Q vs { s with heap := h', toks := t' }) → wpAny (model prog w) A (spliced (backTo pos (starEach args env))) Q E s
  | [], _, σ, k, h, s, Q, E, h1, R, hq => args_nil (hq [] [] σ s.heap s.toks h1 R trivial rfl rfl h)
  | e :: r, hs, σ, k, h, s, Q, E, h1, R, hq => by
    obtain ⟨e1, e2⟩ := star_cons (env := env) hs
    refine args_cons ?_ e1
    refine he e σ _ h s _ E h1 R fun v a σ' h' t' ht R' hi hk => ?_
    refine es2 he r e2 σ' _ hk _ _ E ht R' fun vs as σ'' h'' t'' ht'' R'' hi'' hl hl' hk'' => ?_
    exact hq (v :: vs) (a :: as) σ'' h'' t'' ht'' R'' ⟨hi, hi''⟩ (by simp [hl]) (by simp [hl']) hk''

theorem Rep2.lst {σ : S2} {h : Heap} {a : Addr} {vs : List Value} (R : Rep2 K fb L σ h) (hl : LstIn σ a vs) : h.IsList a vs.toArray := by
  obtain ⟨m, B, _⟩ := R
  exact B.lst (l := σ.loc) hl
theorem Rep2.more {σ : S2} {h h' : Heap} (R : Rep2 K fb L σ h) (k : Le h h') : Rep2 K fb L σ h' := by
  obtain ⟨m, B, l⟩ := R
  exact ⟨m, B.more k, l⟩
theorem Rep2.kin {σ : S2} {h : Heap} (R : Rep2 K fb L σ h) : K.In h := by
  obtain ⟨m, B, l⟩ := R
  exact B.sr.kin.keeps B.sr.keep

theorem bin2 {op : Operator} {a b : U} {av bv : Value} {σ : S2} {k : U → S2 → Prop} {Q : Value → Shared → Prop} (R : Rep2 K fb L σ s.heap) (ha : a.Is av) (hb : b.Is bv) (h : binU X op a b σ k)
    (hq : ∀ v u σ' h' t', Rep2 K fb L σ' h' → U.Is u v → k u σ' → Q v { s with heap := h', toks := t' }) : wpAny (model prog w) A (binaryOp op av bv) Q E s := by
  unfold binU at h
  cases op
  case Add =>
    try dsimp only at h
    split at h
    · obtain ⟨_, t, rfl⟩ := ha
      obtain ⟨_, u, rfl⟩ := hb
      exact PyProof.Rows.add_str (fun t' tk => hq _ (.str _) σ s.heap tk R ⟨by rw [Str.length_append]; exact h.1, _, rfl⟩ h.2) h.1
    · obtain ⟨t, rfl⟩ := ha
      obtain ⟨u, rfl⟩ := hb
      exact PyProof.Rows.add_int (hq _ (.int _) σ s.heap _ R ⟨_, rfl⟩ h)
    · rename_i a b
      obtain rfl : av = .ref a := ha
      obtain rfl : bv = .ref b := hb
      obtain ⟨vs, us, h1, h2, h3⟩ := h
      have hz := h3.1
      rw [List.length_append] at hz
      obtain ⟨m, B, hl⟩ := id R
      refine add_lists (hsz := hz) (fr_all B.ns) news_all (R.lst h1) (R.lst h2) fun h' F' N' => ?_
      obtain ⟨u, σ', R', hi, hk⟩ := new2 B hl h3 (of_all (x := [_]) N') F'.ns (Heap.get?_none_of_le (Nat.le_refl _)) ⟨0, (N' _ (.head _)).1⟩
      exact hq _ u σ' h' _ R' hi hk
    · exact h.elim
  case Sub =>
    try dsimp only at h
    split at h
    · obtain ⟨t, rfl⟩ := ha
      obtain ⟨u, rfl⟩ := hb
      exact PyProof.Rows.sub_int (hq _ (.int _) σ s.heap _ R ⟨_, rfl⟩ h)
    · exact h.elim
  case Mod =>
    try dsimp only at h
    split at h
    · split at h
      · rename_i hz
        obtain ⟨t, rfl⟩ := ha
        obtain ⟨u, rfl⟩ := hb
        exact PyProof.Rows.mod_int (of_decide_eq_false hz) (hq _ (.int _) σ s.heap _ R ⟨_, rfl⟩ h)
      · exact h.elim
    · exact h.elim
  all_goals exact False.elim h

theorem cmp2 {op : CmpOp} {a b : U} {av bv : Value} {σ : S2} {k : Bool → Prop} {Q : Value → Shared → Prop} (hEq : ∀ a b g k, X.eq a b g k → ∀ s : Shared, Le g s.heap → ∀ Q E, (∀ r t', k r → Q (.bool r) { s with toks := t' }) → wpAny (model prog w) A (compareOp .Eq (.ref a) (.ref b)) Q E s)
    (hNe : ∀ a b g k, X.eq a b g k → ∀ s : Shared, Le g s.heap → ∀ Q E, (∀ r t', k r → Q (.bool (!r)) { s with toks := t' }) → wpAny (model prog w) A (compareOp .NotEq (.ref a) (.ref b)) Q E s)
    (R : Rep2 K fb L σ s.heap) (ha : a.Is av) (hb : b.Is bv) (h : cmpU X op a b σ k) (hq : ∀ b t', k b → Q (.bool b) { s with toks := t' }) : wpAny (model prog w) A (compareOp op av bv) Q E s := by
  have le : Le σ.g s.heap := by obtain ⟨m, B, _⟩ := R; exact B.sr.keep
  unfold cmpU at h
  cases op
  case Is =>
    try dsimp only at h
    split at h
    · obtain rfl : bv = .none := hb
      obtain rfl : av = .none := ha
      exact wpAny_is_plain rfl (hq true s.toks h)
    · rename_i r
      obtain rfl : bv = .none := hb
      obtain rfl : av = .ref r := ha
      exact wpAny_is_plain rfl (hq false s.toks h)
    · rename_i x y
      obtain rfl : bv = .type x := hb
      obtain rfl : av = .type y := ha
      refine wpAny_is_plain rfl ?_
      have : (Value.type y == Value.type x) = decide (y = x) := by
        by_cases e : y = x
        · subst e; simp
        · simp [e]
      rw [this]; exact hq _ s.toks h
    · exact h.elim
  case Eq =>
    try dsimp only at h
    split at h
    · rename_i i j
      obtain ⟨t, rfl⟩ := ha
      obtain ⟨u, rfl⟩ := hb
      refine PyProof.Rows.eq_int (hq _ s.toks ?_)
      by_cases e : i = j
      · rw [beq_iff_eq.mpr e]; exact h.1 e
      · rw [beq_eq_false_iff_ne.mpr e]; exact h.2 e
    · rename_i a b
      obtain rfl : av = .ref a := ha
      obtain rfl : bv = .ref b := hb
      exact hEq a b σ.g _ h s le Q E fun r t' hk => hq r t' hk
    · exact h.elim
  case NotEq =>
    try dsimp only at h
    split at h
    · rename_i x y
      obtain ⟨_, t, rfl⟩ := ha
      obtain ⟨_, u, rfl⟩ := hb
      refine PyProof.Rows.ne_str (hq _ s.toks ?_)
      by_cases e : x = y
      · rw [show (x != y) = false by simp [e]]; exact h.1 e
      · rw [show (x != y) = true by simp [e]]; exact h.2 e
    · rename_i i j
      obtain ⟨t, rfl⟩ := ha
      obtain ⟨u, rfl⟩ := hb
      refine PyProof.Rows.ne_int (hq _ s.toks ?_)
      by_cases e : i = j
      · rw [show (i != j) = false by simp [e]]; exact h.1 e
      · rw [show (i != j) = true by simp [e]]; exact h.2 e
    · rename_i a b
      obtain rfl : av = .ref a := ha
      obtain rfl : bv = .ref b := hb
      exact hNe a b σ.g _ h s le Q E fun r t' hk => hq _ t' hk
    · exact h.elim
  case In =>
    try dsimp only at h
    split at h
    · rename_i y x
      obtain ⟨_, t, rfl⟩ := ha
      obtain ⟨_, u, rfl⟩ := hb
      refine PyProof.Rows.in_str (hq _ s.toks ?_)
      cases e : (Builtin.Str.occurrences x y 0 x.length 1).isEmpty with
      | true => exact h.2 e
      | false => exact h.1 e
    · exact h.elim
  case Gt =>
    try dsimp only at h
    split at h
    · rename_i i j
      obtain ⟨t, rfl⟩ := ha
      obtain ⟨u, rfl⟩ := hb
      refine PyProof.Rows.gt_int (hq _ s.toks ?_)
      by_cases e : j < i
      · rw [decide_eq_true e]; exact h.1 e
      · rw [decide_eq_false e]; exact h.2 e
    · exact h.elim
  case Lt =>
    try dsimp only at h
    split at h
    · rename_i i j
      obtain ⟨t, rfl⟩ := ha
      obtain ⟨u, rfl⟩ := hb
      refine PyProof.Rows.lt_int (hq _ s.toks ?_)
      by_cases e : i < j
      · rw [decide_eq_true e]; exact h.1 e
      · rw [decide_eq_false e]; exact h.2 e
    · exact h.elim
  all_goals exact False.elim h

theorem truth2 {a : U} {av : Value} {Q : Bool → Shared → Prop} {k : Bool → Prop} (ha : a.Is av) (h : truthU a k) (hq : ∀ b t', k b → Q b { s with toks := t' }) : wpAny (model prog w) A (truthy av) Q E s := by
  unfold truthU at h
  split at h
  · obtain rfl : av = .none := ha
    exact truthy_none (hq false s.toks h)
  · rename_i b
    obtain rfl : av = .bool b := ha
    exact wpAny_truthy_bool (hq b s.toks h)
  · rename_i x
    obtain ⟨hx, t, rfl⟩ := ha
    refine PySem.P.truthy_str ?_ (hq _ _ ?_)
    · have : x.length ≤ 2 ^ 24 := hx
      omega
    · by_cases e : x.length = 0
      · have : ((x.length : Int) != 0) = false := by simp [e]
        rw [this]; exact h.2 e
      · have : ((x.length : Int) != 0) = true := by simp; omega
        rw [this]; exact h.1 e
  · exact h.elim

theorem oneU_of {p : U → Prop} {as : List U} {vs : List Value} (h : oneU p as) (hi : IsAllU as vs) : ∃ u v, as = [u] ∧ vs = [v] ∧ u.Is v ∧ p u := by
  cases as with
  | nil => exact False.elim h
  | cons u r =>
    cases r with
    | cons _ _ => exact False.elim h
    | nil =>
      cases vs with
      | nil => exact hi.elim
      | cons v vs => cases vs with
        | nil => exact ⟨u, v, rfl, rfl, hi.1, h⟩
        | cons _ _ => exact hi.2.elim
theorem atU_str {f : Str → Prop} {u : U} (h : atU False (fun _ => False) f (fun _ => False) u) : ∃ x, u = .str x ∧ f x := by
  cases u <;> first | exact ⟨_, rfl, h⟩ | exact False.elim h
theorem atU_ref {f : Addr → Prop} {u : U} (h : atU False (fun _ => False) (fun _ => False) f u) : ∃ x, u = .ref x ∧ f x := by
  cases u <;> first | exact ⟨_, rfl, h⟩ | exact False.elim h
theorem atU_two {f : Str → Prop} {g : Addr → Prop} {u : U} (h : atU False (fun _ => False) f g u) : (∃ x, u = .str x ∧ f x) ∨ ∃ x, u = .ref x ∧ g x := by
  cases u <;> first | exact .inl ⟨_, rfl, h⟩ | exact .inr ⟨_, rfl, h⟩ | exact False.elim h
theorem blt2 {id : String} {as : List U} {vs : List Value} {σ : S2} {Q : Value → Shared → Prop} {k : U → Prop} (hA : okA n A) (R : Rep2 K fb L σ s.heap) (hi : IsAllU as vs) (h : bltU id as σ k) (hq : ∀ v a h' t', Le s.heap h' → U.Is a v → k a → Q v { s with heap := h', toks := t' }) : wpAny (model prog w) A (call (.builtin id) vs) Q E s := by
  unfold bltU at h
  split at h
  · rename_i hd
    obtain rfl : id = "len" := of_decide_eq_true hd
    obtain ⟨_, v, rfl, rfl, hv, h⟩ := oneU_of h hi
    obtain ⟨a, rfl, us, h1, h2, h3⟩ := atU_ref h
    obtain rfl : v = .ref a := hv
    have hl := R.lst h1
    refine PyProof.Rows.len_list hl ?_ (hq _ (.int us.length) s.heap _ Le.rfl ⟨s.toks + 1, by simp⟩ h3)
    rw [List.size_toArray]
    have : us.length ≤ 2 ^ 24 := h2
    omega
  · exact h.elim

theorem typ2 {T : String} {as : List U} {vs : List Value} {σ : S2} {Q : Value → Shared → Prop} {k : U → Prop} (R : Rep2 K fb L σ s.heap) (hi : IsAllU as vs) (h : typU T as σ k) (hq : ∀ v a, U.Is a v → k a → Q v s) : wpAny (model prog w) A (call (.type T) vs) Q E s := by
  unfold typU at h
  split at h
  · rename_i hd
    obtain rfl : T = "type" := of_decide_eq_true hd
    obtain ⟨_, v, rfl, rfl, hv, h⟩ := oneU_of h hi
    rcases atU_two h with ⟨x, rfl, h⟩ | ⟨a, rfl, us, h1, h2⟩
    · obtain ⟨_, t, rfl⟩ := hv
      exact call_type_of (typeIs_str s _ t) (by decide) (hq _ (.val (.type "str")) rfl h)
    · obtain rfl : v = .ref a := hv
      exact call_type_of (R.lst h1).typeIs (by decide) (hq _ (.val (.type "list")) rfl h2)
  · split at h
    · rename_i hd
      obtain rfl : T = "str" := of_decide_eq_true hd
      obtain ⟨_, v, rfl, rfl, hv, h⟩ := oneU_of h hi
      obtain ⟨x, rfl, h⟩ := atU_str h
      obtain ⟨hx, t, rfl⟩ := hv
      exact PySem.P.str_of_str (hq _ (.str x) ⟨hx, t, rfl⟩ h)
    · exact h.elim
end
end Mine
end
section
open PySem PySem.W PySem.Calls PyProof.Rows
namespace Mine
section
variable {prog : Program} {w : World} {K : Frag} {X : C2} {fb : List (Addr × Obj)} {L : Addr} {env : Env} {n : Nat} {A : Around} {s : Shared} {E : Value → Shared → Prop}

theorem isAllU_one {u : U} {vs : List Value} (hi : IsAllU [u] vs) : ∃ v, vs = [v] ∧ u.Is v := by
  cases vs with
  | nil => exact hi.elim
  | cons v vs => cases vs with
    | nil => exact ⟨v, rfl, hi.1⟩
    | cons _ _ => exact hi.2.elim

theorem Rep2.turn {σ : S2} {h h' : Heap} {a : Addr} {pre post : Ow} {vs us : List Value} (R : Rep2 K fb L σ h) (e : σ.ow = pre ++ (a, vs) :: post) (hn : PL h' a us) (hk : ∀ b o, b ≠ a → h.get? b = some o → h'.get? b = some o) : Rep2 K fb L { σ with ow := pre ++ (a, us) :: post } h' := by
  obtain ⟨m, B, hl⟩ := R
  have hm : (a, vs) ∈ σ.ow := by rw [e]; simp
  obtain ⟨_, hg, hL, hf⟩ := B.own _ hm
  have hne : ∀ b o, σ.g.get? b = some o → b ≠ a := fun b o q z => by rw [z, hg] at q; cases q
  have nd := B.nd
  rw [e] at nd
  have mapEq : (pre ++ (a, us) :: post).map (·.1) = (pre ++ (a, vs) :: post).map (·.1) := by simp
  refine ⟨m, ⟨⟨B.sr.kin, B.sr.nl, B.sr.mg, B.sr.mb, fun b o q => hk b o (hne b o q) (B.sr.keep b o q), fun p hp => ?_⟩, B.fL, ?_, B.gL, fun p hp => ?_, ?_⟩, hl⟩
  · obtain ⟨h1, h2, sl, h3⟩ := B.sr.fb p hp
    exact ⟨h1, h2, sl, hk _ _ (fun z => hf (by rw [← z]; exact List.mem_map_of_mem hp)) h3⟩
  · obtain ⟨o, es, ep, e1, r⟩ := B.ns
    exact ⟨o, es, ep, hk _ _ (Ne.symm hL) e1, r⟩
  · rcases List.mem_append.mp hp with hp | hp
    · have hpo : p ∈ σ.ow := by rw [e]; exact List.mem_append_left _ hp
      have hpa : p.1 ≠ a := fun z => by
        rw [List.map_append, List.nodup_append] at nd
        exact nd.2.2 p.1 (List.mem_map_of_mem hp) a (by simp) z
      obtain ⟨h1, r⟩ := B.own p hpo
      exact ⟨h1.keeps fun o q => hk _ o hpa q, r⟩
    · rcases List.mem_cons.mp hp with rfl | hp
      · exact ⟨hn, hg, hL, hf⟩
      · have hpo : p ∈ σ.ow := by rw [e]; exact List.mem_append_right _ (.tail _ hp)
        have hpa : p.1 ≠ a := fun z => by
          rw [List.map_append, List.nodup_append] at nd
          have := nd.2.1
          rw [List.map_cons, List.nodup_cons] at this
          exact this.1 (by have q := List.mem_map_of_mem (f := (·.1)) hp; rw [z] at q; exact q)
        obtain ⟨h1, r⟩ := B.own p hpo
        exact ⟨h1.keeps fun o q => hk _ o hpa q, r⟩
  · show ((pre ++ (a, us) :: post).map (·.1)).Nodup
    rw [mapEq]; exact nd

theorem constS_ev {p : Expr} {y : Str} {Q : Value → Shared → Prop} (h : constS p = some y) (hq : Q (.str y s.toks) { s with toks := s.toks + 1 }) : wpAny (model prog w) A (eval p env) Q E s ∧ noStar [p] = true := by
  unfold constS at h
  split at h
  · split at h
    · cases h
      exact ⟨Constant_str hq, rfl⟩
    · cases h
  · cases h
theorem constS_noStar {p q : Expr} {y z : Str} (h : constS p = some y) (h' : constS q = some z) : noStar [p, q] = true ∧ noStar [q] = true := by
  unfold constS at h h'
  split at h
  · split at h'
    · exact ⟨rfl, rfl⟩
    · cases h'
  · cases h

theorem fits_rep {x y z : Str} (hx : x.length ≤ sizeLine) (hb : x.length + (x.length + 1) * z.length ≤ 16777216) : (Txt.replace x y z).length ≤ sizeLine := by
  unfold Txt.replace
  split
  · exact hx
  · exact fits_replaced y hb

theorem rep2 {x y z : Str} {t : Tok} {p q : Expr} {pos : Pos} {pl : Sem Bool} {Q : Value → Shared → Prop} (hp : constS p = some y) (hq' : constS q = some z) (hyz : (y == z) = false) (h1 : 1 ≤ s.toks) (hb : x.length + (x.length + 1) * z.length ≤ 16777216)
    (hq : ∀ t' k, Q (.str (Txt.replace x y z) t') { s with toks := k }) :
    wpAny (model prog w) A (getMethod (.str x t) "replace" pl) (fun fx s₂ => wpAny (model prog w) A (callWith pos fx.1 fx.2 (backTo pos (starEach [p, q] env)) []) Q E s₂) E s := by
  obtain ⟨n1, n2⟩ := constS_noStar hp hq'
  obtain ⟨e1, e2⟩ := star_cons (env := env) n1
  obtain ⟨e3, e4⟩ := star_cons (env := env) n2
  with_reducible refine GM.replace ?_
  show wpAny _ _ (callWith pos (.builtin "str.replace") [.str x t] (backTo pos (starEach (p :: [q]) env)) []) _ _ _
  refine callWith_method1 ?_ e1 (star_any n2)
  refine args_cons (constS_ev hp ?_).1 e1
  refine args_cons (constS_ev hq' ?_).1 e3
  refine args_nil ?_
  show wpAny _ _ (call (.builtin "str.replace") [.str x t, .str y s.toks, .str z (s.toks + 1)]) _ _ _
  exact SC.replace (by show s.toks ≠ 0; omega) (by show s.toks + 1 ≠ 0; omega) (by show s.toks ≠ s.toks + 1; omega) hyz hb hq

theorem join2 {x : Str} {t : Tok} {u : U} {uv : Value} {σ : S2} {k : U → S2 → Prop} {Q : Value → Shared → Prop} (R : Rep2 K fb L σ s.heap) (hu : u.Is uv) (h : joinU x u σ k)
    (hq : ∀ v u σ' h' t', Rep2 K fb L σ' h' → U.Is u v → k u σ' → Q v { s with heap := h', toks := t' }) : wpAny (model prog w) A (call (.builtin "str.join") [.str x t, uv]) Q E s := by
  unfold joinU at h
  split at h
  · rename_i a
    obtain rfl : uv = .ref a := hu
    obtain ⟨vs, ys, h1, h2, h3, h4⟩ := h
    exact join_list (R.lst h1) (by simpa using h2) h3 fun t' k' => hq _ (.str _) σ s.heap k' R ⟨joinOk_length (joinOk_of h3), _, rfl⟩ h4
  · exact h.elim

theorem app2 {a : Addr} {u : U} {uv : Value} {σ : S2} {k : U → S2 → Prop} {Q : Value → Shared → Prop} (R : Rep2 K fb L σ s.heap) (hu : u.Is uv) (h : appU a u σ k)
    (hq : ∀ v u σ' h' t', Rep2 K fb L σ' h' → U.Is u v → k u σ' → Q v { s with heap := h', toks := t' }) : wpAny (model prog w) A (call (.builtin "list.append") [.ref a, uv]) Q E s := by
  obtain ⟨pre, vs, post, e, hz, hk⟩ := h
  have hl : PL s.heap a vs := by
    obtain ⟨m, B, _⟩ := R
    exact (B.own (a, vs) (by rw [e]; simp)).1
  exact append_pl hl hz fun h' hl' ho => hq .none .none _ h' s.toks (R.turn e hl' ho) rfl (hk uv hu)

theorem sub2 {e v sl : Expr} {a i : U} {av iv : Value} {σ : S2} {k : U → S2 → Prop} {Q : Value → Shared → Prop} (hn : ∀ a b c p, sl ≠ .Slice a b c p) (R : Rep2 K fb L σ s.heap) (ha : a.Is av) (hi : i.Is iv) (h : subU X e a i σ k)
    (hq : ∀ v u σ' h' t', Rep2 K fb L σ' h' → U.Is u v → k u σ' → Q v { s with heap := h', toks := t' }) : wpAny (model prog w) A (subscriptTail v sl av iv) Q E s := by
  unfold subU at h
  split at h
  · rename_i a i
    obtain rfl : av = .ref a := ha
    obtain ⟨t, rfl⟩ := hi
    obtain ⟨ops, hs⟩ := sub_slice (o := .ref a) (i := i) (t := t) hn
    split at h
    · split at h
      · obtain ⟨vs, y, ty, h1, h2, h3, h4, h5, h6⟩ := h
        exact at_get (R.lst h1) h2 h4 h5 hs (hq _ (.str y) σ s.heap s.toks R ⟨h3, _, rfl⟩ h6)
      · obtain ⟨vs, b, h1, h2, h4, h5, h6⟩ := h
        exact at_get (R.lst h1) h2 h4 h5 hs (hq _ (.ref b) σ s.heap s.toks R rfl h6)
      · exact h.elim
    · exact h.elim
  · rename_i x i
    obtain ⟨hx, tx, rfl⟩ := ha
    obtain ⟨t, rfl⟩ := hi
    obtain ⟨ops, hs⟩ := sub_slice (o := .str x tx) (i := i) (t := t) hn
    obtain ⟨c, h1, h2, h3, h4⟩ := h
    refine tail_any (typeIs_str s x tx) slot_str_getitem.lookup (PyProof.Rows.getItem_str ?_ h1 (hq _ (.str ⟨#[c]⟩) σ s.heap _ R ⟨by show 1 ≤ sizeLine; decide, _, rfl⟩ h4)) hs
    rw [Bool.or_eq_false_iff]
    exact ⟨decide_eq_false (by omega), decide_eq_false (by omega)⟩
  · exact h.elim

theorem pick_nat : ∀ {us : List U} {m j : Nat} {k : U → Prop}, pickU us m ((m + j : Nat) : Int) k → j < us.length → ∃ u, us[j]? = some u ∧ k u
  | [], _, j, _, _, h => absurd h (Nat.not_lt_zero j)
  | u :: _, _, 0, _, ⟨h, _⟩, _ => ⟨u, rfl, h rfl⟩
  | _ :: r, m, j + 1, _, ⟨_, h⟩, hl => by
    have e : m + (j + 1) = m + 1 + j := by rw [Nat.add_assoc, Nat.add_comm 1 j]
    rw [e] at h
    exact pick_nat (us := r) (m := m + 1) (j := j) h (Nat.lt_of_succ_lt_succ hl)
theorem pick_get {us : List U} {i : Int} {k : U → Prop} (h : pickU us 0 i k) (h1 : 0 ≤ i) (h2 : i < (us.length : Nat)) : ∃ u, us[i.toNat]? = some u ∧ k u := by
  obtain ⟨j, rfl⟩ := Int.eq_ofNat_of_zero_le h1
  exact pick_nat (m := 0) (by rw [Nat.zero_add]; exact h) (Int.ofNat_lt.mp h2)
theorem isAllU_get : ∀ {us : List U} {vs : List Value} {j : Nat} {u : U}, IsAllU us vs → us[j]? = some u → ∃ v, vs[j]? = some v ∧ u.Is v
  | [], _, j, u, _, e => by simp at e
  | a :: r, [], j, u, h, _ => h.elim
  | a :: r, v :: t, 0, u, h, e => by simp at e; subst e; exact ⟨v, rfl, h.1⟩
  | a :: r, v :: t, j + 1, u, h, e => by simpa using isAllU_get h.2 (by simpa using e)

theorem call2 {f : Addr} {as : List U} {vals : List Value} {σ : S2} {k : U → S2 → Prop} {Q : Value → Shared → Prop} (hC : SndC2 prog w K n X.c) (hA : okA n A) (hF : FrOk A L fb) (h1 : 1 ≤ s.toks) (R : Rep2 K fb L σ s.heap) (hi : IsAllU as vals) (h : callU X f as σ k)
    (hq : ∀ v u σ' h' t', Rep2 K fb L σ' h' → U.Is u v → k u σ' → Q v { s with heap := h', toks := t' }) : wpAny (model prog w) A (call (.ref f) vals) Q E s := by
  obtain ⟨m, B, hl⟩ := R
  obtain ⟨oL, es, ep, hoL, hdL, hkL, hfL⟩ := B.ns
  have nfL : ∀ vs, oL.data ≠ .fields vs := fun vs q => by rw [hdL] at q; cases q
  -- the callee's base: all but the frames
  let hi' : List Addr := L :: fb.map (·.1)
  let gc := hideAll s.heap hi'
  have hid' : ∀ a ∈ hi', σ.g.get? a = none := by
    intro a ha
    rcases List.mem_cons.mp ha with rfl | ha
    · exact B.gL
    · obtain ⟨p, hp, rfl⟩ := List.mem_map.mp ha; exact (B.sr.fb p hp).1
  have le : Le σ.g gc := fun b o e => hideAll_get _ (B.sr.keep b o e) (not_mem_of_none hid' e)
  have S : Sr K gc ((L, oL) :: fb) s.heap := by
    refine ⟨B.sr.kin.keeps le, B.sr.nl.keeps le, let ⟨a, b⟩ := B.sr.mg; ⟨a, b.keeps le⟩, let ⟨a, b⟩ := B.sr.mb; ⟨a, b.keeps le⟩, fun b o e => of_hideAll _ e, fun p hp => ?_⟩
    rcases List.mem_cons.mp hp with rfl | hp
    · exact ⟨hideAll_none _ (.head _), nfL, oL.slots, hoL⟩
    · exact ⟨hideAll_none _ (.tail _ (List.mem_map_of_mem hp)), (B.sr.fb p hp).2⟩
  have FI : FrIn A ((L, oL) :: fb) := by
    obtain ⟨frs, h2, h3⟩ := hF
    refine ⟨frs, h2, fun e he => ?_⟩
    obtain ⟨h4, a, h5, h6⟩ := h3 e he
    refine ⟨h4, a, h5, ?_⟩
    rcases h6 with rfl | h6
    · exact .head _
    · exact .tail _ h6
  -- what comes back
  have back : ∀ g' h', Le gc g' → Sr K g' ((L, oL) :: fb) h' → Bd K σ.g fb σ.ow L m h' ∧ (σ.ow = [] → Bd K g' fb [] L m h') := by
    intro g' h' le' S'
    obtain ⟨gL', _, sl, hL'⟩ := S'.fb _ (.head _)
    have ns' : h'.Ns L m := ⟨_, es, ep, hL', hdL, hkL, hfL⟩
    refine ⟨⟨⟨B.sr.kin, B.sr.nl, B.sr.mg, B.sr.mb, (le.trans le').trans S'.keep, fun p hp => ⟨(B.sr.fb p hp).1, (B.sr.fb p hp).2.1, (S'.fb p (.tail _ hp)).2.2⟩⟩, B.fL, ns', B.gL, fun p hp => ?_, B.nd⟩, fun _ => ⟨⟨S'.kin, S'.nl, S'.mg, S'.mb, S'.keep, fun p hp => S'.fb p (.tail _ hp)⟩, B.fL, ns', gL', fun p hp => (nomatch hp), List.nodup_nil⟩⟩
    obtain ⟨a1, a2, a3, a4⟩ := B.own p hp
    refine ⟨a1.keeps fun o e => S'.keep _ _ (le' _ _ (hideAll_get _ e fun q => ?_)), a2, a3, a4⟩
    rcases List.mem_cons.mp q with q | q
    · exact a3 q
    · exact a4 q
  unfold callU at h
  split at h
  · have c2 := hC f as σ.g _ h
    refine wpAny_call (c2 gc le vals hi A s _ _ hA FI h1 S fun g' v h' t' ht le' S' hv => ?_)
    obtain ⟨u, hu, hk⟩ := hv
    exact hq v u σ h' t' ⟨m, (back g' h' le' S').1, hl⟩ hu hk
  · obtain ⟨ho, h⟩ := h
    have c2 := hC f as σ.g _ h
    refine wpAny_call (c2 gc le vals hi A s _ _ hA FI h1 S fun g' v h' t' ht le' S' hv => ?_)
    obtain ⟨u, hu, hk⟩ := hv
    have B' := (back g' h' le' S').2 ho
    exact hq v u { σ with g := g' } h' t' ⟨m, (by show Bd K g' fb σ.ow L m h'; rw [ho]; exact B'), hl⟩ hu hk
end
end Mine
end
section
open PySem PySem.W PySem.Calls PyProof.Rows
namespace Mine
structure Snd2 (prog : Program) (w : World) (K : Frag) (X : C2) (fb : List (Addr × Obj)) (L : Addr) (env : Env) (n : Nat) (A : Around) : Prop where
  gl : ∀ x v, X.gl x = some v → GlobOk K x v
  kp : ∀ f, X.kp f = true → keepB K (.ref f) = true
  en : Env2 env X L
  ok : okA n A
  fr : FrOk A L fb
  c : SndC2 prog w K n X.c
  lc : ∀ e σ k, X.lc e σ k → ∀ s Q E, 1 ≤ s.toks → Rep2 K fb L σ s.heap → (∀ v u σ' h' t', 1 ≤ t' → Rep2 K fb L σ' h' → U.Is u v → k u σ' → Q v { s with heap := h', toks := t' }) → wpAny (model prog w) A (eval e env) Q E s
  st : ∀ e σ k, X.fr e σ k → ∀ s Q E, 1 ≤ s.toks → Rep2 K fb L σ s.heap → (∀ f b σ' h' t', 1 ≤ t' → Rep2 K fb L σ' h' → FlU b f → k b σ' → Q f { s with heap := h', toks := t' }) → wpAny (model prog w) A (exec e env) Q E s
  eq : ∀ a b g k, X.eq a b g k → ∀ s : Shared, Le g s.heap → ∀ Q E, (∀ r t', k r → Q (.bool r) { s with toks := t' }) → wpAny (model prog w) A (compareOp .Eq (.ref a) (.ref b)) Q E s
  ne : ∀ a b g k, X.eq a b g k → ∀ s : Shared, Le g s.heap → ∀ Q E, (∀ r t', k r → Q (.bool (!r)) { s with toks := t' }) → wpAny (model prog w) A (compareOp .NotEq (.ref a) (.ref b)) Q E s

section
variable {prog : Program} {w : World} {K : Frag} {X : C2} {fb : List (Addr × Obj)} {L : Addr} {env : Env} {n : Nat} {A : Around} {s : Shared} {E : Value → Shared → Prop}

theorem parts2 {ev : E2} (he : SE2 prog w K fb L env A ev.e) : ∀ (es : List Expr) (acc : Str) σ k, acc.length ≤ sizeLine → ev.parts es acc σ k → ∀ s Q E, 1 ≤ s.toks → Rep2 K fb L σ s.heap →
    (∀ v u σ' h' t', Rep2 K fb L σ' h' → U.Is u v → k u σ' → Q v { s with heap := h', toks := t' }) → wpAny (model prog w) A (joinParts acc (evalEach es env)) Q E s
  | [], acc, σ, k, ha, h, s, Q, E, h1, R, hq => joinParts_nil (hq _ (.str acc) σ s.heap _ R ⟨ha, _, rfl⟩ h) ha
  | e :: r, acc, σ, k, ha, h, s, Q, E, h1, R, hq => by
    have step : ∀ (t : Sem Value), evalEach (e :: r) env = t :: evalEach r env → wpAny (model prog w) A t (fun v s₁ => match v with | .str y _ => (acc ++ y).length ≤ sizeLine ∧ wpAny (model prog w) A (joinParts (acc ++ y) (evalEach r env)) Q E s₁ | _ => False) E s → wpAny (model prog w) A (joinParts acc (evalEach (e :: r) env)) Q E s := by
      intro t ht hh
      rw [ht]
      exact joinParts_cons hh
    unfold E2.parts at h
    split at h
    · rename_i v p
      refine step (eval (.FormattedValue v (-1) none p) env) rfl ?_
      refine FormattedValue_plain (he v σ _ h s _ E h1 R fun v' u σ' h' t' ht R' hi hk => ?_)
      split at hk
      · rename_i y
        obtain ⟨hy, ty, rfl⟩ := hi
        refine wpAny_with_toks (n := 1) ht (formatField_str (fun t'' tk htk => ?_) hy)
        have hz : (acc ++ y).length ≤ sizeLine := by rw [Str.length_append]; exact hk.1
        exact ⟨hz, parts2 he r (acc ++ y) σ' k hz hk.2 _ Q E htk R' hq⟩
      · exact hk.elim
    · rename_i c u p
      refine step (eval (.Constant c u p) env) rfl ?_
      refine he _ σ _ h s _ E h1 R fun v' u σ' h' t' ht R' hi hk => ?_
      split at hk
      · rename_i y
        obtain ⟨hy, ty, rfl⟩ := hi
        have hz : (acc ++ y).length ≤ sizeLine := by rw [Str.length_append]; exact hk.1
        exact ⟨hz, parts2 he r (acc ++ y) σ' k hz hk.2 _ Q E ht R' hq⟩
      · exact hk.elim
    · exact h.elim

theorem base_ok {o : Expr} {a : Str} {t : Sem Value} (h : noC0 o = true) : attributeBase o a env t = t := by
  cases o
  case Call f args kws p =>
    cases args with
    | nil =>
      cases kws with
      | nil => cases h
      | cons _ _ => cases f <;> rfl
    | cons _ _ => cases f <;> rfl
  all_goals rfl

theorem int2 (H : Snd2 prog w K X fb L env n A) {l : Ls} {g : Heap} {ow : Ow} : ∀ (d : Nat) (e : Expr) (k : Int → Prop), intU X d e l k → ∀ (s : Shared) (Q : Value → Shared → Prop) (E : Value → Shared → Prop), Rep2 K fb L ⟨l, g, ow⟩ s.heap →
    (∀ i t h' t', Le s.heap h' → k i → Q (.int i t) { s with heap := h', toks := t' }) → wpAny (model prog w) A (eval e env) Q E s
  | 0, _, _, h, _, _, _, _, _ => h.elim
  | d + 1, e, k, h, s, Q, E, R, hq => by
    cases e
    case Constant c _ _ =>
      have h : intC c k := h
      unfold intC at h
      split at h
      · exact fun _ _ _ => hq _ s.toks s.heap _ Le.rfl h
      · exact h.elim
    case Name x p =>
      have h : intN X x l k := h
      unfold intN at h
      split at h
      · exact h.elim
      · rename_i hd
        split at h
        · rename_i hs
          split at h
          · rename_i i hi
            have hn : nameU X x ⟨l, g, ow⟩ (fun a => a = .int i) := by
              unfold nameU
              rw [hd, hs]
              simp only [hi]
            refine name2 H.gl H.en R hn fun v a ha e => ?_
            subst e
            obtain ⟨t, rfl⟩ := ha
            exact hq i t s.heap s.toks Le.rfl h
          · exact h.elim
        · exact h.elim
    case BinOp a op b _ =>
      have h : intU X d a l fun i => intU X d b l fun j => intOp op i j k := h
      refine wpAny_BinOp (int2 H d _ _ h s _ E R fun i t h1 t1 le1 hk1 => ?_)
      refine int2 H d _ _ hk1 _ _ E (R.more le1) fun j u h2 t2 le2 hk2 => ?_
      unfold intOp at hk2
      split at hk2
      · exact PyProof.Rows.add_int (hq _ _ h2 _ (le1.trans le2) hk2)
      · exact PyProof.Rows.sub_int (hq _ _ h2 _ (le1.trans le2) hk2)
      · split at hk2
        · rename_i hz
          exact PyProof.Rows.mod_int (of_decide_eq_false hz) (hq _ _ h2 _ (le1.trans le2) hk2)
        · exact hk2.elim
      · exact hk2.elim
    all_goals exact h.elim

theorem stepE2_snd {ev : E2} (H : Snd2 prog w K X fb L env n A) (he : SE2 prog w K fb L env A ev.e) (ht : ST2 prog w K fb L env A ev.t) : SE2 prog w K fb L env A (stepE2 X ev) := by
  intro e σ k h s Q0 E0 h1 R hq0
  refine wpAny_mono (wpAny_toks_of (n := 1) h1 (Q := fun v s' => 1 ≤ s'.toks → Q0 v s') (E := E0) ?_) (fun _ _ x => x.2 x.1) (fun _ _ x => x.2)
  have hq : ∀ v u σ' h' t', Rep2 K fb L σ' h' → U.Is u v → k u σ' → (fun v (s' : Shared) => 1 ≤ s'.toks → Q0 v s') v { s with heap := h', toks := t' } := fun v u σ' h' t' R' hi hk ht => hq0 v u σ' h' t' ht R' hi hk
  generalize (fun v (s' : Shared) => 1 ≤ s'.toks → Q0 v s') = Q at hq
  clear hq0
  unfold stepE2 at h
  cases e
  case Constant =>
    try dsimp only at h
    exact const2 h fun v a t' hi hk => hq v a σ s.heap t' R hi hk
  case Name =>
    try dsimp only at h
    exact name2 H.gl H.en R h fun v a hi hk => hq v a σ s.heap s.toks R hi hk
  case BinOp =>
    try dsimp only at h
    refine wpAny_BinOp (he _ σ _ h s _ E0 h1 R fun v a σ1 h1 t1 ht1 R1 hi1 hk1 => ?_)
    refine he _ σ1 _ hk1 _ _ E0 ht1 R1 fun u b σ2 h2 t2 ht2 R2 hi2 hk2 => ?_
    exact bin2 R2 hi1 hi2 hk2 fun v c σ' h' t' R' hi hk => hq v c σ' h' t' R' hi hk
  case UnaryOp =>
    try dsimp only at h
    split at h
    · refine wpAny_UnaryOp (he _ σ _ h s _ E0 h1 R fun v a σ1 h1 t1 ht1 R1 hi1 hk1 => ?_)
      split at hk1
      · obtain ⟨t, rfl⟩ := hi1
        exact PySem.P.neg_int (hq _ (.int _) σ1 h1 _ R1 ⟨_, rfl⟩ hk1)
      · exact hk1.elim
    · exact h.elim
  case Subscript =>
    try dsimp only at h
    split at h
    · split at h
      · refine Subscript_ (he _ σ _ h s _ E0 h1 R fun av a σ1 h1 t1 ht1 R1 hi1 hk1 => ?_)
        refine wpAny_Slice (wpAny_pure ?_)
        refine he _ σ1 _ hk1 _ _ E0 ht1 R1 fun jv j σ2 h2 t2 ht2 R2 hi2 hk2 => ?_
        split at hk2
        · rename_i a j
          obtain rfl : av = .ref a := hi1
          obtain ⟨tj, rfl⟩ := hi2
          obtain ⟨vs, l1, l2, l3⟩ := hk2
          refine wpAny_pure ?_
          refine slice_listK (s := { s with heap := h2, toks := t2 }) (hsz := by simpa using l2) (R2.lst l1) .none (.int j tj) ?_
          obtain ⟨m, B, hl⟩ := R2
          have le : Le h2 ((h2.push { cls := .type "slice", data := .fields #[.none, .int j tj, .none] }).push { cls := .type "list", data := .seq (slicePick vs.toArray none (some j) none) }) := fun b o e => Heap.get?_push_of_some _ (Heap.get?_push_of_some _ e)
          have sz : (h2.push { cls := .type "slice", data := .fields #[.none, .int j tj, .none] }).objs.size = h2.objs.size + 1 := Heap.size_push ..
          have hnew : ((h2.push { cls := .type "slice", data := .fields #[.none, .int j tj, .none] }).push { cls := .type "list", data := .seq (slicePick vs.toArray none (some j) none) }).get? (h2.objs.size + 1) = some { cls := .type "list", data := .seq (slicePick vs.toArray none (some j) none) } := by
            rw [← sz]; exact Heap.get?_push_size _ rfl
          obtain ⟨u, σ', R', hi, hk⟩ := new2 B hl l3 (fun b o _ e => le b o e) (B.ns.keeps le) (a := h2.objs.size + 1) (Heap.get?_none_of_le (Nat.le_succ _)) ⟨0, by simpa using hnew⟩
          exact hq _ u σ' _ _ R' hi hk
        · exact hk2.elim
      · exact h.elim
    · exact h.elim
    · rename_i hs1 hs2
      split at h
      · split at h
        · rename_i es lp _ _ hst hz100
          refine Subscript_ (wpAny_List (es2 he es hst σ _ h s _ E0 h1 R fun vs as σ1 h1 t1 ht1 R1 hi1 hl1 hl2 hk1 => ?_))
          have le : Le h1 (h1.push { cls := .type "list", data := .seq vs.toArray }) := fun b o e => Heap.get?_push_of_some _ e
          have hP : PL (h1.push { cls := .type "list", data := .seq vs.toArray }) h1.objs.size vs := ⟨0, Heap.get?_push_size _ rfl⟩
          have hz : vs.length ≤ 100 := by
            rw [hl1]
            exact Nat.le_of_ble_eq_true hz100
          refine ⟨Nat.le_trans hz (by decide), ?_⟩
          refine int2 H 10 _ _ hk1 _ _ E0 (R1.more le) fun i t h' t' le' hk2 => ?_
          obtain ⟨p1, p2, p3⟩ := hk2
          obtain ⟨u, eu, hku⟩ := pick_get p3 p1 p2
          obtain ⟨v, ev, hiv⟩ := isAllU_get hi1 eu
          obtain ⟨ops, hs⟩ := sub_slice (o := .ref h1.objs.size) (i := i) (t := t) (fun a b c p e => hs2 a b c p e)
          have hll : as.length = vs.length := by rw [hl1, hl2]
          refine at_get (hP.keeps fun o e => le' _ _ e).isList ?_ (by omega) (by omega) hs (hq v u σ1 h' t' ((R1.more le).more le') hiv hku)
          unfold at_
          rw [if_pos p1]
          simpa using ev
        · exact h.elim
      · refine Subscript_ (he _ σ _ h s _ E0 h1 R fun av a σ1 h1 t1 ht1 R1 hi1 hk1 => ?_)
        refine he _ σ1 _ hk1 _ _ E0 ht1 R1 fun iv i σ2 h2 t2 ht2 R2 hi2 hk2 => ?_
        exact sub2 (fun a b c p e => hs2 a b c p e) R2 hi1 hi2 hk2 fun v c σ' h' t' R' hi hk => hq v c σ' h' t' R' hi hk
  case List =>
    try dsimp only at h
    split at h
    · rename_i es lp _ hst
      refine wpAny_List (es2 he es hst σ _ h s _ E0 h1 R fun vs as σ1 h1 t1 ht1 R1 hi1 _ _ hk1 => ?_)
      have hx := hk1 vs hi1
      refine ⟨hx.1, ?_⟩
      obtain ⟨m, B, hl⟩ := R1
      have le : Le h1 (h1.push { cls := .type "list", data := .seq vs.toArray }) := fun b o e => Heap.get?_push_of_some _ e
      obtain ⟨u, σ', R', hi, hk⟩ := new2 B hl hx (fun b o _ e => le b o e) (B.ns.keeps le) (a := h1.objs.size) (Heap.get?_none_of_le (Nat.le_refl _)) ⟨0, Heap.get?_push_size _ rfl⟩
      exact hq _ u σ' _ _ R' hi hk
    · exact h.elim
  case ListComp =>
    try dsimp only at h
    exact H.lc _ σ k h s _ E0 h1 R fun v u σ' h' t' _ R' hi hk => hq v u σ' h' t' R' hi hk
  case IfExp =>
    try dsimp only at h
    refine wpAny_IfExp (ht _ σ _ h s _ E0 h1 R fun c σ1 h1 t1 ht1 R1 hk1 => ?_)
    cases c with
    | true => exact he _ σ1 _ hk1 _ _ E0 ht1 R1 fun v u σ' h' t' _ R' hi hk => hq v u σ' h' t' R' hi hk
    | false => exact he _ σ1 _ hk1 _ _ E0 ht1 R1 fun v u σ' h' t' _ R' hi hk => hq v u σ' h' t' R' hi hk
  case JoinedStr =>
    try dsimp only at h
    split at h
    · refine JoinedStr_many ?_
      exact parts2 he _ _ σ k (by decide) h s _ E0 h1 R fun v u σ' h' t' R' hi hk => hq v u σ' h' t' R' hi hk
    · exact h.elim
  case Call =>
    try dsimp only at h
    split at h
    · rename_i f0 args cp _ kws0 hs
      split at h
      · split at h
        · rename_i o m ap _ hn
          split at h
          · rename_i hm
            obtain rfl : m = ("replace" : Str) := of_decide_eq_true hm
            split at h
            · rename_i p q
              split at h
              · rename_i y z hy hz
                split at h
                · rename_i hyz
                  refine MethodCall_ (he _ σ _ h s _ E0 h1 R fun bv b σ1 h1 t1 ht1 R1 hi1 hk1 => ?_) (method_eq hs (Bool.and_eq_true_iff.mp hn).1 (base_ok (Bool.and_eq_true_iff.mp hn).2))
                  split at hk1
                  · rename_i x
                    obtain ⟨hx, tx, rfl⟩ := hi1
                    with_reducible refine rep2 hy hz hyz ht1 hk1.1 ?_
                    exact fun t' k' => hq _ (.str _) σ1 h1 k' R1 ⟨fits_rep hx hk1.1, _, rfl⟩ hk1.2
                  · exact hk1.elim
                · exact h.elim
              · exact h.elim
            · exact h.elim
          · split at h
            · rename_i a
              obtain ⟨e1, e2⟩ := star_cons (env := env) hs
              split at h
              · rename_i hm
                obtain rfl : m = ("join" : Str) := of_decide_eq_true hm
                refine MethodCall_ (he _ σ _ h s _ E0 h1 R fun bv b σ1 h1 t1 ht1 R1 hi1 hk1 => ?_) (method_eq hs (Bool.and_eq_true_iff.mp hn).1 (base_ok (Bool.and_eq_true_iff.mp hn).2))
                split at hk1
                · rename_i x
                  obtain ⟨hx, tx, rfl⟩ := hi1
                  with_reducible refine GM.join ?_
                  show wpAny _ _ (callWith cp (.builtin "str.join") [.str x tx] (backTo cp (starEach (a :: []) env)) []) _ _ _
                  refine callWith_method1 ?_ e1 (star_any e2)
                  refine args_cons (he _ σ1 _ hk1 _ _ E0 ht1 R1 fun uv u σ2 h2 t2 ht2 R2 hi2 hk2 => ?_) e1
                  refine args_nil ?_
                  exact join2 R2 hi2 hk2 fun v u σ' h' t' R' hi hk => hq v u σ' h' t' R' hi hk
                · exact hk1.elim
              · split at h
                · rename_i hm
                  obtain rfl : m = ("append" : Str) := of_decide_eq_true hm
                  refine MethodCall_ (he _ σ _ h s _ E0 h1 R fun bv b σ1 h1 t1 ht1 R1 hi1 hk1 => ?_) (method_eq hs (Bool.and_eq_true_iff.mp hn).1 (base_ok (Bool.and_eq_true_iff.mp hn).2))
                  split at hk1
                  · rename_i l
                    obtain rfl : bv = .ref l := hi1
                    obtain ⟨⟨vs, hm⟩, hk1⟩ := hk1
                    have hP : PL h1 l vs := by
                      obtain ⟨m, B, _⟩ := R1
                      exact (B.own _ hm).1
                    obtain ⟨c, hP⟩ := hP
                    refine getMethod_list_append hP rfl rfl ?_
                    show wpAny _ _ (callWith cp (.builtin "list.append") [.ref l] (backTo cp (starEach (a :: []) env)) []) _ _ _
                    refine callWith_method1 ?_ e1 (star_any e2)
                    refine args_cons (he _ σ1 _ hk1 _ _ E0 ht1 R1 fun uv u σ2 h2 t2 ht2 R2 hi2 hk2 => ?_) e1
                    refine args_nil ?_
                    exact app2 R2 hi2 hk2 fun v u σ' h' t' R' hi hk => hq v u σ' h' t' R' hi hk
                  · exact hk1.elim
                · exact h.elim
            · exact h.elim
        · exact h.elim
      · rename_i hna
        refine Call_ (he := by cases f0 <;> first | rfl | exact (hna _ _ _ rfl).elim) (he _ σ _ h s _ E0 h1 R fun fv b σ1 h1 t1 ht1 R1 hi1 hk1 => ?_)
        split at hk1
        · rename_i f
          obtain rfl : fv = .ref f := hi1
          split at hk1
          · rename_i hkp
            cases args with
            | nil => exact callWith_KB0 R1.kin (H.kp f hkp) (call2 H.c H.ok H.fr ht1 R1 (as := []) trivial hk1 fun v u σ' h' t' R' hi hk => hq v u σ' h' t' R' hi hk)
            | cons e r =>
              obtain ⟨e1, e2⟩ := star_cons (env := env) hs
              refine callWith_KB R1.kin (H.kp f hkp) (es2 he (e :: r) hs σ1 _ hk1 _ _ E0 ht1 R1 fun vs as σ' h' t' ht' R' hi _ _ hc => ⟨R'.kin, ?_⟩) e1 (star_any e2)
              exact call2 H.c H.ok H.fr ht' R' hi hc fun v u σ'' h'' t'' R'' hi' hk => hq v u σ'' h'' t'' R'' hi' hk
          · exact hk1.elim
        · rename_i id
          obtain rfl : fv = .builtin id := hi1
          cases args with
          | nil =>
            refine callWith_method0 (first := []) ?_
            exact blt2 H.ok (as := []) (k := fun r => k r σ1) R1 trivial hk1 fun v a h' t' le hi hk => hq v a σ1 h' t' (R1.more le) hi hk
          | cons e r =>
            obtain ⟨e1, e2⟩ := star_cons (env := env) hs
            refine PyProof.Rows.callWith_builtin1 (es2 he (e :: r) hs σ1 _ hk1 _ _ E0 ht1 R1 fun vs as σ' h' t' ht' R' hi _ _ hc => ?_) e1 (star_any e2)
            exact blt2 H.ok R' hi hc fun v a h'' t'' le hi' hk => hq v a σ' h'' t'' (R'.more le) hi' hk
        · rename_i T
          obtain rfl : fv = .type T := hi1
          cases args with
          | nil =>
            exfalso
            have hk' : typU T [] σ1 (fun r => k r σ1) := hk1
            unfold typU at hk'
            split at hk'
            · exact hk'
            · split at hk'
              · exact hk'
              · exact hk'
          | cons e r =>
            obtain ⟨e1, e2⟩ := star_cons (env := env) hs
            refine PyProof.Rows.callWith_type1 (es2 he (e :: r) hs σ1 _ hk1 _ _ E0 ht1 R1 fun vs as σ' h' t' ht' R' hi _ _ hc => ?_) e1 (star_any e2)
            exact typ2 R' hi hc fun v a hi' hk => hq v a σ' h' t' R' hi' hk
        · exact hk1.elim
    · exact h.elim
  all_goals exact False.elim h

theorem and2 {ev : E2} {pos : Pos} {whole : Sem Value} (ht : ST2 prog w K fb L env A ev.t) : ∀ (xs : List Expr) σ k, ev.and xs σ k → ∀ s Q E, 1 ≤ s.toks → Rep2 K fb L σ s.heap →
    (∀ b σ' h' t', 1 ≤ t' → Rep2 K fb L σ' h' → k b σ' → Q b { s with heap := h', toks := t' }) → wpAny (model prog w) A (isTrue (.BoolOp .And xs pos) env whole) Q E s
  | [], σ, k, h, s, Q, E, h1, R, hq => isTrue_and_nil (hq true σ s.heap s.toks h1 R h)
  | x :: r, σ, k, h, s, Q, E, h1, R, hq => by
    refine isTrue_and (ht x σ _ h s _ E h1 R fun b σ' h' t' ht' R' hk => ?_)
    cases b with
    | true => exact and2 ht r σ' k hk _ Q E ht' R' hq
    | false => exact hq false σ' h' t' ht' R' hk
theorem or2 {ev : E2} {pos : Pos} {whole : Sem Value} (ht : ST2 prog w K fb L env A ev.t) : ∀ (xs : List Expr) σ k, ev.or xs σ k → ∀ s Q E, 1 ≤ s.toks → Rep2 K fb L σ s.heap →
    (∀ b σ' h' t', 1 ≤ t' → Rep2 K fb L σ' h' → k b σ' → Q b { s with heap := h', toks := t' }) → wpAny (model prog w) A (isTrue (.BoolOp .Or xs pos) env whole) Q E s
  | [], σ, k, h, s, Q, E, h1, R, hq => isTrue_or_nil (hq false σ s.heap s.toks h1 R h)
  | x :: r, σ, k, h, s, Q, E, h1, R, hq => by
    refine isTrue_or (ht x σ _ h s _ E h1 R fun b σ' h' t' ht' R' hk => ?_)
    cases b with
    | true => exact hq true σ' h' t' ht' R' hk
    | false => exact or2 ht r σ' k hk _ Q E ht' R' hq

theorem stepT2_snd {ev : E2} (H : Snd2 prog w K X fb L env n A) (he : SE2 prog w K fb L env A ev.e) (ht : ST2 prog w K fb L env A ev.t) : ST2 prog w K fb L env A (stepT2 X ev) := by
  intro e σ k h s Q0 E0 h1 R hq0
  refine wpAny_mono (wpAny_toks_of (n := 1) h1 (Q := fun v s' => 1 ≤ s'.toks → Q0 v s') (E := E0) ?_) (fun _ _ x => x.2 x.1) (fun _ _ x => x.2)
  have hq : ∀ b σ' h' t', Rep2 K fb L σ' h' → k b σ' → (fun v (s' : Shared) => 1 ≤ s'.toks → Q0 v s') b { s with heap := h', toks := t' } := fun v σ' h' t' R' hk ht => hq0 v σ' h' t' ht R' hk
  generalize (fun v (s' : Shared) => 1 ≤ s'.toks → Q0 v s') = Q at hq
  clear hq0
  unfold stepT2 at h
  cases e
  case Compare =>
    try dsimp only at h
    split at h
    · rename_i op r
      split at h
      · exact h.elim
      · exact h.elim
      · rename_i hns hnt
        have hm : behindInMarks op r = false := by
          cases r <;> first | rfl | exact absurd rfl (hns _ _ _)
        refine wpAny_isTrue_Compare1 (he _ σ _ h s _ E0 h1 R fun v a σ1 h1 t1 ht1 R1 hi1 hk1 => ?_) hm
        refine he _ σ1 _ hk1 _ _ E0 ht1 R1 fun u b σ2 h2 t2 ht2 R2 hi2 hk2 => ?_
        exact cmp2 H.eq H.ne R2 hi1 hi2 hk2 fun c t3 hc => wpAny_truthy_bool (hq c σ2 h2 t3 R2 hc)
    · exact h.elim
  case BoolOp =>
    try dsimp only at h
    split at h
    · exact and2 ht _ σ k h s Q E0 h1 R fun b σ' h' t' _ R' hk => hq b σ' h' t' R' hk
    · exact or2 ht _ σ k h s Q E0 h1 R fun b σ' h' t' _ R' hk => hq b σ' h' t' R' hk
  case UnaryOp =>
    try dsimp only at h
    split at h
    · exact isTrue_not (ht _ σ _ h s _ E0 h1 R fun b σ' h' t' _ R' hk => hq _ σ' h' t' R' hk)
    · exact h.elim
  case Name =>
    try dsimp only at h
    refine isTrue_plain (he _ σ _ h s _ E0 h1 R fun v a σ' h' t' _ R' hi hk => ?_) rfl
    exact truth2 hi hk fun b t'' hb => hq b σ' h' t'' R' hb
  all_goals exact False.elim h

theorem ss2 {ev : E2} (hs : SS2 prog w K fb L env A ev.s) : SSs2 prog w K fb L env A ev.ss
  | [], σ, k, h, s, Q, E, h1, R, hq => wpAny_execs_nil (hq .next .next σ s.heap s.toks h1 R rfl h)
  | st :: r, σ, k, h, s, Q, E, h1, R, hq => by
    refine wpAny_execs_cons (hs st σ _ h s _ E h1 R fun f b σ' h' t' ht' R' hf hk => ?_)
    cases b with
    | next => obtain rfl : f = .next := hf; exact ss2 hs r σ' k hk _ Q E ht' R' hq
    | brk => obtain rfl : f = .brk := hf; exact hq .brk .brk σ' h' t' ht' R' rfl hk
    | cont => obtain rfl : f = .cont := hf; exact hq .cont .cont σ' h' t' ht' R' rfl hk
    | ret a => obtain ⟨v, rfl, hv⟩ := hf; exact hq (.ret v) (.ret a) σ' h' t' ht' R' ⟨v, rfl, hv⟩ hk
end
end Mine
end
section
open PySem PySem.W PySem.Calls PyProof.Rows
namespace Mine
section
variable {prog : Program} {w : World} {K : Frag} {X : C2} {fb : List (Addr × Obj)} {L : Addr} {env : Env} {n : Nat} {A : Around} {s : Shared} {E : Value → Shared → Prop}

theorem store2 {x : Str} {v : Value} {u : U} {σ : S2} {Q : Unit → Shared → Prop} (hE : Env2 env X L) (hx : X.sc.lookup x = some .local) (R : Rep2 K fb L σ s.heap) (hu : u.Is v)
    (hq : ∀ h', (∀ b o, b ≠ L → s.heap.get? b = some o → h'.get? b = some o) → Rep2 K fb L { σ with loc := uput x u σ.loc } h' → Q () { s with heap := h', toks := s.toks + 1 }) : wpAny (model prog w) A (storeName env x v) Q E s := by
  obtain ⟨m, B, hl⟩ := R
  refine wpAny_storeName_local (by unfold Env.kindOf; rw [hE.ok.sc]; exact hx) (by rw [hE.ok.loc]; exact B.ns) (fun h' hn hs => ?_) (by rw [hE.ok.kind]; rfl)
  rw [hE.ok.loc] at hn hs
  refine hq h' (fun b o hb e => hs.extBut b o hb e) ⟨_, B.grow (fun b o hb e => hs.extBut b o hb e) hn, fun y b hy => ?_⟩
  have hy' : lkS y (uput x u σ.loc) = some b := hy
  rw [lk_put] at hy'
  by_cases q : x = y
  · subst q
    rw [if_pos rfl] at hy'
    cases hy'
    exact ⟨v, by simp, hu⟩
  · rw [if_neg q] at hy'
    obtain ⟨u', h1, h2⟩ := hl y b hy'
    exact ⟨u', by simp [show ¬ y = x from fun e => q e.symm, h1], h2⟩

theorem stepS2_snd {ev : E2} (H : Snd2 prog w K X fb L env n A) (he : SE2 prog w K fb L env A ev.e) (ht : ST2 prog w K fb L env A ev.t) (hs : SS2 prog w K fb L env A ev.s) : SS2 prog w K fb L env A (stepS2 X ev) := by
  intro st σ k h s Q E h1 R hq
  unfold stepS2 at h
  cases st
  case If =>
    try dsimp only at h
    refine wpAny_If (ht _ σ _ h s _ E h1 R fun b σ' h' t' ht' R' hk => ?_)
    cases b with
    | true => exact ss2 hs _ σ' k hk _ Q E ht' R' hq
    | false => exact ss2 hs _ σ' k hk _ Q E ht' R' hq
  case Assign ts v p =>
    try dsimp only at h
    split at h
    · rename_i hn
      cases ts with
      | nil => exact False.elim h
      | cons t r =>
        cases r with
        | cons _ _ => exact False.elim h
        | nil =>
          cases t
          case Name x _ =>
            try dsimp only at h
            split at h
            · rename_i hx
              refine wpAny_Assign_Name (he _ σ _ h s _ E h1 R fun v a σ' h' t' ht' R' hi hk => ?_) (swaps_no hn)
              exact store2 H.en hx R' hi fun h'' _ R'' => hq .next .next _ h'' _ (Nat.le_succ_of_le ht') R'' rfl hk
            · exact h.elim
          case Subscript =>
            refine wpAny_Assign_Subscript (he _ σ _ h s _ E h1 R fun v u σ1 h1 t1 ht1 R1 hi1 hk1 => ?_) (swaps_no hn)
            refine he _ σ1 _ hk1 _ _ E ht1 R1 fun av a σ2 h2 t2 ht2 R2 hi2 hk2 => ?_
            refine he _ σ2 _ hk2 _ _ E ht2 R2 fun iv i σ3 h3 t3 ht3 R3 hi3 hk3 => ?_
            split at hk3
            · rename_i a i
              obtain rfl : av = .ref a := hi2
              obtain ⟨t, rfl⟩ := hi3
              obtain ⟨pre, vs, post, e, rfl, hne, hz, hk⟩ := hk3
              have hl : PL h3 a vs := by
                obtain ⟨m, B, _⟩ := R3
                exact (B.own (a, vs) (by rw [e]; simp)).1
              exact set_pl (s := { s with heap := h3, toks := t3 }) hl hne hz fun h' hl' ho => hq .next .next _ h' t3 ht3 (R3.turn e hl' ho) rfl (hk v hi1)
            · exact hk3.elim
          all_goals exact False.elim h
    · exact H.st _ σ k h s Q E h1 R hq
  case Return =>
    try dsimp only at h
    split at h
    · exact wpAny_Return_some (he _ σ _ h s _ E h1 R fun v a σ' h' t' ht' R' hi hk => hq (.ret v) (.ret a) σ' h' t' ht' R' ⟨v, rfl, hi⟩ hk)
    · exact wpAny_Return_none (hq (.ret .none) (.ret .none) σ s.heap s.toks h1 R ⟨.none, rfl, rfl⟩ h)
  case Expr =>
    try dsimp only at h
    split at h
    · rename_i hn
      refine wpAny_Expr (he _ σ _ h s _ E h1 R fun v a σ' h' t' ht' R' hi hk => ?_) (by unfold interactive; rw [H.en.ok.kind]; rfl) (swaps_no hn)
      split at hk
      · obtain rfl : v = .none := hi
        exact hq .next .next σ' h' t' ht' R' rfl hk
      · exact hk.elim
    · exact h.elim
  case For =>
    try dsimp only at h
    exact H.st _ σ k h s Q E h1 R hq
  case Pass =>
    try dsimp only at h
    exact wpAny_Pass (hq .next .next σ s.heap s.toks h1 R rfl h)
  all_goals exact False.elim h

theorem ev2_snd (H : Snd2 prog w K X fb L env n A) : ∀ d, SE2 prog w K fb L env A (ev2 X d).e ∧ ST2 prog w K fb L env A (ev2 X d).t ∧ SS2 prog w K fb L env A (ev2 X d).s
  | 0 => ⟨fun _ _ _ h => h.elim, fun _ _ _ h => h.elim, fun _ _ _ h => h.elim⟩
  | d + 1 =>
    let ⟨a, b, c⟩ := ev2_snd H d
    ⟨stepE2_snd H a b, stepT2_snd H a b, stepS2_snd H a b c⟩

noncomputable def backU (g : Heap) (k : U → Heap → Prop) (b : UF) (σ : S2) : Prop := match b with
  | .ret u => Le g σ.g ∧ ∀ g', Le σ.g g' → (∀ p ∈ σ.ow, g'.IsList p.1 p.2.toArray) → k u g'
  | .next => Le g σ.g ∧ ∀ g', Le σ.g g' → (∀ p ∈ σ.ow, g'.IsList p.1 p.2.toArray) → k .none g'
  | _ => False

theorem isAllU_len : ∀ {as : List U} {vs : List Value}, IsAllU as vs → vs.length = as.length
  | [], [], _ => rfl
  | _ :: _, _ :: _, h => by simp [isAllU_len h.2]
  | [], _ :: _, h => h.elim
  | _ :: _, [], h => h.elim
theorem locU_of : ∀ {ps : List Str} {as : List U} {vs : List Value}, IsAllU as vs → ∀ x a, lkS x (ps.zip as) = some a → ∃ v, (ps.zip vs).lookup x = some v ∧ U.Is a v
  | [], _, _, _, x, a, e => by simp [lkS] at e
  | p :: ps, [], _, _, x, a, e => by simp [lkS] at e
  | p :: ps, b :: as, [], h, _, _, _ => h.elim
  | p :: ps, b :: as, v :: vs, h, x, a, e => by
    rw [List.zip_cons_cons] at e
    rw [List.zip_cons_cons, List.lookup_cons]
    have e' : (match decide (p = x) with | true => some b | false => lkS x (ps.zip as)) = some a := e
    by_cases q : p = x
    · subst q
      simp only [decide_true] at e'
      cases e'
      exact ⟨v, by simp, h.1⟩
    · simp only [q, decide_false] at e'
      have : (x == p) = false := beq_eq_false_iff_ne.mpr fun e => q e.symm
      rw [this]
      exact locU_of h.2 x a e'
theorem isAllU_rev {as : List U} {vs : List Value} (h : IsAllU as vs) : IsAllU as.reverse vs.reverse := by
  have app : ∀ {a b : List U} {u v : List Value}, IsAllU a u → IsAllU b v → IsAllU (a ++ b) (u ++ v) := by
    intro a
    induction a with
    | nil => intro b u v h1 h2; cases u with | nil => exact h2 | cons _ _ => exact h1.elim
    | cons x a ih => intro b u v h1 h2; cases u with | nil => exact h1.elim | cons y u => exact ⟨h1.1, ih h1.2 h2⟩
  induction as generalizing vs with
  | nil => cases vs with | nil => trivial | cons _ _ => exact h.elim
  | cons a as ih =>
    cases vs with
    | nil => exact h.elim
    | cons v vs =>
      rw [List.reverse_cons, List.reverse_cons]
      exact app (ih h.2) ⟨h.1, trivial⟩

theorem Sr.fresh {g h : Heap} {a : Addr} (S : Sr K g fb h) (ha : h.get? a = none) : a ∉ fb.map (·.1) ∧ g.get? a = none := by
  refine ⟨fun q => ?_, ?_⟩
  · obtain ⟨p, hp, rfl⟩ := List.mem_map.mp q; obtain ⟨_, _, sl, e⟩ := S.fb p hp; rw [ha] at e; cases e
  · cases e : g.get? a with
    | none => rfl
    | some o => have := S.keep a o e; rw [ha] at this; cases this

theorem enter2c {g : Heap} {f : Addr} {fo : Obj} {fd : FuncData} {body : List Stmt} {sc : List (Str × NameKind)} {ps : List Str} {args : List U} {vals : List Value} {k : U → Heap → Prop}
    (ok : FnOk K f fo fd body sc ps) (hi : IsAllU args vals) (hl : args.length = ps.length)
    (h : ∀ A s fb L env, okA n A → EnvOk env sc L → env.cells = fd.closure → FrOk A L fb → 1 ≤ s.toks → Rep2 K fb L ⟨ps.reverse.zip args.reverse, g, []⟩ s.heap → ∀ Q E, (∀ fl b σ' h' t', 1 ≤ t' → Rep2 K fb L σ' h' → FlU b fl → backU g k b σ' → Q fl { s with heap := h', toks := t' }) → wpAny (model prog w) A (execs body env) Q E s) :
    ∀ A s fb R, okA (n + 1) A → FrIn A fb → 1 ≤ s.toks + (ps.zip vals).length → Sr K g fb s.heap → (∀ g' v h' t', 1 ≤ t' → Le g g' → Sr K g' fb h' → (∃ u, U.Is u v ∧ k u g') → R (.ok (.ret v)) { s with heap := h', toks := t' }) → codeAny (model prog w) A (.call (.ref f) ⟨vals, []⟩) R s := by
  intro A s fb R hA hF h1 S hR
  have hvl : vals.length = ps.length := (isAllU_len hi).trans hl
  have hno : s.heap.get? s.heap.objs.size = none := Heap.get?_none_of_le (Nat.le_refl _)
  refine codeAny_call_def (fd := fd) (body := body) (binds := ps.zip vals) (by have := hA.2.1; omega) (S.kin.keeps S.keep _ _ ok.at_) ok.dat (S.nl.keeps S.keep) (codeRec_of (S.kin.keeps S.keep) ok.cod) ok.bod (fun _ _ _ _ hq => rdK_snd (S.kin.keeps S.keep) (ok.bind vals hvl) hq) ?_ ?_ ?_ ok.co ok.gen ok.kind
  · intro x hx
    have c := List.all_eq_true.mp ok.cell x (ok.scn ▸ hx)
    exact of_decide_eq_true c
  · intro x hx
    have c := List.all_eq_true.mp ok.loc x.1 (List.of_mem_zip (a := x.1) (b := x.2) hx).1
    rw [ok.scn]
    exact beq_iff_eq.mp c
  · intro h₁ hns hk₁
    have hE : EnvOk (callEnv fd s.heap.objs.size f) sc s.heap.objs.size := ⟨ok.kind, rfl, ok.glo, ok.blt, ok.scn⟩
    have hfrm : (callEnv fd s.heap.objs.size f).frame = some s.heap.objs.size := rfl
    have hcl : (callEnv fd s.heap.objs.size f).cells = fd.closure := rfl
    have hA' : okA n (A.deeper (callEnv fd s.heap.objs.size f)) := ⟨hA.1, by have := hA.2.1; show A.depth + 1 + n < _; omega, by have := hA.2.2; show A.units + 3 + 8 * n < _; omega⟩
    have fr' : FrOk (A.deeper (callEnv fd s.heap.objs.size f)) s.heap.objs.size fb := by
      obtain ⟨frs, e1, e2⟩ := hF
      refine ⟨_ :: frs, by show A.frames.map _ = _; rw [e1]; rfl, fun e he => ?_⟩
      rcases List.mem_cons.mp he with rfl | he
      · exact ⟨by rw [hE.kind]; decide, _, hfrm, .inl rfl⟩
      · obtain ⟨a1, a, a2, a3⟩ := e2 e he
        exact ⟨a1, a, a2, .inr a3⟩
    generalize callEnv fd s.heap.objs.size f = env at hE hfrm hcl hA' fr'
    obtain ⟨nfb, ng⟩ := S.fresh hno
    have B : Bd K g fb [] s.heap.objs.size (fun x => (ps.zip vals).reverse.lookup x) h₁ := by
      refine ⟨⟨S.kin, S.nl, S.mg, S.mb, S.keep.trans hk₁, fun p hp => ?_⟩, nfb, hns, ng, fun p hp => (nomatch hp), List.nodup_nil⟩
      obtain ⟨a1, a2, sl, a3⟩ := S.fb p hp
      exact ⟨a1, a2, sl, hk₁ _ _ a3⟩
    refine h _ { s with heap := h₁, toks := s.toks + (ps.zip vals).length } fb _ env hA' hE hcl fr' h1 ⟨_, B, fun x a e => ?_⟩ _ _ ?_
    · have z : (ps.zip vals).reverse = ps.reverse.zip vals.reverse := by
        rw [zip_rev hvl.symm]
      show ∃ v, (ps.zip vals).reverse.lookup x = some v ∧ _
      rw [z]
      exact locU_of (isAllU_rev hi) x a e
    · intro fl b σ' h' t' ht' R' hf hb
      obtain ⟨m', B', _⟩ := R'
      have B0 : Bd K σ'.g fb [] s.heap.objs.size m' h' := ⟨B'.sr, B'.fL, B'.ns, B'.gL, fun p hp => (nomatch hp), List.nodup_nil⟩
      have Bm := B0.max
      have low : ∀ p ∈ σ'.ow, (hideAll h' (hid fb [] s.heap.objs.size)).IsList p.1 p.2.toArray := by
        intro p hp
        obtain ⟨pl, _, p3, p4⟩ := B'.own p hp
        obtain ⟨o, e, r⟩ := pl.isList
        refine ⟨o, hideAll_get _ e fun q => ?_, r⟩
        rcases List.mem_cons.mp q with q | q
        · exact p3 q
        · rw [List.map_nil, List.append_nil] at q; exact p4 q
      have fin : ∀ u v, U.Is u v → (Le g σ'.g ∧ ∀ g', Le σ'.g g' → (∀ p ∈ σ'.ow, g'.IsList p.1 p.2.toArray) → k u g') → R (.ok (.ret v)) { s with heap := h', toks := t' } := by
        intro u v hu ⟨hg, hk⟩
        exact hR (hideAll h' (hid fb [] s.heap.objs.size)) v h' t' ht' (hg.trans B0.le_max) Bm.sr ⟨u, hu, hk _ B0.le_max low⟩
      cases b with
      | ret a => obtain ⟨v, rfl, hv⟩ := hf; exact fin a v hv hb
      | next => obtain rfl : fl = .next := hf; exact fin .none .none rfl hb
      | brk => exact hb.elim
      | cont => exact hb.elim
theorem enter2 {g : Heap} {f : Addr} {fo : Obj} {fd : FuncData} {body : List Stmt} {sc : List (Str × NameKind)} {ps : List Str} {args : List U} {vals : List Value} {k : U → Heap → Prop}
    (ok : FnOk K f fo fd body sc ps) (hi : IsAllU args vals) (hl : args.length = ps.length)
    (h : ∀ A s fb L env, okA n A → EnvOk env sc L → env.cells = fd.closure → FrOk A L fb → 1 ≤ s.toks → Rep2 K fb L ⟨ps.reverse.zip args.reverse, g, []⟩ s.heap → ∀ Q E, (∀ fl b σ' h' t', 1 ≤ t' → Rep2 K fb L σ' h' → FlU b fl → backU g k b σ' → Q fl { s with heap := h', toks := t' }) → wpAny (model prog w) A (execs body env) Q E s) :
    Ct prog w K (n + 1) (.ref f) vals g fun g' v => ∃ u, U.Is u v ∧ k u g' :=
  fun A s fb R hA hF h1 S hR => enter2c ok hi hl h A s fb R hA hF (Nat.le_trans h1 (Nat.le_add_right _ _)) S hR
end
end Mine
end
section
open PySem PySem.W PySem.Calls PyProof.Rows
namespace Mine
theorem entry_search : entryFor table "re.Pattern.search" = some Builtin.«re.Pattern.search» := entryFor_of_fast (by kernel_rfl)
theorem plain_search : plainId "re.Pattern.search" = true := by decide +kernel
noncomputable def tgOf (x : Str) (t : Tok) : Builtin.Re.ReTarget := { pattern := .ref 63, string := .str x t, code := reCode, text := x.cps, kind := 0, groups := 0, pos := 0, lim := min 9223372036854775807 x.cps.size }

section
variable {prog : Program} {w : World} {K : Frag} {fb : List (Addr × Obj)} {n : Nat} {A : Around} {s : Shared} {E : Value → Shared → Prop}
theorem rules_ok {M : Model} {m : Sre.M} {Q : PUnit → Shared → Prop} : ∀ (l : List Nat) (f : Nat → PUnit → Sem (ForInStep PUnit)), (∀ i u, f i u = if m.seen.has i = true then (do rule (Sre.names.getD i ""); pure (.yield ⟨⟩)) else pure (.yield ⟨⟩)) → Q ⟨⟩ s → wpAny M A (forIn l (⟨⟩ : PUnit) f) Q E s
  | [], f, _, h => by rw [List.forIn_nil]; exact wpAny_pure h
  | i :: r, f, hf, h => by
    rw [List.forIn_cons, hf]
    split
    · exact wpAny_bind (wpAny_bind (wpAny_rule (wpAny_pure (rules_ok r f hf h))))
    · exact wpAny_bind (wpAny_pure (rules_ok r f hf h))
theorem run_end {M : Model} {m : Sre.M} {Q : Option Sre.M → Shared → Prop} {o : Sre.Outcome} (h : (m.runFor 4).outcome = some o) (ho : o = .matched ∨ o = .failed)
    (hq : ∀ m', Q (match o with | .matched => some m' | _ => none) s) : wpAny M A (Builtin.Re.reRunToEnd m) Q E s := by
  unfold Builtin.Re.reRunToEnd
  refine wpAny_bind ?_
  show wpAny M A (Builtin.Re.reDrive (18446744073709551615 + 1) m) _ _ _
  unfold Builtin.Re.reDrive
  have e : (m.runFor Builtin.Re.reTurnSteps).outcome.isSome = true := by show (m.runFor 4).outcome.isSome = true; rw [h]; rfl
  simp only [e, if_true]
  refine wpAny_pure ?_
  have h' : (m.runFor Builtin.Re.reTurnSteps).outcome = some o := h
  generalize m.runFor Builtin.Re.reTurnSteps = m2 at h'
  refine wpAny_bind (rules_ok (m := m2) _ _ (fun i u => ?_) ?_)
  · split <;> rfl
  · rw [h']
    rcases ho with rfl | rfl
    · exact wpAny_pure (hq m2)
    · exact wpAny_pure (hq m2)

theorem search_ct {g : Heap} {x : Str} {t : Tok} (ca : ∀ v, rdK K 200 (callAny (.ref 759) ⟨[v], []⟩) = some (.again (.builtin "re.Pattern.search" ⟨[.ref 63, v], []⟩)))
    (tg : ∀ x t, rdK K 200 (Builtin.Re.reTarget "re.Pattern.search" "search" ⟨[.ref 63, .str x t], []⟩) = some (tgOf x t)) (hne : x.length ≠ 0) (hz : x.length ≤ sizeLine) (hal : ∀ c ∈ x.cps.toList, inAl c = true) :
    Ct prog w K (n + 2) (.ref 759) [.str x t] g fun _ v => ((x.cps.toList.all (· == 97)) = true → v = .none) ∧ ((x.cps.toList.all (· == 97)) = false → ∃ a, v = .ref a) := by
  intro A s fb R hA hF h1 S hR
  have kin := S.kin.keeps S.keep
  refine codeAny_of_tree ?_
  show wpAny _ _ (callAny (.ref 759) ⟨[.str x t], []⟩) _ _ _
  refine rdK_snd kin (ca _) ?_
  refine ⟨plainId_quiet plain_search _, ?_⟩
  refine codeAny_builtin entry_search ?_
  rw [Around.under_plainId plain_search _]
  show wpAny _ _ (Builtin.Re.reTarget "re.Pattern.search" "search" ⟨[.ref 63, .str x t], []⟩ >>= fun tt => Builtin.Re.reAnswer tt (Sre.forSearch tt.code tt.text tt.groups tt.pos tt.lim false)) _ _ _
  refine wpAny_bind (rdK_snd kin (tg x t) ?_)
  have hlim : min 9223372036854775807 x.cps.size = x.cps.size := by
    have : x.cps.size ≤ 2 ^ 24 := hz
    exact Nat.min_eq_right (by omega)
  have hpos : 0 < x.cps.size := Nat.pos_of_ne_zero hne
  show wpAny _ _ (Builtin.Re.reAnswer (tgOf x t) (Sre.forSearch reCode x.cps 0 0 (min 9223372036854775807 x.cps.size) false)) _ _ _
  rw [hlim]
  have hget : ∀ k, k < x.cps.size → x.cps.getD k 0 ∈ x.cps.toList := fun k hk => by
    rw [Array.getD_eq_getD_getElem?, Array.getElem?_eq_getElem hk]
    exact Array.getElem_mem_toList hk
  have hfs : ∀ l, 0 < l → Sre.forSearch reCode x.cps 0 0 l false = ({ code := reCode, text := x.cps, lim := l, start := 0, lastStart := l, pc := 18, pos := 0, handed := 0, marks := Array.replicate (2 * 0) none, mustAdvance := false, seen := ({} : Sre.Seen).add 14 } : Sre.M).attemptFrom 0 true := by
    intro l hl
    show (if (decide (0 > l) || decide (l - 0 < 1)) = true then _ else _) = _
    rw [if_neg (by simp; omega)]
    rfl
  unfold Builtin.Re.reAnswer
  rw [hfs _ hpos]
  cases hall : x.cps.toList.all (· == 97) with
  | true =>
    refine wpAny_bind (run_end (o := .failed) (from_none rfl rfl rfl fun k hk => ?_) (.inr rfl) fun m' => ?_)
    · have := List.all_eq_true.mp hall _ (hget k hk)
      exact beq_iff_eq.mp this
    · refine wpAny_pure ?_
      exact hR g .none s.heap s.toks h1 Le.rfl S ⟨fun _ => rfl, fun h => by rw [hall] at h; cases h⟩
  | false =>
    refine wpAny_bind (run_end (o := .matched) (from_some rfl rfl rfl rfl rfl rfl rfl (fun k hk => hal _ (hget k hk)) ?_) (.inl rfl) fun m' => ?_)
    · obtain ⟨c, hc, hne'⟩ := List.all_eq_false.mp hall
      obtain ⟨k, hk, rfl⟩ := List.mem_iff_getElem.mp hc
      rw [Array.length_toList] at hk
      refine ⟨k, hk, ?_⟩
      rw [Array.getD_eq_getD_getElem?, Array.getElem?_eq_getElem hk]
      simpa using hne'
    · show wpAny _ _ (Builtin.Re.reNewMatch (.ref 63) (.str x t) 0 0 (min 9223372036854775807 x.cps.size) m' >>= fun v => ret v) _ _ _
      unfold Builtin.Re.reNewMatch
      show wpAny _ _ ((newTuple [rawInt m'.start, rawInt m'.handed] >>= fun tp => newFields "re.Match" [.str x t, .ref 63, rawInt (0 : Nat), rawInt (min 9223372036854775807 x.cps.size : Nat), rawInt m'.lastindex, tp]) >>= fun v => ret v) _ _ _
      refine wpAny_bind (wpAny_bind (wpAny_newObj_type (wpAny_newObj_type (wpAny_pure ?_)  ?_) ?_))
      · have le : Le s.heap ((s.heap.push { cls := .type "tuple", data := .seq [rawInt m'.start, rawInt m'.handed].toArray }).push { cls := .type "re.Match", data := .fields [.str x t, .ref 63, rawInt (0 : Nat), rawInt (min 9223372036854775807 x.cps.size : Nat), rawInt m'.lastindex, .ref s.heap.objs.size].toArray }) :=
          fun b o e => Heap.get?_push_of_some _ (Heap.get?_push_of_some _ e)
        refine hR g _ _ s.toks h1 Le.rfl ⟨S.kin, S.nl, S.mg, S.mb, S.keep.trans le, fun p hp => ?_⟩ ⟨fun h => (by rw [hall] at h; cases h), fun _ => ⟨_, rfl⟩⟩
        obtain ⟨a1, a2, sl, a3⟩ := S.fb p hp
        exact ⟨a1, a2, sl, le _ _ a3⟩
      · show 6 ≤ sizeLine + 2; decide
      · show 2 ≤ sizeLine; decide
end
end Mine
end
section
open PySem PySem.W PySem.Calls PyProof.Rows
namespace Mine
noncomputable def ofL (l : List Nat) : Str := ⟨l.toArray⟩
theorem ofL_len (l : List Nat) : (ofL l).length = l.length := by simp [ofL, Str.length]
theorem slice_one (pre : List Nat) (c : Nat) (post : List Nat) : Txt.slice (ofL (pre ++ c :: post)) (some (pre.length : Int)) (some ((pre.length : Int) + 1)) = ⟨#[c]⟩ := by
  have hl : (ofL (pre ++ c :: post)).length = pre.length + (post.length + 1) := by simp [ofL, Str.length]
  have hi : Builtin.Str.strSliceIndices (some (pre.length : Int)) (some ((pre.length : Int) + 1)) 1 (ofL (pre ++ c :: post)).length = [pre.length] := by
    rw [hl]
    unfold Builtin.Str.strSliceIndices sliceRange
    have e1 : ¬ ((pre.length : Int) < 0) := by omega
    have e2 : ¬ ((pre.length : Int) + 1 < 0) := by omega
    have e3 : max (0 : Int) (min (pre.length : Int) ((pre.length + (post.length + 1) : Nat) : Int)) = pre.length := by omega
    have e4 : max (0 : Int) (min ((pre.length : Int) + 1) ((pre.length + (post.length + 1) : Nat) : Int)) = pre.length + 1 := by omega
    have e5 : ((pre.length : Int) + 1 - pre.length + 1 - 1) / 1 = 1 := by omega
    simp only [show (1 : Int) > 0 by decide, if_true, e1, e2, if_false, e3, e4]
    rw [if_pos (by omega), e5]
    simp
  unfold Txt.slice
  rw [hi]
  have hg : (ofL (pre ++ c :: post)).cps[pre.length]? = some c := by simp [ofL]
  split
  · rename_i h
    have h1 : pre.length + (post.length + 1) = 1 := by
      rw [hl] at h
      simp at h
      omega
    have hp : pre = [] := List.length_eq_zero_iff.mp (by omega)
    have hq : post = [] := List.length_eq_zero_iff.mp (by omega)
    subst hp hq
    rfl
  · simp [hg]
end Mine
end
section
open PySem PySem.W PySem.Calls PyProof.Rows
namespace Mine
noncomputable def rpl (c : Nat) (z l : List Nat) : List Nat := l.flatMap fun d => if d = c then z else [d]
theorem rpl_app (c : Nat) (z a b : List Nat) : rpl c z (a ++ b) = rpl c z a ++ rpl c z b := List.flatMap_append
theorem rpl_free (c : Nat) (z : List Nat) : ∀ l : List Nat, c ∉ l → rpl c z l = l
  | [], _ => rfl
  | d :: r, h => by
    have h1 : ¬ d = c := fun e => h (e ▸ .head _)
    have h2 : c ∉ r := fun m => h (.tail _ m)
    have := rpl_free c z r h2
    unfold rpl at this ⊢
    rw [List.flatMap_cons, this, if_neg h1]; rfl
theorem rpl_join (c : Nat) (z : Str) : ∀ parts : List Str, (∀ p ∈ parts, c ∉ p.cps.toList) → rpl c z.cps.toList (Str.join ⟨#[c]⟩ parts).cps.toList = (Str.join z parts).cps.toList
  | [], _ => rfl
  | [p], h => rpl_free c _ _ (h p (.head _))
  | p :: q :: r, h => by
    have ih := rpl_join c z (q :: r) fun a ha => h a (.tail _ ha)
    show rpl c z.cps.toList (p ++ ⟨#[c]⟩ ++ Str.join ⟨#[c]⟩ (q :: r)).cps.toList = (p ++ z ++ Str.join z (q :: r)).cps.toList
    simp only [Str.cps_append, Array.toList_append]
    rw [rpl_app, rpl_app, ih, rpl_free c _ _ (h p (.head _))]
    show p.cps.toList ++ rpl c z.cps.toList [c] ++ _ = _
    simp [rpl]
theorem replace_rpl (x z : Str) (c : Nat) : (Txt.replace x ⟨#[c]⟩ z).cps.toList = rpl c z.cps.toList x.cps.toList := by
  rw [StrLaws.replace_one, ← rpl_join c z _ (StrLaws.split_free x c), StrLaws.join_split]
theorem nil_cps2 : (Str.ofString "").cps.toList = [] := by kernel_rfl
theorem str_ext {a b : Str} (h : a.cps.toList = b.cps.toList) : a = b := by
  cases a; cases b
  simp only [Str.mk.injEq]
  exact Array.toList_inj.mp h
theorem ofL_toList (l : List Nat) : (ofL l).cps.toList = l := by simp [ofL]
theorem replace_ofL (p : List Nat) (z : Str) (c : Nat) : Txt.replace (ofL p) ⟨#[c]⟩ z = ofL (rpl c z.cps.toList p) := by
  apply str_ext
  rw [replace_rpl, ofL_toList, ofL_toList]
theorem pairs_eq (p : List Nat) : rpl 34 [92, 34] (rpl 92 [92, 92] p) = pairs p := by
  induction p with
  | nil => rfl
  | cons c p ih =>
    have e : rpl 92 [92, 92] (c :: p) = (if c = 92 then [92, 92] else [c]) ++ rpl 92 [92, 92] p := by simp [rpl]
    rw [e, rpl_app, ih]
    have e2 : pairs (c :: p) = (if c = 92 ∨ c = 34 then [92, c] else [c]) ++ pairs p := by simp [pairs]
    rw [e2]
    by_cases h1 : c = 92
    · subst h1; simp [rpl]
    · by_cases h2 : c = 34
      · subst h2; simp [rpl]
      · simp [h1, h2, rpl]
theorem ofL_append (a b : List Nat) : ofL a ++ ofL b = ofL (a ++ b) := by
  apply str_ext
  rw [Str.cps_append, Array.toList_append, ofL_toList, ofL_toList, ofL_toList]
theorem pairs_len (p : List Nat) : (pairs p).length ≤ 2 * p.length := by
  induction p with
  | nil => simp [pairs]
  | cons c p ih =>
    have e : pairs (c :: p) = (if c = 92 ∨ c = 34 then [92, c] else [c]) ++ pairs p := by simp [pairs]
    rw [e, List.length_append, List.length_cons]
    split <;> simp <;> omega
theorem sqz_len (p : List Nat) : (sqz p).length ≤ 5 * p.length := by
  induction p with
  | nil => simp [sqz]
  | cons c p ih =>
    have e : sqz (c :: p) = (if c = 39 then [39, 34, 39, 34, 39] else [c]) ++ sqz p := by simp [sqz]
    rw [e, List.length_append, List.length_cons]
    split <;> simp <;> omega
theorem pairs_al {p : List Nat} (h : ∀ c ∈ p, inAl c = true) : ∀ c ∈ pairs p, inAl c = true := by
  intro c hc
  obtain ⟨d, hd, hc⟩ := List.mem_flatMap.mp hc
  split at hc
  · rcases List.mem_cons.mp hc with rfl | hc
    · rfl
    · rcases List.mem_cons.mp hc with rfl | hc
      · exact h _ hd
      · cases hc
  · rcases List.mem_cons.mp hc with rfl | hc
    · exact h _ hd
    · cases hc
theorem qs_al {p : List Nat} (h : ∀ c ∈ p, inAl c = true) : ∀ c ∈ qs p, inAl c = true := by
  intro c hc
  unfold qs at hc
  rcases List.mem_append.mp hc with hc | hc
  · rcases List.mem_cons.mp hc with rfl | hc
    · rfl
    · exact pairs_al h c hc
  · rcases List.mem_cons.mp hc with rfl | hc
    · rfl
    · cases hc
theorem qt_al {p : List Nat} (h : ∀ c ∈ p, inAl c = true) : ∀ c ∈ qt p, inAl c = true := by
  intro c hc
  unfold qt at hc
  split at hc
  · rcases List.mem_cons.mp hc with rfl | hc
    · rfl
    · rcases List.mem_cons.mp hc with rfl | hc
      · rfl
      · cases hc
  · split at hc
    · exact h c hc
    · rcases List.mem_append.mp hc with hc | hc
      · rcases List.mem_cons.mp hc with rfl | hc
        · rfl
        · obtain ⟨d, hd, hc⟩ := List.mem_flatMap.mp hc
          split at hc
          · simp at hc
            rcases hc with rfl | rfl | rfl | rfl | rfl <;> rfl
          · rcases List.mem_cons.mp hc with rfl | hc
            · exact h _ hd
            · cases hc
      · rcases List.mem_cons.mp hc with rfl | hc
        · rfl
        · cases hc
end Mine
end
section
open PySem PySem.W PySem.Calls PyProof.Rows
namespace Mine
noncomputable def mqB : List Stmt × List (Str × NameKind) := defOf "make_quoted_pairs" pwB
noncomputable def qsB : List Stmt × List (Str × NameKind) := defOf "quote_string" pwB
noncomputable def qtB : List Stmt × List (Str × NameKind) := defOf "quote" pwB
noncomputable def gl2 : List (Str × Value) := [("str", .type "str"), ("make_quoted_pairs", .ref 51), ("quote_string", .ref 58), ("quote", .ref 766), ("_find_unsafe", .ref 759), ("len", .builtin "len")]
noncomputable def kps : List Addr := [51, 58, 766, 759]
class KG (KK : World → Frag) : Prop where
  gl : ∀ w, gl2.all (globB (KK w)) = true
  kp : ∀ w, (kps.all fun f => keepB (KK w) (.ref f)) = true
  f51 : ∀ w, FnK (KK w) 51 mqB ["value"]
  f58 : ∀ w, FnK (KK w) 58 qsB ["value"]
  f766 : ∀ w, FnK (KK w) 766 qtB ["s"]
  ca : ∀ w v, rdK (KK w) 200 (callAny (.ref 759) ⟨[v], []⟩) = some (.again (.builtin "re.Pattern.search" ⟨[.ref 63, v], []⟩))
  tg : ∀ w x t, rdK (KK w) 200 (Builtin.Re.reTarget "re.Pattern.search" "search" ⟨[.ref 63, .str x t], []⟩) = some (tgOf x t)

noncomputable def kpF (l : List Addr) (f : Addr) : Bool := match l with
  | [] => false
  | a :: r => (match Nat.beq f a with
    | true => true
    | false => kpF r f)
theorem kpF_mem {f : Addr} : ∀ {l : List Addr}, kpF l f = true → f ∈ l
  | a :: r, h => by
    unfold kpF at h
    split at h
    · rename_i e; rw [Nat.eq_of_beq_eq_true e]; exact .head _
    · exact .tail _ (kpF_mem h)
  | [], h => by cases h
noncomputable def X2 (sc : List (Str × NameKind)) (c : Addr → List U → Heap → (U → Heap → Prop) → Prop) : C2 := { sc := sc, gl := fun x => lkS x gl2, cell := fun _ => none, own := false, kp := kpF kps, hint := fun _ _ => none, c := c, lc := fun _ _ _ => False, fr := fun _ _ _ => False, eq := fun _ _ _ _ => False }

section
variable {prog : Program} {w : World} {KK : World → Frag} [KG KK] {n : Nat} {g : Heap}
theorem gl_of {K : Frag} {l : List (Str × Value)} (h : l.all (globB K) = true) : ∀ x v, lkS x l = some v → GlobOk K x v := fun _ _ e => globB_ok (List.all_eq_true.mp h _ (lkS_mem e))
theorem kp_of {K : Frag} {l : List Addr} (h : (l.all fun f => keepB K (.ref f)) = true) : ∀ f, kpF l f = true → keepB K (.ref f) = true := fun f e => List.all_eq_true.mp h f (kpF_mem e)

theorem fn2 {K : Frag} {f : Addr} {fo : Obj} {fd : FuncData} {X : C2} {body : List Stmt} {ps : List Str} {args : List U} {vals : List Value} {k : U → Heap → Prop} (d : Nat)
    (ok : FnOk K f fo fd body X.sc ps) (hg : ∀ x v, X.gl x = some v → GlobOk K x v) (hk : ∀ f, X.kp f = true → keepB K (.ref f) = true) (hc : X.cell = fun _ => none) (hC : SndC2 prog w K n X.c) (h1 : X.lc = fun _ _ _ => False) (h2 : X.fr = fun _ _ _ => False) (h3 : X.eq = fun _ _ _ _ => False)
    (hi : IsAllU args vals) (hl : args.length = ps.length) (vc : (ev2 X d).ss body ⟨ps.reverse.zip args.reverse, g, []⟩ (backU g k)) : Ct prog w K (n + 1) (.ref f) vals g fun g' v => ∃ u, U.Is u v ∧ k u g' := by
  refine enter2 ok hi hl fun A s fb L env hA hE hcl hF h1' R Q E hq => ?_
  have H : Snd2 prog w K X fb L env n A := ⟨hg, hk, ⟨hE, fun x c e => by rw [hc] at e; cases e⟩, hA, hF, hC, fun e σ k h => by rw [h1] at h; exact h.elim, fun e σ k h => by rw [h2] at h; exact h.elim, fun a b g k h => by rw [h3] at h; exact h.elim, fun a b g k h => by rw [h3] at h; exact h.elim⟩
  exact ss2 (ev2_snd H d).2.2 body _ _ vc s Q E h1' R hq

theorem mq_vc (x : Str) (g : Heap) (k : U → Heap → Prop) : (ev2 (X2 mqB.2 fun _ _ _ _ => False) 30).ss mqB.1 ⟨[("value", .str x)], g, []⟩ (backU g k) =
    (x.length + (x.length + 1) * (⟨#[92, 92]⟩ : Str).length ≤ 16777216 ∧ (Txt.replace x ⟨#[92]⟩ ⟨#[92, 92]⟩).length + ((Txt.replace x ⟨#[92]⟩ ⟨#[92, 92]⟩).length + 1) * (⟨#[92, 34]⟩ : Str).length ≤ 16777216 ∧ (Le g g ∧ ∀ g', Le g g' → (∀ p ∈ ([] : Ow), g'.IsList p.1 p.2.toArray) → k (.str (Txt.replace (Txt.replace x ⟨#[92]⟩ ⟨#[92, 92]⟩) ⟨#[34]⟩ ⟨#[92, 34]⟩)) g')) := by kernel_rfl
theorem mq_ct {p : List Nat} {t : Tok} (hz : p.length ≤ 100000) : Ct prog w (KK w) (n + 1) (.ref 51) [.str (ofL p) t] g fun _ v => ∃ t', v = .str (ofL (pairs p)) t' := by
  have key := fn2 (prog := prog) (w := w) (n := n) (g := g) (X := X2 mqB.2 fun _ _ _ _ => False) (args := [.str (ofL p)]) (vals := [.str (ofL p) t]) (k := fun u _ => u = .str (ofL (pairs p))) 30 (KG.f51 (KK := KK) w) (gl_of (KG.gl w)) (kp_of (KG.kp w)) rfl (fun _ _ _ _ h => h.elim) rfl rfl rfl ⟨⟨by rw [ofL_len]; exact Nat.le_trans hz (by decide), t, rfl⟩, trivial⟩ rfl ?_
  · intro A s fb R hA hF h1 S hR
    exact key A s fb R hA hF h1 S fun g' v h' t' ht le S' ⟨u, hu, e⟩ => hR g' v h' t' ht le S' (by subst e; exact hu.2)
  · show (ev2 (X2 mqB.2 fun _ _ _ _ => False) 30).ss mqB.1 ⟨[("value", .str (ofL p))], g, []⟩ _
    rw [mq_vc, replace_ofL, replace_ofL, ofL_len, ofL_len]
    have e1 : (⟨#[92, 92]⟩ : Str).length = 2 := rfl
    have e2 : (⟨#[92, 34]⟩ : Str).length = 2 := rfl
    have e3 : (rpl 92 [92, 92] p).length ≤ 2 * p.length := by
      induction p with
      | nil => simp [rpl]
      | cons c p ih =>
        have e : rpl 92 [92, 92] (c :: p) = (if c = 92 then [92, 92] else [c]) ++ rpl 92 [92, 92] p := by simp [rpl]
        rw [e, List.length_append, List.length_cons]
        have := ih (by simp at hz; omega)
        split <;> simp <;> omega
    rw [e1, e2]
    refine ⟨by omega, ?_, Le.rfl, fun g' _ _ => ?_⟩
    · show (rpl 92 [92, 92] p).length + ((rpl 92 [92, 92] p).length + 1) * 2 ≤ 16777216
      omega
    · show U.str (ofL (rpl 34 [92, 34] (rpl 92 [92, 92] p))) = _
      rw [pairs_eq]
end
end Mine
end
section
open PySem PySem.W PySem.Calls PyProof.Rows
namespace Mine
noncomputable def c1 (P : Prop) (f' : Addr) (a : Str) (r : U) (f : Addr) (as : List U) (g : Heap) (k : U → Heap → Prop) : Prop := match Nat.beq f f' with
  | true => as = [.str a] ∧ P ∧ ∀ g', Le g g' → k r g'
  | false => False
theorem c1_snd {prog : Program} {w : World} {K : Frag} {n : Nat} {P : Prop} {f' : Addr} {a : Str} {r : U} (h : P → ∀ g t, Ct prog w K n (.ref f') [.str a t] g fun _ v => r.Is v) : SndC2 prog w K n (c1 P f' a r) := by
  intro f as g k hc g1 le vals hi A s fb R hA hF h1 S hR
  unfold c1 at hc
  split at hc
  · rename_i e
    rw [Nat.eq_of_beq_eq_true e]
    obtain ⟨rfl, hP, hk⟩ := hc
    obtain ⟨v, rfl, hx, t, rfl⟩ := isAllU_one hi
    exact h hP g1 t A s fb R hA hF h1 S fun g' v h' t' ht le' S' hv => hR g' v h' t' ht le' S' ⟨r, hv, hk g' (le.trans le')⟩
  · exact hc.elim
noncomputable def cR (P : Prop) (f' : Addr) (a : Str) (f : Addr) (as : List U) (g : Heap) (k : U → Heap → Prop) : Prop := match Nat.beq f f' with
  | true => as = [.str a] ∧ P ∧ ∀ g' b, Le g g' → k (.ref b) g'
  | false => False
theorem cR_snd {prog : Program} {w : World} {K : Frag} {n : Nat} {P : Prop} {f' : Addr} {a : Str} (h : P → ∀ g t, Ct prog w K n (.ref f') [.str a t] g fun _ v => ∃ b, v = .ref b) : SndC2 prog w K n (cR P f' a) := by
  intro f as g k hc g1 le vals hi A s fb R hA hF h1 S hR
  unfold cR at hc
  split at hc
  · rename_i e
    rw [Nat.eq_of_beq_eq_true e]
    obtain ⟨rfl, hP, hk⟩ := hc
    obtain ⟨v, rfl, hx, t, rfl⟩ := isAllU_one hi
    exact h hP g1 t A s fb R hA hF h1 S fun g' v h' t' ht le' S' ⟨b, hv⟩ => hR g' v h' t' ht le' S' ⟨.ref b, hv, hk g' b (le.trans le')⟩
  · exact hc.elim
theorem qs_vc (x a r : Str) (g : Heap) (k : U → Heap → Prop) : (ev2 (X2 qsB.2 (c1 True 51 a (.str r))) 30).ss qsB.1 ⟨[("value", .str x)], g, []⟩ (backU g k) =
    (([] : Ow) = [] ∧ [U.str x] = [.str a] ∧ True ∧ ∀ g', Le g g' → ((("" : Str).length + (⟨#[34]⟩ : Str).length ≤ sizeLine ∧ (("" ++ ⟨#[34]⟩ : Str).length + r.length ≤ sizeLine ∧ ((("" ++ ⟨#[34]⟩ : Str) ++ r).length + (⟨#[34]⟩ : Str).length ≤ sizeLine ∧ (Le g g' ∧ ∀ g'', Le g' g'' → (∀ p ∈ ([] : Ow), g''.IsList p.1 p.2.toArray) → k (.str ((("" ++ ⟨#[34]⟩ : Str) ++ r) ++ ⟨#[34]⟩)) g'')))))) := by kernel_rfl
theorem qt_vcn (P : Prop) (x a : Str) (g : Heap) (k : U → Heap → Prop) : (ev2 (X2 qtB.2 (c1 P 759 a .none)) 30).ss qtB.1 ⟨[("s", .str x)], g, []⟩ (backU g k) =
    ((x.length ≠ 0 → (([] : Ow) = [] ∧ [U.str x] = [.str a] ∧ P ∧ ∀ g', Le g g' → (Le g g' ∧ ∀ g'', Le g' g'' → (∀ p ∈ ([] : Ow), g''.IsList p.1 p.2.toArray) → k (.str x) g''))) ∧
     (x.length = 0 → (Le g g ∧ ∀ g', Le g g' → (∀ p ∈ ([] : Ow), g'.IsList p.1 p.2.toArray) → k (.str ⟨#[39, 39]⟩) g'))) := by kernel_rfl
theorem qt_vcs (P : Prop) (x a : Str) (g : Heap) (k : U → Heap → Prop) : (ev2 (X2 qtB.2 (cR P 759 a)) 30).ss qtB.1 ⟨[("s", .str x)], g, []⟩ (backU g k) =
    ((x.length ≠ 0 → (([] : Ow) = [] ∧ [U.str x] = [.str a] ∧ P ∧ ∀ g' (b : Addr), Le g g' → (x.length + (x.length + 1) * (⟨#[39, 34, 39, 34, 39]⟩ : Str).length ≤ 16777216 ∧ ((⟨#[39]⟩ : Str).length + (Txt.replace x ⟨#[39]⟩ ⟨#[39, 34, 39, 34, 39]⟩).length ≤ sizeLine ∧
      (((⟨#[39]⟩ : Str) ++ Txt.replace x ⟨#[39]⟩ ⟨#[39, 34, 39, 34, 39]⟩).length + (⟨#[39]⟩ : Str).length ≤ sizeLine ∧ (Le g g' ∧ ∀ g'', Le g' g'' → (∀ p ∈ ([] : Ow), g''.IsList p.1 p.2.toArray) → k (.str (((⟨#[39]⟩ : Str) ++ Txt.replace x ⟨#[39]⟩ ⟨#[39, 34, 39, 34, 39]⟩) ++ ⟨#[39]⟩)) g'')))))) ∧
     (x.length = 0 → (Le g g ∧ ∀ g', Le g g' → (∀ p ∈ ([] : Ow), g'.IsList p.1 p.2.toArray) → k (.str ⟨#[39, 39]⟩) g'))) := by kernel_rfl
section
variable {prog : Program} {w : World} {KK : World → Frag} [KG KK] {n : Nat} {g : Heap}
theorem fit_ofL {p : List Nat} (hz : p.length ≤ 1000000) : (ofL p).length ≤ sizeLine := by rw [ofL_len]; exact Nat.le_trans hz (by decide)
theorem qs_ct {p : List Nat} {t : Tok} (hz : p.length ≤ 100000) : Ct prog w (KK w) (n + 2) (.ref 58) [.str (ofL p) t] g fun _ v => U.Is (.str (ofL (qs p))) v := by
  have hC : SndC2 prog w (KK w) (n + 1) (c1 True 51 (ofL p) (.str (ofL (pairs p)))) := c1_snd fun _ g t => by
    intro A s fb R hA hF h1 S hR
    exact mq_ct hz A s fb R hA hF h1 S fun g' v h' t' ht le S' hv => hR g' v h' t' ht le S' ⟨fit_ofL (Nat.le_trans (pairs_len p) (by omega)), hv⟩
  have key := fn2 (prog := prog) (w := w) (n := n + 1) (g := g) (X := X2 qsB.2 (c1 True 51 (ofL p) (.str (ofL (pairs p))))) (args := [.str (ofL p)]) (vals := [.str (ofL p) t]) (k := fun u _ => u = .str (ofL (qs p))) 30 (KG.f58 (KK := KK) w) (gl_of (KG.gl w)) (kp_of (KG.kp w)) rfl hC rfl rfl rfl ⟨⟨fit_ofL (by omega), t, rfl⟩, trivial⟩ rfl ?_
  · intro A s fb R hA hF h1 S hR
    exact key A s fb R hA hF h1 S fun g' v h' t' ht le S' ⟨u, hu, e⟩ => hR g' v h' t' ht le S' (by subst e; exact hu)
  · show (ev2 (X2 qsB.2 (c1 True 51 (ofL p) (.str (ofL (pairs p))))) 30).ss qsB.1 ⟨[("value", .str (ofL p))], g, []⟩ _
    rw [qs_vc]
    have hp := pairs_len p
    have e0 : ("" : Str) ++ (⟨#[34]⟩ : Str) = ofL [34] := by apply str_ext; rw [Str.cps_append, Array.toList_append, nil_cps2]; rfl
    have e1 : (⟨#[34]⟩ : Str) = ofL [34] := rfl
    refine ⟨rfl, rfl, trivial, fun g' le => ?_⟩
    rw [e0, e1, ofL_append, ofL_append]
    refine ⟨by decide, ?_, ?_, le, fun g'' _ _ => ?_⟩
    · rw [ofL_len, ofL_len]; exact Nat.le_trans (by simp; omega) (show 1000000 ≤ sizeLine by decide)
    · rw [ofL_len, ofL_len]; exact Nat.le_trans (by simp; omega) (show 1000000 ≤ sizeLine by decide)
    · rfl
theorem qt_ct {p : List Nat} {t : Tok} (hz : p.length ≤ 100000) (hal : ∀ c ∈ p, inAl c = true) : Ct prog w (KK w) (n + 3) (.ref 766) [.str (ofL p) t] g fun _ v => U.Is (.str (ofL (qt p))) v := by
  have hzp : (ofL p).length ≤ sizeLine := fit_ofL (by omega)
  have hlist : (ofL p).cps.toList = p := ofL_toList p
  have e39 : (⟨#[39]⟩ : Str) = ofL [39] := rfl
  have h0 : (ofL p).length = 0 → p = [] := fun e => by rw [ofL_len] at e; exact List.length_eq_zero_iff.mp e
  have emp : (ofL p).length = 0 → ofL (qt p) = (⟨#[39, 39]⟩ : Str) := fun e => by rw [h0 e]; rfl
  cases hall : p.all (· == 97) with
  | true =>
    have hC : SndC2 prog w (KK w) (n + 2) (c1 ((ofL p).length ≠ 0) 759 (ofL p) .none) := c1_snd fun hne g t => by
      intro A s fb R hA hF h1 S hR
      exact search_ct (KG.ca w) (KG.tg w) hne hzp (by rw [hlist]; exact hal) A s fb R hA hF h1 S fun g' v h' t' ht le S' hv => hR g' v h' t' ht le S' (hv.1 (by rw [hlist]; exact hall))
    have key := fn2 (prog := prog) (w := w) (n := n + 2) (g := g) (X := X2 qtB.2 (c1 ((ofL p).length ≠ 0) 759 (ofL p) .none)) (args := [.str (ofL p)]) (vals := [.str (ofL p) t]) (k := fun u _ => u = .str (ofL (qt p))) 30 (KG.f766 (KK := KK) w) (gl_of (KG.gl w)) (kp_of (KG.kp w)) rfl hC rfl rfl rfl ⟨⟨hzp, t, rfl⟩, trivial⟩ rfl ?_
    · intro A s fb R hA hF h1 S hR
      exact key A s fb R hA hF h1 S fun g' v h' t' ht le S' ⟨u, hu, e⟩ => hR g' v h' t' ht le S' (by subst e; exact hu)
    · show (ev2 (X2 qtB.2 (c1 ((ofL p).length ≠ 0) 759 (ofL p) .none)) 30).ss qtB.1 ⟨[("s", .str (ofL p))], g, []⟩ _
      rw [qt_vcn]
      refine ⟨fun hne => ⟨rfl, rfl, hne, fun g' le => ⟨le, fun g'' _ _ => ?_⟩⟩, fun e => ⟨Le.rfl, fun g' _ _ => by rw [emp e]⟩⟩
      have hp : ¬ p = [] := fun e => hne (by rw [ofL_len, e]; rfl)
      show U.str (ofL p) = _
      unfold qt
      rw [if_neg hp, if_pos hall]
  | false =>
    have hC : SndC2 prog w (KK w) (n + 2) (cR ((ofL p).length ≠ 0) 759 (ofL p)) := cR_snd fun hne g t => by
      intro A s fb R hA hF h1 S hR
      exact search_ct (KG.ca w) (KG.tg w) hne hzp (by rw [hlist]; exact hal) A s fb R hA hF h1 S fun g' v h' t' ht le S' hv => hR g' v h' t' ht le S' (hv.2 (by rw [hlist]; exact hall))
    have key := fn2 (prog := prog) (w := w) (n := n + 2) (g := g) (X := X2 qtB.2 (cR ((ofL p).length ≠ 0) 759 (ofL p))) (args := [.str (ofL p)]) (vals := [.str (ofL p) t]) (k := fun u _ => u = .str (ofL (qt p))) 30 (KG.f766 (KK := KK) w) (gl_of (KG.gl w)) (kp_of (KG.kp w)) rfl hC rfl rfl rfl ⟨⟨hzp, t, rfl⟩, trivial⟩ rfl ?_
    · intro A s fb R hA hF h1 S hR
      exact key A s fb R hA hF h1 S fun g' v h' t' ht le S' ⟨u, hu, e⟩ => hR g' v h' t' ht le S' (by subst e; exact hu)
    · show (ev2 (X2 qtB.2 (cR ((ofL p).length ≠ 0) 759 (ofL p))) 30).ss qtB.1 ⟨[("s", .str (ofL p))], g, []⟩ _
      rw [qt_vcs]
      have hs := sqz_len p
      have er : Txt.replace (ofL p) (⟨#[39]⟩ : Str) ⟨#[39, 34, 39, 34, 39]⟩ = ofL (sqz p) := replace_ofL p _ 39
      have e5 : (⟨#[39, 34, 39, 34, 39]⟩ : Str).length = 5 := rfl
      rw [er, e39, ofL_append, ofL_append, e5]
      refine ⟨fun hne => ⟨rfl, rfl, hne, fun g' b le => ⟨?_, ?_, ?_, le, fun g'' _ _ => ?_⟩⟩, fun e => ⟨Le.rfl, fun g' _ _ => by rw [emp e]⟩⟩
      · rw [ofL_len]; omega
      · rw [ofL_len, ofL_len]; exact Nat.le_trans (by simp; omega) (show 1000000 ≤ sizeLine by decide)
      · rw [ofL_len, ofL_len]; exact Nat.le_trans (by simp; omega) (show 1000000 ≤ sizeLine by decide)
      · have hp : ¬ p = [] := fun e => hne (by rw [ofL_len, e]; rfl)
        show U.str (ofL ([39] ++ sqz p ++ [39])) = _
        unfold qt
        rw [if_neg hp, if_neg (by rw [hall]; decide)]
        rfl
end
end Mine
end
section
open PySem PySem.W PySem.Calls PyProof.Rows
namespace Mine
noncomputable def Made (F : Nat → Value → List Addr → Heap → Prop) (out : List Addr) (ys : List Value) (h : Heap) : Prop := ∀ i v, ys[i]? = some v → ∃ fp, (∀ b ∈ out, b ∉ fp) ∧ F i v fp h
theorem Made.keep {F : Nat → Value → List Addr → Heap → Prop} {out : List Addr} {ys : List Value} {h h' : Heap} (hF : ∀ i v fp h h', F i v fp h → (∀ b ∈ fp, ∀ o, h.get? b = some o → h'.get? b = some o) → F i v fp h') (M : Made F out ys h) (k : ∀ b o, b ∉ out → h.get? b = some o → h'.get? b = some o) : Made F out ys h' := by
  intro i v e
  obtain ⟨fp, h1, h2⟩ := M i v e
  exact ⟨fp, h1, hF i v fp h h' h2 fun b hb o e => k b o (fun q => h1 b q hb) e⟩
theorem Made.snoc {F : Nat → Value → List Addr → Heap → Prop} {out : List Addr} {ys : List Value} {h : Heap} (M : Made F out ys h) {y : Value} (hy : ∃ fp, (∀ b ∈ out, b ∉ fp) ∧ F ys.length y fp h) : Made F out (ys ++ [y]) h := by
  intro i v e
  by_cases hi : i < ys.length
  · rw [List.getElem?_append_left hi] at e; exact M i v e
  · rw [List.getElem?_append_right (by omega)] at e
    have : i - ys.length = 0 := by
      cases q : i - ys.length with
      | zero => rfl
      | succ n => rw [q] at e; simp at e
    rw [this] at e
    simp at e
    subst e
    have : i = ys.length := by omega
    subst this
    exact hy

noncomputable def outC (fb : List (Addr × Obj)) (L D C : Addr) (wr vw : List Addr) : List Addr := D :: C :: L :: (fb.map (·.1) ++ (wr ++ vw))
theorem Rep2.away {K : Frag} {fb : List (Addr × Obj)} {L : Addr} {σ : S2} {h h' : Heap} {Z : List Addr} (R : Rep2 K fb L σ h) (k : ∀ b o, b ∉ Z → h.get? b = some o → h'.get? b = some o) (hZ : ∀ b ∈ Z, σ.g.get? b = none ∧ b ≠ L ∧ b ∉ fb.map (·.1) ∧ b ∉ σ.ow.map (·.1)) : Rep2 K fb L σ h' := by
  obtain ⟨m, B, hl⟩ := R
  refine ⟨m, ⟨⟨B.sr.kin, B.sr.nl, B.sr.mg, B.sr.mb, fun b o e => k b o (fun q => by rw [(hZ b q).1] at e; cases e) (B.sr.keep b o e), fun p hp => ?_⟩, B.fL, ?_, B.gL, fun p hp => ?_, B.nd⟩, hl⟩
  · obtain ⟨a1, a2, sl, a3⟩ := B.sr.fb p hp
    exact ⟨a1, a2, sl, k _ _ (fun q => (hZ _ q).2.2.1 (List.mem_map_of_mem hp)) a3⟩
  · obtain ⟨o, es, ep, e, r⟩ := B.ns
    exact ⟨o, es, ep, k _ _ (fun q => (hZ _ q).2.1 rfl) e, r⟩
  · obtain ⟨a1, r⟩ := B.own p hp
    exact ⟨a1.keeps fun o e => k _ o (fun q => (hZ _ q).2.2.2 (List.mem_map_of_mem hp)) e, r⟩
theorem ns_keep {h h' : Heap} {C : Addr} (x : ∃ m, h.Ns C m) (k : ∀ o, h.get? C = some o → h'.get? C = some o) : ∃ m, h'.Ns C m := by
  obtain ⟨m, o, es, ep, e, r⟩ := x
  exact ⟨m, o, es, ep, k _ e, r⟩

section
variable {prog : Program} {w : World} {K : Frag} {fb : List (Addr × Obj)} {L : Addr} {env : Env} {A : Around}

inductive CompInv (K : Frag) (fb : List (Addr × Obj)) (L : Addr) (σ : S2) (s : Shared) (n : Nat) (St : Nat → Heap → Prop) (D C : Addr) (VA : Heap → Prop) (oL : Obj) (M : List Value → Heap → Prop) (k : Nat) (s' : Shared) : Prop
  | mk (h : Heap) (tk : Nat) (ys : List Value) (i : Nat) (es : s' = { s with heap := h, toks := tk }) (ht : 1 ≤ tk) (hi : i ≤ n) (hk : k = n + 1 - i) (st : St i h) (pl : PL h D ys) (len : ys.length = i) (ns : ∃ m, h.Ns C m) (va : VA h) (rep : Rep2 K fb L σ h) (lo : ∃ sl, h.get? L = some { oL with slots := sl }) (md : M ys h)
theorem comp_loop {elt iter : Expr} {x : Str} {px : Pos} {scope : Scope} {pos : Pos} {I D C : Addr} {fpI wr vw : List Addr} {n : Nat} {P : Nat → Value → Prop} {St : Nat → Heap → Prop} {env' : Env} {σ : S2} {s : Shared} {R : Result → Shared → Prop} {F : Nat → Value → List Addr → Heap → Prop} {VA : Heap → Prop} {VI : Value → Heap → Prop}
    (W : Walks prog w A I fpI wr n P St) (hn : n ≤ sizeLine) (h1 : 1 ≤ s.toks) (R0 : Rep2 K fb L σ s.heap) (hF : FrOk A L fb)
    (hFF : ∀ i v fp h h', F i v fp h → (∀ b ∈ fp, ∀ o, h.get? b = some o → h'.get? b = some o) → F i v fp h')
    -- the loop's own: the iterator's, the made list, the variables
    (hwg : ∀ b ∈ wr, σ.g.get? b = none ∧ b ≠ L ∧ b ∉ fb.map (·.1) ∧ b ∉ σ.ow.map (·.1)) (hvg : ∀ b ∈ vw, σ.g.get? b = none ∧ b ≠ L ∧ b ∉ fb.map (·.1) ∧ b ∉ σ.ow.map (·.1) ∧ b ≠ D ∧ b ∉ fpI)
    (hDg : σ.g.get? D = none ∧ D ≠ L ∧ D ∉ fb.map (·.1) ∧ D ∉ σ.ow.map (·.1) ∧ D ∉ fpI ∧ D ≠ C) (hCg : σ.g.get? C = none ∧ C ≠ L ∧ C ∉ fb.map (·.1) ∧ C ∉ σ.ow.map (·.1) ∧ C ∉ fpI)
    (hfp : ∀ b ∈ fpI, b ≠ L ∧ b ∉ fb.map (·.1))
    (st0 : St 0 s.heap) (pl0 : PL s.heap D []) (ns0 : ∃ m, s.heap.Ns C m) (va0 : VA s.heap)
    (vaK : ∀ h h', VA h → (∀ b ∈ vw, b ≠ C → ∀ o, h.get? b = some o → h'.get? b = some o) → VA h') (viA : ∀ v h, VI v h → VA h) (vaE : ∀ h, VA h → ∀ b ∈ vw, b ≠ C → ∃ o, h.get? b = some o) (stE : (∀ i v fp h, F i v fp h → fp = []) ∨ ∀ i h, St i h → ∀ b ∈ wr, ∃ o, h.get? b = some o)
    (sto : ∀ (s : Shared) (v : Value) (Q : Unit → Shared → Prop) (E : Value → Shared → Prop), VA s.heap → (∃ m, s.heap.Ns C m) → (∀ h' t', VI v h' → (∃ m, h'.Ns C m) → (∀ b o, b ∉ vw → s.heap.get? b = some o → h'.get? b = some o) → Q () { s with heap := h', toks := t' }) → wpAny (model prog w) A (storeName env' x v) Q E s)
    (helt : ∀ (s₃ : Shared) (fb' : List (Addr × Obj)) (g1 : Heap) (m₃ : Str → Option Value) (i : Nat) (v : Value), i < n → P i v → Bd K g1 fb' [] C m₃ s₃.heap → VI v s₃.heap → (∀ b ∈ vw, b ∉ fb'.map (·.1)) → (∀ b o, b ≠ C → b ∉ fb'.map (·.1) → s₃.heap.get? b = some o → g1.get? b = some o) → Le σ.g g1 → FrOk A C fb' → 1 ≤ s₃.toks → ∀ Q E,
      (∀ y h' t' g' m', 1 ≤ t' → Le g1 g' → Bd K g' fb' [] C m' h' → (∃ fp, (∀ b ∈ fp, g1.get? b = none ∧ b ≠ C ∧ b ∉ fb'.map (·.1)) ∧ F i y fp g') → Q y { s₃ with heap := h', toks := t' }) → wpAny (model prog w) A (eval elt env') Q E s₃)
    (hR : ∀ h' tk ys, 1 ≤ tk → Rep2 K fb L σ h' → (∃ m, h'.Ns C m) → PL h' D ys → ys.length = n → Made F (outC fb L D C wr vw) ys h' → R (.ok .next) { s with heap := h', toks := tk }) :
    codeAny (model prog w) A (.compLoop (.ListComp elt [⟨.Name x px, iter, [], 0⟩] scope pos) 0 (.ref I) (.ref D) env') R s := by
  obtain ⟨m0, B0, hloc⟩ := R0
  obtain ⟨oL, esL, epL, hoL, hdL, hkL, hfL⟩ := B0.ns
  have nfL : ∀ vs, oL.data ≠ .fields vs := fun vs q => by rw [hdL] at q; cases q
  -- what holds between the turns
  refine codeAny_compLoop_list (CompInv K fb L σ s n St D C VA oL (Made F (outC fb L D C wr vw))) ?_ (n + 1)
    ⟨s.heap, s.toks, [], 0, rfl, h1, Nat.zero_le _, rfl, st0, pl0, rfl, ns0, va0, ⟨m0, B0, hloc⟩, ⟨oL.slots, hoL⟩, fun i v e => by simp at e⟩
  rintro k s' ⟨h, tk, ys, i, rfl, htk, hi, rfl, hst, hpl, hlen, hns, hva, hrep, hL, hM⟩
  have hwI : ∀ b ∈ wr, b ∈ fpI := W.sub
  have Dw : D ∉ wr := fun q => hDg.2.2.2.2.1 (hwI D q)
  have Cw : C ∉ wr := fun q => hCg.2.2.2.2 (hwI C q)
  have Lw : L ∉ wr := fun q => (hwg L q).2.1 rfl
  have Dv : D ∉ vw := fun q => (hvg D q).2.2.2.2.1 rfl
  have Lv : L ∉ vw := fun q => (hvg L q).2.1 rfl
  have outD : D ∈ outC fb L D C wr vw := .head _
  have outC' : C ∈ outC fb L D C wr vw := .tail _ (.head _)
  have outL : L ∈ outC fb L D C wr vw := .tail _ (.tail _ (.head _))
  have outf : ∀ b ∈ fb.map (·.1), b ∈ outC fb L D C wr vw := fun b hb => .tail _ (.tail _ (.tail _ (List.mem_append_left _ hb)))
  have outw : ∀ b ∈ wr, b ∈ outC fb L D C wr vw := fun b hb => .tail _ (.tail _ (.tail _ (List.mem_append_right _ (List.mem_append_left _ hb))))
  have outv : ∀ b ∈ vw, b ∈ outC fb L D C wr vw := fun b hb => .tail _ (.tail _ (.tail _ (List.mem_append_right _ (List.mem_append_right _ hb))))
  obtain ⟨sl, hL⟩ := hL
  by_cases hlt : i < n
  · refine wpAny_with_toks (n := 1) htk (W.item i _ _ _ hlt hst fun v h2 tk2 hP hst2 hk2 htk2 => ?_)
    have rep2' := hrep.away hk2 hwg
    have ns2 := ns_keep hns fun o e => hk2 C o Cw e
    have va2 := vaK _ _ hva fun b hb _ o e => hk2 b o (fun q => (hvg b hb).2.2.2.2.2 (hwI b q)) e
    refine wpAny_assign_Name (wpAny_with_toks (n := 1) htk2 (sto _ v _ _ va2 ns2 fun h3 t3 vi3 ns3 hk3 ht3 => ?_))
    have rep3 := rep2'.away hk3 fun b hb => ⟨(hvg b hb).1, (hvg b hb).2.1, (hvg b hb).2.2.1, (hvg b hb).2.2.2.1⟩
    have st3 : St (i + 1) h3 := W.frame _ _ _ hst2 fun b hb o e => hk3 b o (fun q => (hvg b q).2.2.2.2.2 hb) e
    have pl3 : PL h3 D ys := hpl.keeps fun o e => hk3 D o Dv (hk2 D o Dw e)
    have L3 : h3.get? L = some { oL with slots := sl } := hk3 L _ Lv (hk2 L _ Lw hL)
    have M3 : Made F (outC fb L D C wr vw) ys h3 := hM.keep hFF fun b o hb e => hk3 b o (fun q => hb (outv b q)) (hk2 b o (fun q => hb (outw b q)) e)
    obtain ⟨m3, hm3⟩ := id ns3
    obtain ⟨mo, Bo, hlo⟩ := id rep3
    -- the element's base and frames
    have hidg : ∀ a ∈ C :: L :: fb.map (·.1), σ.g.get? a = none := by
      intro a ha
      rcases List.mem_cons.mp ha with rfl | ha
      · exact hCg.1
      · rcases List.mem_cons.mp ha with rfl | ha
        · exact Bo.gL
        · obtain ⟨p, hp, rfl⟩ := List.mem_map.mp ha; exact (Bo.sr.fb p hp).1
    have le1 : Le σ.g (hideAll h3 (C :: L :: fb.map (·.1))) := fun b o e => hideAll_get _ (Bo.sr.keep b o e) (not_mem_of_none hidg e)
    have B3 : Bd K (hideAll h3 (C :: L :: fb.map (·.1))) ((L, { oL with slots := sl }) :: fb) [] C m3 h3 := by
      refine ⟨⟨Bo.sr.kin.keeps le1, Bo.sr.nl.keeps le1, let ⟨a, b⟩ := Bo.sr.mg; ⟨a, b.keeps le1⟩, let ⟨a, b⟩ := Bo.sr.mb; ⟨a, b.keeps le1⟩, fun b o e => of_hideAll _ e, fun p hp => ?_⟩, ?_, hm3, hideAll_none _ (.head _), fun p hp => (nomatch hp), List.nodup_nil⟩
      · rcases List.mem_cons.mp hp with rfl | hp
        · exact ⟨hideAll_none _ (.tail _ (.head _)), nfL, sl, L3⟩
        · exact ⟨hideAll_none _ (.tail _ (.tail _ (List.mem_map_of_mem hp))), (Bo.sr.fb p hp).2⟩
      · intro q
        rcases List.mem_cons.mp q with q | q
        · exact hCg.2.1 q
        · exact hCg.2.2.1 q
    have fr3 : FrOk A C ((L, { oL with slots := sl }) :: fb) := by
      obtain ⟨frs, e1, e2⟩ := hF
      refine ⟨frs, e1, fun e he => ?_⟩
      obtain ⟨a1, a, a2, a3⟩ := e2 e he
      refine ⟨a1, a, a2, .inr ?_⟩
      rcases a3 with rfl | a3
      · exact .head _
      · exact .tail _ a3
    have in1 : ∀ b o, b ≠ C → b ≠ L → b ∉ fb.map (·.1) → h3.get? b = some o → (hideAll h3 (C :: L :: fb.map (·.1))).get? b = some o := fun b o n1 n2 n3 e => hideAll_get _ e fun q => by
      rcases List.mem_cons.mp q with q | q
      · exact n1 q
      · rcases List.mem_cons.mp q with q | q
        · exact n2 q
        · exact n3 q
    refine helt { s with heap := h3, toks := t3 } _ _ m3 i v hlt hP B3 vi3 (fun b hb q => by rcases List.mem_cons.mp q with q | q; exact (hvg b hb).2.1 q; exact (hvg b hb).2.2.1 q) (fun b o n1 n2 e => in1 b o n1 (fun q => n2 (q ▸ .head _)) (fun q => n2 (.tail _ q)) e) le1 fr3 ht3 _ _ fun y h4 t4 g' m4 ht4 leg B4 hfp4 => ?_
    have up : ∀ b o, b ≠ C → b ≠ L → b ∉ fb.map (·.1) → h3.get? b = some o → h4.get? b = some o := fun b o n1 n2 n3 e => B4.sr.keep _ _ (leg _ _ (in1 b o n1 n2 n3 e))
    obtain ⟨_, _, sl4, L4⟩ := B4.sr.fb _ (.head _)
    have pl4 : PL h4 D ys := pl3.keeps fun o e => up D o hDg.2.2.2.2.2 hDg.2.1 hDg.2.2.1 e
    have hD4 : ys.length + 1 ≤ sizeLine := by omega
    refine append_pl pl4 hD4 fun h5 pl5 hk5 => ?_
    refine ⟨n + 1 - (i + 1), by omega, h5, t4, ys ++ [y], i + 1, rfl, ht4, hlt, rfl, ?_, pl5, by simp [hlen], ?_, ?_, ?_, ⟨sl4, ?_⟩, ?_⟩
    · exact W.frame _ _ _ st3 fun b hb o e => hk5 b o (fun q => hDg.2.2.2.2.1 (q ▸ hb)) (up b o (fun q => hCg.2.2.2.2 (q ▸ hb)) (hfp b hb).1 (hfp b hb).2 e)
    · exact ns_keep ⟨m4, B4.ns⟩ fun o e => hk5 C o (Ne.symm hDg.2.2.2.2.2) e
    · exact vaK _ _ (viA _ _ vi3) fun b hb hc o e => hk5 b o (fun q => (hvg b hb).2.2.2.2.1 q) (up b o hc (hvg b hb).2.1 (hvg b hb).2.2.1 e)
    · obtain ⟨o, es, ep, e, hd, r⟩ := Bo.ns
      rw [L3] at e
      cases e
      refine Rep2.away (h := h4) (Z := [D]) ⟨mo, ⟨⟨Bo.sr.kin, Bo.sr.nl, Bo.sr.mg, Bo.sr.mb, (le1.trans leg).trans B4.sr.keep, fun p hp => ⟨(Bo.sr.fb p hp).1, (Bo.sr.fb p hp).2.1, (B4.sr.fb p (.tail _ hp)).2.2⟩⟩, Bo.fL, ⟨_, es, ep, L4, hd, r⟩, Bo.gL, fun p hp => ?_, Bo.nd⟩, hlo⟩ (fun b o hb e => hk5 b o (fun q => hb (q ▸ .head _)) e) ?_
      · obtain ⟨a1, a2, a3, a4⟩ := Bo.own p hp
        exact ⟨a1.keeps fun o e => up _ o (fun q => hCg.2.2.2.1 (q ▸ List.mem_map_of_mem hp)) a3 a4 e, a2, a3, a4⟩
      · intro b hb
        rcases List.mem_cons.mp hb with rfl | hb
        · exact ⟨hDg.1, hDg.2.1, hDg.2.2.1, hDg.2.2.2.1⟩
        · cases hb
    · exact hk5 L _ (Ne.symm hDg.2.1) L4
    · refine Made.snoc (M3.keep hFF fun b o hb e => hk5 b o (fun q => hb (q ▸ outD)) (up b o (fun q => hb (q ▸ outC')) (fun q => hb (q ▸ outL)) (fun q => hb (outf b q)) e)) ?_
      obtain ⟨fp, f1, f2⟩ := hfp4
      have hex : ∀ b ∈ outC fb L D C wr vw, b ∉ fp := by
        intro b hb q
        obtain ⟨q1, q2, q3⟩ := f1 b q
        have ne : ∀ o, h3.get? b = some o → False := fun o e => by
          rw [in1 b o q2 (fun z => q3 (z ▸ .head _)) (fun z => q3 (.tail _ z)) e] at q1; cases q1
        rcases List.mem_cons.mp hb with rfl | hb
        · obtain ⟨c, e⟩ := pl3; exact ne _ e
        · rcases List.mem_cons.mp hb with rfl | hb
          · exact q2 rfl
          · rcases List.mem_cons.mp hb with rfl | hb
            · exact q3 (.head _)
            · rcases List.mem_append.mp hb with hb | hb
              · exact q3 (.tail _ hb)
              · rcases List.mem_append.mp hb with hb | hb
                · rcases stE with stE | stE
                  · rw [stE _ _ _ _ f2] at q; cases q
                  · obtain ⟨o, e⟩ := stE _ _ st3 b hb; exact ne o e
                · obtain ⟨o, e⟩ := vaE _ (viA _ _ vi3) b hb q2; exact ne o e
      refine ⟨fp, hex, ?_⟩
      rw [hlen]
      exact hFF _ _ _ _ _ f2 fun b hb o e => hk5 b o (fun q => hex D outD (q ▸ hb)) (B4.sr.keep _ _ e)
  · have hin : i = n := by omega
    subst hin
    refine wpAny_with_toks (n := 1) htk (W.done _ _ _ hst fun h2 tk2 hk2 htk2 => ?_)
    exact hR h2 tk2 ys htk2 (hrep.away hk2 hwg) (ns_keep hns fun o e => hk2 C o Cw e) (hpl.keeps fun o e => hk2 D o Dw e) hlen (hM.keep hFF fun b o hb e => hk2 b o (fun q => hb (outw b q)) e)
end
end Mine
end
section
open PySem PySem.W PySem.Calls PyProof.Rows
namespace Mine
section
variable {prog : Program} {w : World} {K : Frag} {fb : List (Addr × Obj)} {L : Addr} {env : Env} {A : Around} {E : Value → Shared → Prop}

noncomputable def EltOk (prog : Program) (w : World) (K : Frag) (A : Around) (elt : Expr) (env' : Env) (σ : S2) (C : Addr) (n : Nat) (P : Nat → Value → Prop) (VI : Value → Heap → Prop) (vw : List Addr) (F : Nat → Value → List Addr → Heap → Prop) : Prop :=
  ∀ (s₃ : Shared) (fb' : List (Addr × Obj)) (g1 : Heap) (m₃ : Str → Option Value) (i : Nat) (v : Value), i < n → P i v → Bd K g1 fb' [] C m₃ s₃.heap → VI v s₃.heap → (∀ b ∈ vw, b ∉ fb'.map (·.1)) → (∀ b o, b ≠ C → b ∉ fb'.map (·.1) → s₃.heap.get? b = some o → g1.get? b = some o) → Le σ.g g1 → FrOk A C fb' → 1 ≤ s₃.toks → ∀ Q E,
      (∀ y h' t' g' m', 1 ≤ t' → Le g1 g' → Bd K g' fb' [] C m' h' → (∃ fp, (∀ b ∈ fp, g1.get? b = none ∧ b ≠ C ∧ b ∉ fb'.map (·.1)) ∧ F i y fp g') → Q y { s₃ with heap := h', toks := t' }) → wpAny (model prog w) A (eval elt env') Q E s₃
structure ItOk (prog : Program) (w : World) (A : Around) (fb : List (Addr × Obj)) (L : Addr) (σ : S2) (h : Heap) (I : Addr) (fpI wr : List Addr) (n : Nat) (P : Nat → Value → Prop) (St : Nat → Heap → Prop) : Prop where
  W : Walks prog w A I fpI wr n P St
  n : n ≤ sizeLine
  st : St 0 h
  lt : ∀ b ∈ fpI, b < h.objs.size
  wg : ∀ b ∈ wr, σ.g.get? b = none ∧ b ≠ L ∧ b ∉ fb.map (·.1) ∧ b ∉ σ.ow.map (·.1)
  fp : ∀ b ∈ fpI, b ≠ L ∧ b ∉ fb.map (·.1)

theorem fresh4 {σ : S2} {h : Heap} (R : Rep2 K fb L σ h) {a : Addr} (ha : h.get? a = none) : σ.g.get? a = none ∧ a ≠ L ∧ a ∉ fb.map (·.1) ∧ a ∉ σ.ow.map (·.1) := by
  obtain ⟨m, B, _⟩ := R
  have f := B.fresh ha
  exact ⟨B.g_none ha, fun q => f (q ▸ .head _), fun q => f (.tail _ (List.mem_append_left _ q)), fun q => f (.tail _ (List.mem_append_right _ q))⟩

theorem comp_locG {elt iter : Expr} {x : Str} {px : Pos} {scope : Scope} {pos : Pos} {cl : List (Str × Addr)} {I : Addr} {fpI wr : List Addr} {n : Nat} {P : Nat → Value → Prop} {St : Nat → Heap → Prop} {σ : S2} {s : Shared} {RR : Value → Addr → Result → Shared → Prop} {F : Nat → Value → List Addr → Heap → Prop}
    (hkind : scope.kind = .function) (hcell : ∀ y ∈ scope.names, y.2 ≠ .cell) (hx : scope.names.lookup x = some .local)
    (h1 : 1 ≤ s.toks) (R0 : Rep2 K fb L σ s.heap) (hF : FrOk A L fb) (T : ItOk prog w A fb L σ s.heap I fpI wr n P St)
    (hFF : ∀ i v fp h h', F i v fp h → (∀ b ∈ fp, ∀ o, h.get? b = some o → h'.get? b = some o) → F i v fp h') (stE : (∀ i v fp h, F i v fp h → fp = []) ∨ ∀ i h, St i h → ∀ b ∈ wr, ∃ o, h.get? b = some o)
    (helt : ∀ C, EltOk prog w K A elt (compEnvC scope cl C env) σ C n P (fun v h => ∃ m, h.Ns C m ∧ m x = some v) [C] F)
    (hR : ∀ D C h' tk ys, s.heap.get? D = none → s.heap.get? C = none → D ≠ C → 1 ≤ tk → Rep2 K fb L σ h' → (∃ m, h'.Ns C m) → PL h' D ys → ys.length = n → Made F (outC fb L D C wr [C]) ys h' → RR (.ref D) C (.ok .next) { s with heap := h', toks := tk }) :
    wpAny (model prog w) A (newList []) (fun acc s₃ => wpAny (model prog w) A (newFunctionEnv scope env.globals cl [] env.qual none .none (some env)) (fun cenv s₄ =>
      codeAny (model prog w) A (.compStart (.ListComp elt [⟨.Name x px, iter, [], 0⟩] scope pos) 0 (.ref I) acc { cenv with scope := relabel scope env }) (RR acc cenv.locals) s₄) E s₃) E s := by
  refine wpAny_newObj_type (wpAny_newFunctionEnv hcell (by intro y hy; simp at hy) (fun h₁ hns₁ hsb₁ => ?_) hkind)
  dsimp only at hns₁ hsb₁ ⊢
  generalize hH2 : s.heap.push { cls := .type "list", dict := none, data := .seq ([] : List Value).toArray } = H2 at hns₁ hsb₁ ⊢
  have hC : H2.objs.size = s.heap.objs.size + 1 := by rw [← hH2, Heap.size_push]
  have hDC : s.heap.objs.size ≠ H2.objs.size := by rw [hC]; exact Nat.ne_of_lt (Nat.lt_succ_self _)
  have fD : s.heap.get? s.heap.objs.size = none := Heap.get?_none_of_le (Nat.le_refl _)
  have fC : s.heap.get? H2.objs.size = none := Heap.get?_none_of_le (by rw [hC]; exact Nat.le_succ _)
  have old : ∀ b o, s.heap.get? b = some o → h₁.get? b = some o := fun b o e => hsb₁.extBut b o (fun q => by have := Heap.lt_size e; rw [q, hC] at this; exact Nat.lt_irrefl _ (Nat.lt_of_succ_lt this)) (Heap.get?_push_of_some _ (hH2 ▸ Heap.get?_push_of_some _ e))
  have hacc : PL h₁ s.heap.objs.size [] := ⟨0, hsb₁.extBut _ _ hDC (Heap.get?_push_of_some _ (hH2 ▸ Heap.get?_push_size _ rfl))⟩
  have hst₁ : St 0 h₁ := T.W.frame _ _ _ T.st fun b _ o e => old b o e
  have d4 := fresh4 R0 fD
  have c4 := fresh4 R0 fC
  have Df : s.heap.objs.size ∉ fpI := fun q => Nat.lt_irrefl _ (T.lt _ q)
  have Cf : H2.objs.size ∉ fpI := fun q => by have := T.lt _ q; rw [hC] at this; exact Nat.lt_irrefl _ (Nat.lt_of_succ_lt this)
  have hlk : Env.kindOf (compEnvC scope cl H2.objs.size env) x = some .local := lookup_relabel_local hx
  have loop : ∀ s₃ : Shared, s₃ = { s with heap := h₁, toks := s.toks + ([] : List (Str × Value)).length } →
      codeAny (model prog w) A (.compLoop (.ListComp elt [⟨.Name x px, iter, [], 0⟩] scope pos) 0 (.ref I) (.ref s.heap.objs.size) (compEnvC scope cl H2.objs.size env)) (RR (.ref s.heap.objs.size) H2.objs.size) s₃ := by
    rintro s₃ rfl
    refine comp_loop (C := H2.objs.size) (vw := [H2.objs.size]) (VA := fun _ => True) (VI := fun v h => ∃ m, h.Ns H2.objs.size m ∧ m x = some v) T.W T.n (by simpa using h1) (R0.more old) hF hFF T.wg (fun b hb => ?_) ⟨d4.1, d4.2.1, d4.2.2.1, d4.2.2.2, Df, hDC⟩ ⟨c4.1, c4.2.1, c4.2.2.1, c4.2.2.2, Cf⟩ T.fp hst₁ hacc ⟨_, hns₁⟩ trivial (fun _ _ _ _ => trivial) (fun _ _ _ => trivial) (fun h _ b hb hc => ?_) stE ?_ (helt _) ?_
    · rcases List.mem_cons.mp hb with rfl | hb
      · exact ⟨c4.1, c4.2.1, c4.2.2.1, c4.2.2.2, Ne.symm hDC, Cf⟩
      · cases hb
    · rcases List.mem_cons.mp hb with rfl | hb
      · exact absurd rfl hc
      · cases hb
    · intro s' v Q' E' _ ⟨m, hm⟩ hq
      refine wpAny_storeName_local hlk hm (fun h' hn hs => ?_) (by simp [compEnvC, relabel, hkind])
      exact hq h' _ ⟨_, hn, by simp⟩ ⟨_, hn⟩ fun b o hb e => hs.extBut b o (fun q => hb (q ▸ .head _)) e
    · intro h' tk ys htk R' hns hpl hlen hM
      exact hR _ _ h' tk ys fD fC hDC htk R' hns hpl hlen hM
  exact codeAny_compStart_list (loop _ rfl) (T.W.self 0 _ _ _ hst₁ (loop _ rfl))

theorem comp_loc {elt iter : Expr} {x : Str} {px : Pos} {scope : Scope} {pos : Pos} {cl : List (Str × Addr)} {I : Addr} {fpI wr : List Addr} {n : Nat} {P : Nat → Value → Prop} {St : Nat → Heap → Prop} {σ : S2} {s : Shared} {Q : Value → Shared → Prop} {F : Nat → Value → List Addr → Heap → Prop}
    (hkind : scope.kind = .function) (hcell : ∀ y ∈ scope.names, y.2 ≠ .cell) (hx : scope.names.lookup x = some .local)
    (h1 : 1 ≤ s.toks) (R0 : Rep2 K fb L σ s.heap) (hF : FrOk A L fb) (T : ItOk prog w A fb L σ s.heap I fpI wr n P St)
    (hFF : ∀ i v fp h h', F i v fp h → (∀ b ∈ fp, ∀ o, h.get? b = some o → h'.get? b = some o) → F i v fp h') (stE : (∀ i v fp h, F i v fp h → fp = []) ∨ ∀ i h, St i h → ∀ b ∈ wr, ∃ o, h.get? b = some o)
    (helt : ∀ C, EltOk prog w K A elt (compEnvC scope cl C env) σ C n P (fun v h => ∃ m, h.Ns C m ∧ m x = some v) [C] F)
    (hR : ∀ D C h' tk ys, s.heap.get? D = none → 1 ≤ tk → Rep2 K fb L σ h' → PL h' D ys → ys.length = n → Made F (outC fb L D C wr [C]) ys h' → Q (.ref D) { s with heap := h', toks := tk }) :
    wpAny (model prog w) A (newList []) (fun acc s₃ => wpAny (model prog w) A (newFunctionEnv scope env.globals cl [] env.qual none .none (some env)) (fun cenv s₄ =>
      codeAny (model prog w) A (.compStart (.ListComp elt [⟨.Name x px, iter, [], 0⟩] scope pos) 0 (.ref I) acc { cenv with scope := relabel scope env }) (compPost (model prog w) A E none Q acc cenv.locals) s₄) E s₃) E s := by
  refine comp_locG (RR := fun acc C => compPost (model prog w) A E none Q acc C) hkind hcell hx h1 R0 hF T hFF stE helt ?_
  intro D C h' tk ys fD fC hDC htk R' hns hpl hlen hM
  obtain ⟨m, hm⟩ := hns
  refine ⟨m, hm, fun h'' hs => ?_⟩
  have kp : ∀ b o, b ∉ [C] → h'.get? b = some o → h''.get? b = some o := fun b o hb e => hs.extBut b o (fun q => hb (q ▸ .head _)) e
  refine hR _ _ h'' tk ys fD htk (R'.away kp fun b hb => ?_) (hpl.keeps fun o e => kp _ o (fun q => by rcases List.mem_cons.mp q with q | q; exact hDC q; cases q) e) hlen (hM.keep hFF fun b o hb e => kp b o (fun q => hb (by rcases List.mem_cons.mp q with rfl | q; exact .tail _ (.head _); cases q)) e)
  rcases List.mem_cons.mp hb with rfl | hb
  · exact fresh4 R0 fC
  · cases hb
end
end Mine
end
section
open PySem PySem.W PySem.Calls PyProof.Rows
namespace Mine
theorem ns_fun {h : Heap} {a : Addr} {m m' : Str → Option Value} (x : h.Ns a m) (y : h.Ns a m') (n : Str) : m n = m' n := by
  obtain ⟨o, es, ep, e, d, _, f⟩ := x
  obtain ⟨o', es', ep', e', d', _, f'⟩ := y
  rw [e] at e'; cases e'
  rw [d] at d'; cases d'
  rw [← f, ← f']
theorem relabel_names {scope : Scope} {env : Env} (h : ∀ y ∈ scope.names, y.2 ≠ .free) : (relabel scope env).names = scope.names := by
  show scope.names.map _ = _
  refine map_eq_self fun y hy => ?_
  obtain ⟨n, k⟩ := y
  have : (k == NameKind.free) = false := by simpa using h _ hy
  simp [this]
section
variable {prog : Program} {w : World} {K : Frag} {fb : List (Addr × Obj)} {L : Addr} {env : Env} {A : Around} {E : Value → Shared → Prop} {n : Nat}

theorem elt_ev {elt : Expr} {env' : Env} {XE : C2} {σ : S2} {C : Addr} {N : Nat} {P : Nat → Value → Prop} {G : Nat → Value → Prop} {vw : List Addr} (d : Nat) (VI : Value → Heap → Prop) (lc : Value → U → Heap → Ls)
    (hXE : ∀ fb', FrOk A C fb' → Snd2 prog w K XE fb' C env' n A)
    (hloc : ∀ v u h g1 m fb', VI v h → u.Is v → Bd K g1 fb' [] C m h → (∀ b o, b ≠ C → b ∉ fb'.map (·.1) → h.get? b = some o → g1.get? b = some o) → Rep2 K fb' C ⟨lc v u g1, g1, []⟩ h)
    (vc : ∀ i v, i < N → P i v → ∃ u, U.Is u v ∧ ∀ g1 h, Le σ.g g1 → VI v h → (∀ b o, b ≠ C → VI v h → g1.get? b = some o → h.get? b = some o) → (ev2 XE d).e elt ⟨lc v u g1, g1, []⟩ fun r σ' => Le g1 σ'.g ∧ σ'.ow = [] ∧ ∀ y, r.Is y → G i y) :
    EltOk prog w K A elt env' σ C N P VI vw (fun i y fp _ => fp = [] ∧ G i y) := by
  intro s₃ fb' g1 m₃ i v hi hP B hv _ hin le hF h1 Q E hq
  obtain ⟨u, hu, hvc⟩ := vc i v hi hP
  have H := hXE fb' hF
  refine (ev2_snd H d).1 elt _ _ (hvc g1 s₃.heap le hv fun b o _ _ e => B.sr.keep b o e) s₃ Q E h1 (hloc v u _ g1 m₃ fb' hv hu B hin) fun y r σ' h' t' ht' R' hy ⟨l1, l2, l3⟩ => ?_
  obtain ⟨m', B', _⟩ := R'
  exact hq y h' t' σ'.g m' ht' l1 (by rw [l2] at B'; exact B') ⟨[], fun b hb => (nomatch hb), rfl, l3 y hy⟩

inductive LcIt (prog : Program) (w : World) (K : Frag) (A : Around) (fb : List (Addr × Obj)) (L : Addr) (σ : S2) (s₂ : Shared) (it : Value) (el : (Nat → Value → Prop) → Value → Nat → Prop) (Q : Value → Shared → Prop) : Prop
  | mk (I : Addr) (fpI wr : List Addr) (N : Nat) (P : Nat → Value → Prop) (St : Nat → Heap → Prop) (G : Nat → Value → Prop) (e2 : it = .ref I) (h1 : 1 ≤ s₂.toks) (R : Rep2 K fb L σ s₂.heap) (T : ItOk prog w A fb L σ s₂.heap I fpI wr N P St)
      (tn : ∀ i v, i < N → P i v → el G v i) (fn : ∀ D h' tk ys, s₂.heap.get? D = none → 1 ≤ tk → Rep2 K fb L σ h' → PL h' D ys → ys.length = N → (∀ i v, ys[i]? = some v → G i v) → Q (.ref D) { s₂ with heap := h', toks := tk })
theorem lc_plain {elt iter : Expr} {x : Str} {px : Pos} {scope : Scope} {pos : Pos} {cl : List (Str × Addr)} {XE : C2} {σ : S2} {s : Shared} {Q : Value → Shared → Prop} (d : Nat)
    (hF : FrOk A L fb) (hclos : closureFor scope env = pure cl) (hkind : scope.kind = .function) (hnames : ∀ y ∈ scope.names, y.2 = .local → scope.names.lookup y.1 = some .local) (hcell : ∀ y ∈ scope.names, y.2 ≠ .cell) (hx : scope.names.lookup x = some .local) (hfs : ∀ x, foldedSetIterable iter env x = pure x)
    (hXE : ∀ C fb', FrOk A C fb' → Snd2 prog w K XE fb' C (compEnvC scope cl C env) n A)
    (hit : wpAny (model prog w) A (eval iter env) (fun xv s₁ => wpAny (model prog w) A (pyIter xv) (fun it s₂ => LcIt prog w K A fb L σ s₂ it (fun G v i => ∃ u, U.Is u v ∧ ∀ g1, Le σ.g g1 → (ev2 XE d).e elt ⟨[(x, u)], g1, []⟩ fun r σ' => Le g1 σ'.g ∧ σ'.ow = [] ∧ ∀ y, r.Is y → G i y) Q) E s₁) E s) :
    wpAny (model prog w) A (eval (.ListComp elt [⟨.Name x px, iter, [], 0⟩] scope pos) env) Q E s := by
  rw [eval_ListComp]
  refine wpAny_comprehension_free (use := none) rfl hfs hclos hkind hnames (wpAny_mono hit (fun xv s₁ h₁ => wpAny_mono h₁ (fun it s₂ h₂ => ?_) fun _ _ e => e) fun _ _ e => e)
  obtain ⟨I, fpI, wr, N, P, St, G, rfl, h1, R, T, hel, hq⟩ := h₂
  refine comp_loc (F := fun i y fp _ => fp = [] ∧ G i y) hkind hcell hx h1 R hF T (fun i v fp h h' q _ => q) (.inl fun i v fp h q => q.1) (fun C => ?_) fun D C h' tk ys hD htk R' hpl hlen hM => ?_
  · refine elt_ev d _ (fun _ u _ => [(x, u)]) (hXE C) (fun v u h g1 m fb' hv hu B _ => ?_) fun i v hi hP => ?_
    · obtain ⟨m', hm', e⟩ := hv
      refine ⟨m, B, fun y b hb => ?_⟩
      have hb' : (match decide (x = y) with | true => some u | false => none) = some b := hb
      by_cases q : x = y
      · subst q
        simp only [decide_true] at hb'
        cases hb'
        exact ⟨v, (ns_fun B.ns hm' _).trans e, hu⟩
      · simp [q] at hb'
    · obtain ⟨u, hu, hv⟩ := hel i v hi hP
      exact ⟨u, hu, fun g1 h le _ _ => hv g1 le⟩
  · exact hq D h' tk ys hD htk R' hpl hlen fun i v e => by obtain ⟨fp, _, _, g⟩ := hM i v e; exact g

theorem it_list {σ : S2} {s : Shared} {a : Addr} {vs : List Value} (hA : A.handled = none) (R : Rep2 K fb L σ s.heap) (hl : σ.g.IsList a vs.toArray) (hz : vs.length ≤ sizeLine) :
    let h' := s.heap.push { cls := .type "list_iterator", data := .fields #[.ref a, .int 0 0] }
    Rep2 K fb L σ h' ∧ ItOk prog w A fb L σ h' s.heap.objs.size [s.heap.objs.size, a] [s.heap.objs.size] vs.length (fun i v => vs[i]? = some v) (fun i h => h.IsListIter s.heap.objs.size a i ∧ h.IsList a vs.toArray) := by
  intro h'
  have le : Le s.heap h' := fun b o e => Heap.get?_push_of_some _ e
  obtain ⟨m, B, hloc⟩ := id R
  obtain ⟨o, ho, r⟩ := id hl
  have hla : s.heap.IsList a vs.toArray := ⟨o, B.sr.keep _ _ ho, r⟩
  have fI : s.heap.get? s.heap.objs.size = none := Heap.get?_none_of_le (Nat.le_refl _)
  have alt : a < s.heap.objs.size := Heap.lt_size (B.sr.keep _ _ ho)
  have W := Walks.list (prog := prog) (w := w) (A := A) hA s.heap.objs.size a (Nat.ne_of_lt alt) vs.toArray
  refine ⟨R.more le, ⟨?_, hz, ⟨⟨_, Heap.get?_push_size _ rfl, rfl, rfl⟩, hla.push _⟩, fun b hb => ?_, fun b hb => ?_, fun b hb => ?_⟩⟩
  · have e : vs.toArray.size = vs.length := by simp
    rw [e] at W
    exact ⟨W.sub, W.frame, fun i s Q E hi st hQ => W.item i s Q E hi st fun v h' tk hp => hQ v h' tk (by simpa using hp), W.done, W.self⟩
  · rcases List.mem_cons.mp hb with rfl | hb
    · show _ < (s.heap.push _).objs.size; rw [Heap.size_push]; exact Nat.lt_succ_self _
    · rcases List.mem_cons.mp hb with rfl | hb
      · show _ < (s.heap.push _).objs.size; rw [Heap.size_push]; exact Nat.lt_succ_of_lt alt
      · cases hb
  · rcases List.mem_cons.mp hb with rfl | hb
    · exact fresh4 R fI
    · cases hb
  · rcases List.mem_cons.mp hb with rfl | hb
    · exact ⟨(fresh4 R fI).2.1, (fresh4 R fI).2.2.1⟩
    · rcases List.mem_cons.mp hb with rfl | hb
      · have := not_mem_of_none B.hidden ho
        exact ⟨fun q => this (q ▸ .head _), fun q => this (.tail _ (List.mem_append_left _ q))⟩
      · cases hb
end
end Mine
end
section
open PySem PySem.W PySem.Calls PyProof.Rows
namespace Mine
noncomputable def lpB : List Stmt × List (Str × NameKind) := defOf "_law_paired" pwB
noncomputable def noPos : Pos := ⟨0, 0, 0, 0⟩
noncomputable def noE : Expr := .Constant .none 0 noPos
set_option genInjectivity false in
structure LC where
  elt : Expr
  px : Pos
  it : Expr
  sc : Scope
  pos : Pos
noncomputable def lcOf : Expr → LC
  | .ListComp e [⟨.Name _ px, it, _, _⟩] sc p => ⟨e, px, it, sc, p⟩
  | _ => ⟨noE, noPos, noE, { kind := .module, names := [], isGenerator := false, isCoroutine := false }, noPos⟩
noncomputable def LC.ex (l : LC) (x : Str) : Expr := .ListComp l.elt [⟨.Name x l.px, l.it, [], 0⟩] l.sc l.pos
noncomputable def lpL : LC := lcOf (match lpB.1 with
  | [.Return (some (.Call _ [c] _ _)) _] => c
  | _ => noE)
noncomputable def itP (e : Expr) : Pos := match e with
  | .Name _ p => p
  | _ => noPos
theorem lpL_it : lpL.it = .Name "text" (itP lpL.it) := by kernel_rfl
noncomputable def lpN : List (Str × NameKind) := [(".0", .local), ("sign", .local)]
theorem lpL_sc : (lpL.sc.names, lpL.sc.kind) = (lpN, .function) := by kernel_rfl
theorem lp_text : lpB.2.lookup (Str.ofString "text") = some .local := by kernel_rfl
theorem name_loc {X : C2} {x : Str} {σ : S2} {u : U} {k : U → Prop} (hd : decide (x = ("__debug__" : Str)) = false) (hs : X.sc.lookup x = some .local) (hl : lkS x σ.loc = some u) (hk : k u) : nameU X x σ k := by
  unfold nameU
  rw [hd, hs]
  simp only [hl]
  exact hk
noncomputable def prC (c : Nat) : List Nat := if c = 92 ∨ c = 34 then [92, c] else [c]
noncomputable def lcP (p : List Nat) (e : Expr) (σ : S2) (k : U → S2 → Prop) : Prop := e = lpL.ex "sign" ∧ lkS ("text" : Str) σ.loc = some (.str (ofL p)) ∧ (∀ c ∈ p, inAl c = true) ∧ p.length ≤ 100000 ∧ ∀ g' a vs, Le σ.g g' → g'.IsList a vs.toArray → StrsAre vs (p.map fun c => ofL (prC c)) → k (.ref a) { σ with g := g' }
noncomputable def XP (p : List Nat) : C2 := { X2 lpB.2 (fun _ _ _ _ => False) with lc := lcP p }
noncomputable def XPe : C2 := X2 lpN fun _ _ _ _ => False
theorem lp_vc (p : List Nat) (x : Str) (g : Heap) (k : U → Heap → Prop) : (ev2 (XP p) 30).ss lpB.1 ⟨[("text", .str x)], g, []⟩ (backU g k) = lcP p (lpL.ex "sign") ⟨[("text", .str x)], g, []⟩ fun u σ' => joinU "" u σ' fun a σ'' => backU g k (.ret a) σ'' := by kernel_rfl
theorem lpe_vc (y : Str) (g : Heap) (K : U → S2 → Prop) : (ev2 XPe 30).e lpL.elt ⟨[("sign", .str y)], g, []⟩ K =
    (((Builtin.Str.occurrences ⟨#[92, 34]⟩ y 0 (⟨#[92, 34]⟩ : Str).length 1).isEmpty = false → ((⟨#[92]⟩ : Str).length + y.length ≤ sizeLine ∧ K (.str (⟨#[92]⟩ ++ y)) ⟨[("sign", .str y)], g, []⟩)) ∧
     ((Builtin.Str.occurrences ⟨#[92, 34]⟩ y 0 (⟨#[92, 34]⟩ : Str).length 1).isEmpty = true → K (.str y) ⟨[("sign", .str y)], g, []⟩)) := by kernel_rfl
theorem occ_pr (c : Nat) (hc : inAl c = true) : (Builtin.Str.occurrences ⟨#[92, 34]⟩ ⟨#[c]⟩ 0 (⟨#[92, 34]⟩ : Str).length 1).isEmpty = !(decide (c = 92 ∨ c = 34)) := by
  rcases al_cases hc with rfl | rfl | rfl | rfl | rfl | rfl <;> decide +kernel
theorem strsAre_of {vs : List Value} {ys : List Str} (hl : vs.length = ys.length) (h : ∀ (i : Nat) v, vs[i]? = some v → ∃ y t, ys[i]? = some y ∧ v = .str y t) : StrsAre vs ys := by
  induction vs generalizing ys with
  | nil => cases ys with | nil => exact .nil | cons _ _ => cases hl
  | cons v vs ih =>
    cases ys with
    | nil => cases hl
    | cons y ys =>
      obtain ⟨y', t, e, rfl⟩ := h 0 v rfl
      cases e
      exact .cons _ _ (ih (by simpa using hl) fun i v e => h (i + 1) v (by simpa using e))
section
variable {prog : Program} {w : World} {KK : World → Frag} [KG KK] {n : Nat} {g : Heap} {fb : List (Addr × Obj)} {L : Addr} {env : Env} {A : Around}
theorem lcP_snd {p : List Nat} (hG : ∀ x v, (XP p).gl x = some v → GlobOk (KK w) x v) (hE : Env2 env (XP p) L) (hA : okA n A) (hF : FrOk A L fb) : ∀ e σ k, (XP p).lc e σ k → ∀ s Q E, 1 ≤ s.toks → Rep2 (KK w) fb L σ s.heap → (∀ v u σ' h' t', 1 ≤ t' → Rep2 (KK w) fb L σ' h' → U.Is u v → k u σ' → Q v { s with heap := h', toks := t' }) → wpAny (model prog w) A (eval e env) Q E s := by
  rintro e σ k ⟨rfl, hl, hal, hz, hk⟩ s Q E h1 R hq
  have sc := lpL_sc
  simp only [Prod.mk.injEq] at sc
  have nofree : ∀ y ∈ lpL.sc.names, y.2 ≠ .free := by rw [sc.1]; decide
  refine lc_plain (K := KK w) (σ := σ) (XE := XPe) (n := n) 30 hF (closureFor_none nofree) sc.2 (by rw [sc.1]; decide) (by rw [sc.1]; decide) (by rw [sc.1]; decide) (fun _ => by rw [lpL_it]; rfl) (fun C fb' hF' => ?_) ?_
  · refine ⟨gl_of (KG.gl w), kp_of (KG.kp w), ⟨⟨?_, rfl, hE.ok.glo, hE.ok.blt, (relabel_names nofree).trans sc.1⟩, fun x c e => by cases e⟩, hA, hF', fun _ _ _ _ h => h.elim, fun _ _ _ h => h.elim, fun _ _ _ h => h.elim, fun _ _ _ _ h => h.elim, fun _ _ _ _ h => h.elim⟩
    exact sc.2
  · rw [lpL_it]
    have hn : nameU (XP p) "text" σ (fun a => a = .str (ofL p)) := name_loc (by decide) lp_text hl rfl
    refine name2 hG hE R hn fun v a ha e => ?_
    subst e
    obtain ⟨hx, t, rfl⟩ := ha
    refine wpAny_pyIter_str fun o St hW hst => ?_
    have le : Le s.heap (s.heap.push o) := fun b o' e => Heap.get?_push_of_some _ e
    have fI : s.heap.get? s.heap.objs.size = none := Heap.get?_none_of_le (Nat.le_refl _)
    have f4 := fresh4 R fI
    have hsz : (ofL p).cps.size = p.length := by simp [ofL]
    have W := hW A hA.1
    rw [hsz] at W
    refine ⟨_, _, _, p.length, _, St, fun i v => ∃ c t, p[i]? = some c ∧ v = .str (ofL (prC c)) t, rfl, h1, R.more le, ⟨W, Nat.le_trans hz (by decide), hst, fun b hb => ?_, fun b hb => ?_, fun b hb => ?_⟩, fun i v hi hP => ?_, fun D h' tk ys hD htk R' hpl hlen hG' => ?_⟩
    · rcases List.mem_cons.mp hb with rfl | hb
      · show _ < (s.heap.push o).objs.size; rw [Heap.size_push]; exact Nat.lt_succ_self _
      · cases hb
    · rcases List.mem_cons.mp hb with rfl | hb
      · exact f4
      · cases hb
    · rcases List.mem_cons.mp hb with rfl | hb
      · exact ⟨f4.2.1, f4.2.2.1⟩
      · cases hb
    · obtain ⟨c, u, e, rfl⟩ := hP
      have ec : p[i]? = some c := by simpa [ofL] using e
      have hc := hal c (List.mem_of_getElem? ec)
      refine ⟨.str ⟨#[c]⟩, ⟨by show 1 ≤ sizeLine; decide, u, rfl⟩, fun g1 le1 => ?_⟩
      rw [lpe_vc, occ_pr c hc]
      refine ⟨fun h => ⟨by show 2 ≤ sizeLine; decide, Le.rfl, rfl, fun y hy => ?_⟩, fun h => ⟨Le.rfl, rfl, fun y hy => ?_⟩⟩
      · obtain ⟨_, t, rfl⟩ := hy
        have hd : c = 92 ∨ c = 34 := by rw [Bool.not_eq_false'] at h; exact of_decide_eq_true h
        refine ⟨c, t, ec, ?_⟩
        have : (⟨#[92]⟩ ++ ⟨#[c]⟩ : Str) = ofL (prC c) := by unfold prC; rw [if_pos hd]; rfl
        rw [this]
      · obtain ⟨_, t, rfl⟩ := hy
        have hd : ¬ (c = 92 ∨ c = 34) := by rw [Bool.not_eq_true'] at h; exact of_decide_eq_false h
        refine ⟨c, t, ec, ?_⟩
        have : (⟨#[c]⟩ : Str) = ofL (prC c) := by unfold prC; rw [if_neg hd]; rfl
        rw [this]
    · obtain ⟨m, B, hloc⟩ := R'
      obtain ⟨o', e', r'⟩ := hpl.isList
      have hD' : s.heap.get? D = none := by
        cases q : s.heap.get? D with
        | none => rfl
        | some o => have := le _ _ q; rw [hD] at this; cases this
      have fD := (fresh4 R hD')
      have B' := B.max
      refine hq _ (.ref D) { σ with g := hideAll h' (hid fb σ.ow L) } h' tk htk ⟨m, B', hloc⟩ rfl (hk _ D ys B.le_max ⟨o', hideAll_get _ e' fun q => ?_, r'⟩ ?_)
      · rcases List.mem_cons.mp q with q | q
        · exact fD.2.1 q
        · rcases List.mem_append.mp q with q | q
          · exact fD.2.2.1 q
          · exact fD.2.2.2 q
      · refine strsAre_of (by simp [hlen]) fun i v e => ?_
        obtain ⟨c, t, ec, rfl⟩ := hG' i v e
        exact ⟨ofL (prC c), t, by simp [ec], rfl⟩

theorem join_nil_ofL : ∀ (ls : List (List Nat)), Txt.join "" (ls.map ofL) = ofL ls.flatten := by
  intro ls
  have key : ∀ ls : List (List Nat), (Str.join "" (ls.map ofL)).cps.toList = ls.flatten := by
    intro ls
    induction ls with
    | nil => rfl
    | cons a r ih =>
      cases r with
      | nil => show (ofL a).cps.toList = _; rw [ofL_toList]; simp
      | cons b r =>
        show (ofL a ++ "" ++ Str.join "" ((b :: r).map ofL)).cps.toList = _
        rw [Str.cps_append, Str.cps_append, Array.toList_append, Array.toList_append, ih, ofL_toList, nil_cps2]
        simp
  apply str_ext
  show (Builtin.Str.glued "" (ls.map ofL)).cps.toList = _
  rw [StrLaws.glued_eq_join, key, ofL_toList]
theorem pr_flat (p : List Nat) : (p.map prC).flatten = pairs p := by
  unfold pairs prC
  rw [List.flatMap_def]
theorem sum_pr (p : List Nat) : ((p.map fun c => ofL (prC c)).map (·.length)).sum ≤ 2 * p.length := by
  induction p with
  | nil => simp
  | cons c p ih =>
    have : (ofL (prC c)).length ≤ 2 := by rw [ofL_len]; unfold prC; split <;> simp
    simp only [List.map_cons, List.sum_cons, List.length_cons]
    omega
theorem lp_ct {p : List Nat} {t : Tok} (ok : FnK (KK w) 778 lpB ["text"]) (hz : p.length ≤ 100000) (hal : ∀ c ∈ p, inAl c = true) : Ct prog w (KK w) (n + 1) (.ref 778) [.str (ofL p) t] g fun _ v => U.Is (.str (ofL (pairs p))) v := by
  have key := enter2 (prog := prog) (w := w) (n := n) (g := g) (args := [.str (ofL p)]) (vals := [.str (ofL p) t]) (k := fun u _ => u = .str (ofL (pairs p))) ok ⟨⟨fit_ofL (by omega), t, rfl⟩, trivial⟩ rfl ?_
  · intro A s fb R hA hF h1 S hR
    exact key A s fb R hA hF h1 S fun g' v h' t' ht le S' ⟨u, hu, e⟩ => hR g' v h' t' ht le S' (by subst e; exact hu)
  · intro A s fb L env hA hE hcl hF h1 R Q E hq
    have hE2 : Env2 env (XP p) L := ⟨hE, fun x c e => by cases e⟩
    have H : Snd2 prog w (KK w) (XP p) fb L env n A := ⟨gl_of (KG.gl w), kp_of (KG.kp w), hE2, hA, hF, fun _ _ _ _ h => h.elim, lcP_snd (gl_of (KG.gl w)) hE2 hA hF, fun _ _ _ h => h.elim, fun _ _ _ _ h => h.elim, fun _ _ _ _ h => h.elim⟩
    refine ss2 (ev2_snd H 30).2.2 lpB.1 _ _ ?_ s Q E h1 R hq
    show (ev2 (XP p) 30).ss lpB.1 ⟨[("text", .str (ofL p))], g, []⟩ _
    rw [lp_vc]
    refine ⟨rfl, rfl, hal, hz, fun g' a vs le hl hv => ⟨vs, _, .inr hl, hv, ?_, le, fun g'' _ _ => ?_⟩⟩
    · have := sum_pr p
      have e0 : (Str.ofString "").length = 0 := by rw [Str.length, ← Array.length_toList, nil_cps2]; rfl
      rw [e0]
      simp only [List.length_map]
      omega
    · show U.str (Txt.join "" (p.map fun c => ofL (prC c))) = _
      have e : (p.map fun c => ofL (prC c)) = (p.map prC).map ofL := by simp
      rw [e, join_nil_ofL, pr_flat]
end
end Mine
end
section
open PySem PySem.W PySem.Calls PyProof.Rows
namespace Mine
inductive LoopInv (K : Frag) (fb : List (Addr × Obj)) (L : Addr) (g : Heap) (s : Shared) (N : Nat) (fpI : List Addr) (St : Nat → Heap → Prop) (J : Nat → Ls → Ow → Prop) (kk : Nat) (s' : Shared) : Prop
  | mk (h : Heap) (tk : Nat) (loc : Ls) (ow : Ow) (i : Nat) (es : s' = { s with heap := h, toks := tk }) (ht : 1 ≤ tk) (hi : i ≤ N) (hk : kk = N + 1 - i) (st : St i h) (j : J i loc ow) (rep : Rep2 K fb L ⟨loc, g, ow⟩ h) (fo : ∀ b ∈ fpI, b ∉ ow.map (·.1))
inductive ForIt (prog : Program) (w : World) (K : Frag) (A : Around) (fb : List (Addr × Obj)) (L : Addr) (σ : S2) (s s₂ : Shared) (it : Value) (J : Nat → Ls → Ow → Prop) (turn : Nat → Value → Ls → Ow → Prop) (k : UF → S2 → Prop) : Prop
  | mk (I : Addr) (fpI wr : List Addr) (N : Nat) (P : Nat → Value → Prop) (St : Nat → Heap → Prop) (h2 : Heap) (t2 : Nat) (e1 : s₂ = { s with heap := h2, toks := t2 }) (e2 : it = .ref I) (h1 : 1 ≤ s₂.toks) (R : Rep2 K fb L σ s₂.heap) (T : ItOk prog w A fb L σ s₂.heap I fpI wr N P St) (hw : ∀ b ∈ wr, b ∈ fpI) (j0 : J 0 σ.loc σ.ow)
      (hf : ∀ b ∈ fpI, b ∉ σ.ow.map (·.1)) (se : ∀ i h, St i h → ∀ b ∈ fpI, ∃ o, h.get? b = some o) (tn : ∀ i v loc ow, i < N → P i v → J i loc ow → turn i v loc ow) (fn : ∀ g1 loc ow, Le σ.g g1 → J N loc ow → k .next ⟨loc, g1, ow⟩)
section
variable {prog : Program} {w : World} {K : Frag} {fb : List (Addr × Obj)} {L : Addr} {env : Env} {A : Around} {E : Value → Shared → Prop} {n : Nat} {X : C2}

theorem for_gen {x : Str} {px pos : Pos} {iter : Expr} {body : List Stmt} {σ : S2} {s : Shared} {Q : Flow → Shared → Prop} {k : UF → S2 → Prop} (d : Nat) (H : Snd2 prog w K X fb L env n A) (hx : X.sc.lookup x = some .local) (hfs : ∀ x, foldedSetIterable iter env x = pure x) (J : Nat → Ls → Ow → Prop)
    (hit : wpAny (model prog w) A (eval iter env) (fun xv s₁ => wpAny (model prog w) A (pyIter xv) (fun it s₂ => ForIt prog w K A fb L σ s s₂ it J (fun i v loc ow => ∃ u, U.Is u v ∧ ∀ g1, Le σ.g g1 → (ev2 X d).ss body ⟨uput x u loc, g1, ow⟩ fun f σ'' => Le g1 σ''.g ∧ (match f with | .next => J (i + 1) σ''.loc σ''.ow | _ => False)) k) E s₁) E s)
    (hq : ∀ f b σ' h' t', 1 ≤ t' → Rep2 K fb L σ' h' → FlU b f → k b σ' → Q f { s with heap := h', toks := t' }) :
    wpAny (model prog w) A (exec (.For (.Name x px) iter body [] pos) env) Q E s := by
  refine wpAny_For (wpAny_mono hit (fun xv s₁ h₁ => wpAny_mono h₁ (fun it s₂ h₂ => ?_) fun _ _ e => e) fun _ _ e => e) hfs
  obtain ⟨I, fpI, wr, N, P, St, h2, t2, rfl, rfl, h1, R, T, hwI, hJ0, hfo, stE, turn, fin⟩ := h₂
  have hE := H.en.ok
  refine codeAny_forLoop (LoopInv K fb L σ.g s N fpI St J) ?_ (N + 1)
    ⟨h2, t2, σ.loc, σ.ow, 0, rfl, h1, Nat.zero_le _, rfl, T.st, hJ0, R, hfo⟩
  rintro kk s' ⟨h, tk, loc, ow, i, rfl, htk, hi, rfl, hst, hJ, hrep, hfo'⟩
  have wz : ∀ b ∈ wr, σ.g.get? b = none ∧ b ≠ L ∧ b ∉ fb.map (·.1) ∧ b ∉ ow.map (·.1) := fun b hb => ⟨(T.wg b hb).1, (T.wg b hb).2.1, (T.wg b hb).2.2.1, hfo' b (hwI b hb)⟩
  by_cases hlt : i < N
  · refine wpAny_with_toks (n := 1) htk (T.W.item i _ _ _ hlt hst fun v h3 tk3 hP hst3 hk3 htk3 => ?_)
    obtain ⟨u, hu, hvc⟩ := turn i v loc ow hlt hP hJ
    have rep3 : Rep2 K fb L ⟨loc, σ.g, ow⟩ h3 := hrep.away hk3 wz
    refine wpAny_assign_Name (store2 H.en hx rep3 hu fun h4 hk4 rep4 => ?_)
    obtain ⟨m4, B4, hl4⟩ := rep4
    -- all but the frames and the own stands in the base for the body
    have hvc' := hvc (hideAll h4 (hid fb ow L)) B4.le_max
    have inG : ∀ b ∈ fpI, ∀ o, h4.get? b = some o → (hideAll h4 (hid fb ow L)).get? b = some o := fun b hb o e => hideAll_get _ e fun q => by
      rcases List.mem_cons.mp q with q | q
      · exact (T.fp b hb).1 q
      · rcases List.mem_append.mp q with q | q
        · exact (T.fp b hb).2 q
        · exact hfo' b hb q
    have st4 : St (i + 1) h4 := T.W.frame _ _ _ hst3 fun b hb o e => hk4 b o (T.fp b hb).1 e
    refine ss2 (ev2_snd H d).2.2 body _ _ hvc' { s with heap := h4, toks := tk3 + 1 } _ _ (Nat.le_succ_of_le htk3) ⟨m4, B4.max, hl4⟩ fun f b σ' h5 t5 ht5 R5 hf hk => ?_
    obtain ⟨leg, hk⟩ := hk
    cases b with
    | next =>
      obtain rfl : f = .next := hf
      obtain ⟨m5, B5, hl5⟩ := R5
      have gnone : ∀ p ∈ σ'.ow, σ.g.get? p.1 = none := fun p hp => by
        cases q : σ.g.get? p.1 with
        | none => rfl
        | some o => have := leg _ _ (B4.le_max _ _ q); rw [(B5.own p hp).2.1] at this; cases this
      refine ⟨N + 1 - (i + 1), by omega, h5, t5, σ'.loc, σ'.ow, i + 1, rfl, ht5, hlt, rfl, ?_, hk, ⟨m5, ?_, hl5⟩, fun b hb q => ?_⟩
      · exact T.W.frame _ _ _ st4 fun b hb o e => B5.sr.keep _ _ (leg _ _ (inG b hb o e))
      · exact ⟨⟨B4.sr.kin, B4.sr.nl, B4.sr.mg, B4.sr.mb, (B4.le_max.trans leg).trans B5.sr.keep, fun p hp => ⟨(B4.sr.fb p hp).1, (B5.sr.fb p hp).2⟩⟩, B5.fL, B5.ns, B4.gL, fun p hp => ⟨(B5.own p hp).1, gnone p hp, (B5.own p hp).2.2⟩, B5.nd⟩
      · obtain ⟨p, hp, rfl⟩ := List.mem_map.mp q
        obtain ⟨o, e⟩ := stE _ _ st4 p.1 hb
        have := leg _ _ (inG p.1 hb o e)
        rw [(B5.own p hp).2.1] at this; cases this
    | brk => exact hk.elim
    | cont => exact hk.elim
    | ret a => exact hk.elim
  · have hin : i = N := by omega
    subst hin
    refine wpAny_with_toks (n := 1) htk (T.W.done _ _ _ hst fun h3 tk3 hk3 htk3 => ?_)
    refine wpAny_execs_nil ?_
    exact hq .next .next ⟨loc, σ.g, ow⟩ h3 tk3 htk3 (hrep.away hk3 wz) rfl (fin σ.g loc ow Le.rfl hJ)
end
end Mine
end
section
open PySem PySem.W PySem.Calls PyProof.Rows
set_option linter.unusedVariables false
namespace Mine
noncomputable def sgn (m : Int) : Nat := if m = 2 then 39 else if m = 3 then 34 else if m = 4 then 92 else if m = 5 then 97 else if m = 6 then 32 else 10
noncomputable def lwStep (ws : List (List (List Nat))) (x : Int) : List (List (List Nat)) :=
  if x.fmod 8 = 0 then ws ++ [[[]]]
  else if x.fmod 8 = 1 then ws.dropLast ++ [ws.getLastD [] ++ [[]]]
  else ws.dropLast ++ [(ws.getLastD []).dropLast ++ [(ws.getLastD []).getLastD [] ++ [sgn (x.fmod 8)]]]
noncomputable def lw (ns : List Int) : List (List (List Nat)) := ns.foldl lwStep [[[]]]
structure Good (i : Nat) (ws : List (List (List Nat))) : Prop where
  ne : ws ≠ []
  len : ws.length ≤ i + 1
  all : ∀ v ∈ ws, v ≠ [] ∧ v.length ≤ i + 1 ∧ ∀ p ∈ v, p.length ≤ i ∧ ∀ c ∈ p, inAl c = true
theorem sgn_al {m : Int} : inAl (sgn m) = true := by
  unfold sgn
  repeat' split
  all_goals rfl
theorem last_split {α : Type} {l : List α} (h : l ≠ []) (d : α) : ∃ i a, l = i ++ [a] ∧ l.dropLast = i ∧ l.getLastD d = a := by
  refine ⟨l.dropLast, l.getLast h, (List.dropLast_concat_getLast h).symm, rfl, ?_⟩
  rw [List.getLastD_eq_getLast?, List.getLast?_eq_some_getLast h]; rfl
theorem good_step {i : Nat} {ws : List (List (List Nat))} (g : Good i ws) (x : Int) : Good (i + 1) (lwStep ws x) := by
  obtain ⟨wi, wl, rfl, e1, e2⟩ := last_split g.ne []
  obtain ⟨hne, hl, hp⟩ := g.all wl (by simp)
  obtain ⟨pi, p, rfl, e3, e4⟩ := last_split hne []
  have hlen := g.len
  have old : ∀ v ∈ wi, v ≠ [] ∧ v.length ≤ i + 1 + 1 ∧ ∀ p ∈ v, p.length ≤ i + 1 ∧ ∀ c ∈ p, inAl c = true := fun v hv => by
    obtain ⟨a, b, c⟩ := g.all v (by simp [hv])
    exact ⟨a, by omega, fun p hp => ⟨by have := (c p hp).1; omega, (c p hp).2⟩⟩
  have oldp : ∀ q ∈ pi, q.length ≤ i + 1 ∧ ∀ c ∈ q, inAl c = true := fun q hq => ⟨by have := (hp q (by simp [hq])).1; omega, (hp q (by simp [hq])).2⟩
  have hpp := hp p (by simp)
  unfold lwStep
  rw [e1, e2, e3, e4]
  split
  · refine ⟨by simp, by simp at hlen ⊢; omega, fun v hv => ?_⟩
    rcases List.mem_append.mp hv with hv | hv
    · rcases List.mem_append.mp hv with hv | hv
      · exact old v hv
      · simp at hv; subst hv
        refine ⟨by simp, by simp at hl ⊢; omega, fun q hq => ?_⟩
        rcases List.mem_append.mp hq with hq | hq
        · exact oldp q hq
        · simp at hq; subst hq; exact ⟨by omega, hpp.2⟩
    · simp at hv; subst hv
      exact ⟨by simp, by simp, fun q hq => by simp at hq; subst hq; exact ⟨by simp, by simp⟩⟩
  · split
    · refine ⟨by simp, by simp at hlen ⊢; omega, fun v hv => ?_⟩
      rcases List.mem_append.mp hv with hv | hv
      · exact old v hv
      · simp at hv; subst hv
        refine ⟨by simp, by simp at hl ⊢; omega, fun q hq => ?_⟩
        rcases List.mem_append.mp hq with hq | hq
        · exact oldp q hq
        · simp at hq
          rcases hq with rfl | rfl
          · exact ⟨by omega, hpp.2⟩
          · exact ⟨by simp, by simp⟩
    · refine ⟨by simp, by simp at hlen ⊢; omega, fun v hv => ?_⟩
      rcases List.mem_append.mp hv with hv | hv
      · exact old v hv
      · simp at hv; subst hv
        refine ⟨by simp, by simp at hl ⊢; omega, fun q hq => ?_⟩
        rcases List.mem_append.mp hq with hq | hq
        · exact oldp q hq
        · simp at hq; subst hq
          refine ⟨by simp; omega, fun c hc => ?_⟩
          rcases List.mem_append.mp hc with hc | hc
          · exact hpp.2 c hc
          · simp at hc; subst hc; exact sgn_al

noncomputable def InnerO (ow : Ow) : List Addr → List (List (List Nat)) → Prop
  | [], [] => True
  | a :: r, v :: t => (∃ c, (a, c) ∈ ow ∧ StrsAre c (v.map ofL)) ∧ InnerO ow r t
  | _, _ => False
noncomputable def InnerG (g : Heap) : List Addr → List (List (List Nat)) → Prop
  | [], [] => True
  | a :: r, v :: t => (∃ c : List Value, g.IsList a c.toArray ∧ StrsAre c (v.map ofL)) ∧ InnerG g r t
  | _, _ => False
theorem InnerO.app {ow : Ow} : ∀ {as : List Addr} {ws : List (List (List Nat))} {bs : List Addr} {us : List (List (List Nat))}, InnerO ow as ws → InnerO ow bs us → InnerO ow (as ++ bs) (ws ++ us)
  | [], [], _, _, _, h => h
  | _ :: _, _ :: _, _, _, h1, h2 => ⟨h1.1, InnerO.app h1.2 h2⟩
  | [], _ :: _, _, _, h, _ => h.elim
  | _ :: _, [], _, _, h, _ => h.elim
theorem InnerO.split {ow : Ow} : ∀ {as : List Addr} {wi : List (List (List Nat))} {wl : List (List Nat)}, InnerO ow as (wi ++ [wl]) → ∃ ai a, as = ai ++ [a] ∧ InnerO ow ai wi ∧ ∃ c, (a, c) ∈ ow ∧ StrsAre c (wl.map ofL)
  | [], [], _, h => h.elim
  | [], _ :: _, _, h => h.elim
  | a :: [], [], wl, h => ⟨[], a, rfl, trivial, h.1⟩
  | a :: _ :: _, [], wl, h => h.2.elim
  | a :: r, v :: t, wl, h => by
    obtain ⟨ai, b, rfl, h1, h2⟩ := InnerO.split h.2
    exact ⟨a :: ai, b, rfl, ⟨h.1, h1⟩, h2⟩
theorem InnerO.mono {ow ow' : Ow} : ∀ {as : List Addr} {ws : List (List (List Nat))}, InnerO ow as ws → (∀ a ∈ as, ∀ c, (a, c) ∈ ow → (a, c) ∈ ow') → InnerO ow' as ws
  | [], [], h, _ => h
  | a :: r, v :: t, ⟨⟨c, h1, h2⟩, h3⟩, k => ⟨⟨c, k a (.head _) c h1, h2⟩, InnerO.mono h3 fun a ha => k a (.tail _ ha)⟩
  | [], _ :: _, h, _ => h.elim
  | _ :: _, [], h, _ => h.elim
theorem InnerO.toG {ow : Ow} {g : Heap} (k : ∀ p ∈ ow, g.IsList p.1 p.2.toArray) : ∀ {as : List Addr} {ws : List (List (List Nat))}, InnerO ow as ws → InnerG g as ws
  | [], [], _ => trivial
  | a :: r, v :: t, ⟨⟨c, h1, h2⟩, h3⟩ => ⟨⟨c, k _ h1, h2⟩, InnerO.toG k h3⟩
  | [], _ :: _, h => h.elim
  | _ :: _, [], h => h.elim
theorem InnerO.len {ow : Ow} : ∀ {as : List Addr} {ws : List (List (List Nat))}, InnerO ow as ws → as.length = ws.length
  | [], [], _ => rfl
  | _ :: _, _ :: _, h => by simp [InnerO.len h.2]
  | [], _ :: _, h => h.elim
  | _ :: _, [], h => h.elim
theorem InnerG.mono {g g' : Heap} (k : Le g g') : ∀ {as : List Addr} {ws : List (List (List Nat))}, InnerG g as ws → InnerG g' as ws
  | [], [], h => h
  | a :: r, v :: t, ⟨⟨c, ⟨o, h1, h2⟩, h3⟩, h4⟩ => ⟨⟨c, ⟨o, k _ _ h1, h2⟩, h3⟩, InnerG.mono k h4⟩
  | [], _ :: _, h => h.elim
  | _ :: _, [], h => h.elim
structure OwIs (W : Addr) (ws : List (List (List Nat))) (ow : Ow) (as : List Addr) : Prop where
  nd : as.Nodup
  nW : W ∉ as
  out : (W, as.map Value.ref) ∈ ow
  inn : InnerO ow as ws
theorem ow_turn {pre post : Ow} {a b : Addr} {vs us c : List Value} (hab : b ≠ a) (h : (b, c) ∈ pre ++ (a, vs) :: post) : (b, c) ∈ pre ++ (a, us) :: post := by
  rcases List.mem_append.mp h with h | h
  · exact List.mem_append_left _ h
  · rcases List.mem_cons.mp h with h | h
    · exact absurd (congrArg Prod.fst h) hab
    · exact List.mem_append_right _ (.tail _ h)
end Mine
end
section
open PySem PySem.W PySem.Calls PyProof.Rows
namespace Mine
noncomputable def lwB : List Stmt × List (Str × NameKind) := defOf "_law_words" pwB
noncomputable def lw0 : Stmt := match lwB.1 with
  | a :: _ => a
  | _ => .Pass noPos
noncomputable def lwFor : Stmt := match lwB.1 with
  | _ :: f :: _ => f
  | _ => .Pass noPos
noncomputable def lwRest : List Stmt := match lwB.1 with
  | _ :: _ :: r => r
  | _ => []
set_option genInjectivity false in
structure FO2 where
  px : Pos
  ip : Pos
  body : List Stmt
  pos : Pos
noncomputable def foOf : Stmt → FO2
  | .For (.Name _ px) (.Name _ ip) b _ p => ⟨px, ip, b, p⟩
  | _ => ⟨noPos, noPos, [], noPos⟩
noncomputable def lwF : FO2 := foOf lwFor
theorem lwB_eq : lwB.1 = lw0 :: .For (.Name "x" lwF.px) (.Name "numbers" lwF.ip) lwF.body [] lwF.pos :: lwRest := by kernel_rfl
noncomputable def hintW (x : Str) (n : Nat) : Option Bool := match decide (x = ("words" : Str)), n with
  | true, 1 => some false
  | true, 2 => some true
  | _, _ => none
noncomputable def XW (fr : Stmt → S2 → (UF → S2 → Prop) → Prop) : C2 := { X2 lwB.2 (fun _ _ _ _ => False) with own := true, hint := hintW, fr := fr }
noncomputable def frN : Stmt → S2 → (UF → S2 → Prop) → Prop := fun _ _ _ => False
theorem lw0_vc (fr : Stmt → S2 → (UF → S2 → Prop) → Prop) (nl : Addr) (g : Heap) (k : UF → S2 → Prop) : (ev2 (XW fr) 40).s lw0 ⟨[("numbers", .ref nl)], g, []⟩ k =
    (∀ vs, IsAllU [.str ""] vs → newU (XW fr) vs ⟨[("numbers", .ref nl)], g, []⟩ fun u σ' => ∀ vs, IsAllU [u] vs → newU (XW fr) vs σ' fun r σ'' => k .next { σ'' with loc := uput "words" r σ''.loc }) := by kernel_rfl
theorem lwt_vc (nl W : Addr) (x : Int) (g : Heap) (ow : Ow) (k : UF → S2 → Prop) : (ev2 (XW frN) 40).ss lwF.body ⟨[("numbers", .ref nl), ("words", .ref W), ("x", .int x)], g, ow⟩ k =
    ((x.fmod 8 = 0 → ((∃ vs, (W, vs) ∈ ow) ∧ ∀ vs, IsAllU [.str ""] vs → newU (XW frN) vs ⟨[("numbers", .ref nl), ("words", .ref W), ("x", .int x)], g, ow⟩ fun u σ' => appU W u σ' fun r σ'' => (match r with
        | .none => k .next σ''
        | _ => False))) ∧
     (¬ x.fmod 8 = 0 → ((x.fmod 8 = 1 → (∃ vs b, LstIn ⟨[("numbers", .ref nl), ("words", .ref W), ("x", .int x)], g, ow⟩ W vs ∧ at_ vs (-1) = some (.ref b) ∧ (-1 : Int) < 2 ^ 63 ∧ -(2 ^ 63) ≤ (-1 : Int) ∧ ((∃ vs, (b, vs) ∈ ow) ∧ appU b (.str "") ⟨[("numbers", .ref nl), ("words", .ref W), ("x", .int x)], g, ow⟩ fun r σ'' => (match r with
        | .none => k .next σ''
        | _ => False)))) ∧
      (¬ x.fmod 8 = 1 → (∃ vs b, LstIn ⟨[("numbers", .ref nl), ("words", .ref W), ("x", .int x)], g, ow⟩ W vs ∧ at_ vs (-1) = some (.ref b) ∧ (-1 : Int) < 2 ^ 63 ∧ -(2 ^ 63) ≤ (-1 : Int) ∧
        (∃ vs y t, LstIn ⟨[("numbers", .ref nl), ("words", .ref W), ("x", .int x)], g, ow⟩ b vs ∧ at_ vs (-1) = some (.str y t) ∧ y.length ≤ sizeLine ∧ (-1 : Int) < 2 ^ 63 ∧ -(2 ^ 63) ≤ (-1 : Int) ∧
          (∃ c, (seqIndex? (x.fmod 8 - 2) (⟨#[39, 34, 92, 97, 32, 10]⟩ : Str).length).bind ((⟨#[39, 34, 92, 97, 32, 10]⟩ : Str).cps[·]?) = some c ∧ x.fmod 8 - 2 < 2 ^ 63 ∧ -(2 ^ 63) ≤ x.fmod 8 - 2 ∧
            (y.length + (⟨#[c]⟩ : Str).length ≤ sizeLine ∧
              (∃ vs b, LstIn ⟨[("numbers", .ref nl), ("words", .ref W), ("x", .int x)], g, ow⟩ W vs ∧ at_ vs (-1) = some (.ref b) ∧ (-1 : Int) < 2 ^ 63 ∧ -(2 ^ 63) ≤ (-1 : Int) ∧
                (∃ pre vs post, ow = pre ++ (b, vs) :: post ∧ (-1 : Int) = -1 ∧ vs ≠ [] ∧ vs.length ≤ sizeLine ∧ ∀ v, U.Is (.str (y ++ ⟨#[c]⟩)) v → k .next ⟨[("numbers", .ref nl), ("words", .ref W), ("x", .int x)], g, pre ++ (b, vs.dropLast ++ [v]) :: post⟩)))))))))) := by kernel_rfl
theorem lwr_vc (fr : Stmt → S2 → (UF → S2 → Prop) → Prop) (σ : S2) (k : UF → S2 → Prop) : (ev2 (XW fr) 40).ss lwRest σ k = (match lkS ("words" : Str) σ.loc with
    | some a => k (.ret a) σ
    | none => False) := by kernel_rfl
end Mine
end
section
open PySem PySem.W PySem.Calls PyProof.Rows
set_option linter.unusedVariables false
namespace Mine
theorem at_last (l : List Value) (v : Value) : at_ (l ++ [v]) (-1) = some v := by
  unfold at_
  rw [if_neg (by decide), if_pos (by simp; omega)]
  have : (-1 + ((l ++ [v]).length : Int)).toNat = l.length := by simp; omega
  rw [this]
  simp
theorem InnerO.mem {ow : Ow} : ∀ {as : List Addr} {ws : List (List (List Nat))}, InnerO ow as ws → ∀ b ∈ as, b ∈ ow.map (·.1)
  | [], [], _, b, hb => by cases hb
  | a :: r, v :: t, h, b, hb => by
    rcases List.mem_cons.mp hb with rfl | hb
    · obtain ⟨c, h1, _⟩ := h.1; exact List.mem_map_of_mem (f := (·.1)) h1
    · exact InnerO.mem h.2 b hb
  | [], _ :: _, h, _, _ => h.elim
  | _ :: _, [], h, _, _ => h.elim
theorem strsAre_app {a b : List Value} {x y : List Str} (h : StrsAre a x) (h' : StrsAre b y) : StrsAre (a ++ b) (x ++ y) := by
  induction h with
  | nil => exact h'
  | cons y t _ ih => exact .cons y t ih
theorem strsAre_last {c : List Value} {x : List Str} {y : Str} (h : StrsAre c (x ++ [y])) : ∃ ci t, c = ci ++ [.str y t] ∧ StrsAre ci x := by
  induction x generalizing c with
  | nil =>
    cases h with
    | cons y t h => cases h with | nil => exact ⟨[], t, rfl, .nil⟩
  | cons a x ih =>
    cases h with
    | cons a t h =>
      obtain ⟨ci, t', rfl, h'⟩ := ih h
      exact ⟨_ :: ci, t', rfl, .cons _ _ h'⟩
theorem mem_split {α : Type} {a : α} : ∀ {l : List α}, a ∈ l → ∃ p q, l = p ++ a :: q
  | b :: r, h => by
    rcases List.mem_cons.mp h with rfl | h
    · exact ⟨[], r, rfl⟩
    · obtain ⟨p, q, rfl⟩ := mem_split h
      exact ⟨b :: p, q, rfl⟩
  | [], h => by cases h
theorem emp_ofL : (Str.ofString "") = ofL [] := by apply str_ext; rw [nil_cps2]; rfl
theorem sgn_idx {m : Int} (h0 : 0 ≤ m) (h8 : m < 8) (n0 : ¬ m = 0) (n1 : ¬ m = 1) : (seqIndex? (m - 2) (⟨#[39, 34, 92, 97, 32, 10]⟩ : Str).length).bind ((⟨#[39, 34, 92, 97, 32, 10]⟩ : Str).cps[·]?) = some (sgn m) := by
  obtain ⟨j, rfl⟩ := Int.eq_ofNat_of_zero_le h0
  match j, h8, n0, n1 with
  | 0, _, n0, _ => exact absurd rfl n0
  | 1, _, _, n1 => exact absurd rfl n1
  | 2, _, _, _ => rfl
  | 3, _, _, _ => rfl
  | 4, _, _, _ => rfl
  | 5, _, _, _ => rfl
  | 6, _, _, _ => rfl
  | 7, _, _, _ => rfl
  | j + 8, h8, _, _ => exact absurd h8 (by omega)

noncomputable def lwL (nl W : Addr) (u : U) : Ls := [("numbers", .ref nl), ("words", .ref W), ("x", u)]
theorem lw_turn {nl W : Addr} {x : Int} {g : Heap} {ow : Ow} {ws : List (List (List Nat))} {as : List Addr} {i : Nat} {k : UF → S2 → Prop} (hO : OwIs W ws ow as) (hG : Good i ws) (hi : i ≤ 1000)
    (hk : ∀ as' ow', OwIs W (lwStep ws x) ow' as' → k .next ⟨lwL nl W (.int x), g, ow'⟩) : (ev2 (XW frN) 40).ss lwF.body ⟨lwL nl W (.int x), g, ow⟩ k := by
  have hv := lwt_vc nl W x g ow k
  refine hv ▸ ?_
  obtain ⟨wi, wl, rfl, e1, e2⟩ := last_split hG.ne []
  obtain ⟨hne, hl, hp⟩ := hG.all wl (by simp)
  obtain ⟨pi, p, rfl, e3, e4⟩ := last_split hne []
  obtain ⟨ai, b, rfl, hin, cb, hcb, hsb⟩ := hO.inn.split
  have hwl := hO.inn.len
  have hlen := hG.len
  have hb0 := hO.nd
  rw [List.nodup_append] at hb0
  have bai : b ∉ ai := fun q => hb0.2.2 b q b (by simp) rfl
  have Wb : W ≠ b := fun q => hO.nW (by simp [q])
  have Wai : W ∉ ai := fun q => hO.nW (by simp [q])
  have hm8 : 0 ≤ x.fmod 8 ∧ x.fmod 8 < 8 := ⟨Int.fmod_nonneg_of_pos x (by decide), Int.fmod_lt_of_pos x (by decide)⟩
  have hb1 : (-1 : Int) < 2 ^ 63 ∧ -(2 ^ 63) ≤ (-1 : Int) := ⟨by decide, by decide⟩
  have atW : at_ ((ai ++ [b]).map Value.ref) (-1) = some (.ref b) := by rw [List.map_append]; exact at_last _ _
  have hcl := strsAre_toks hsb
  rw [List.map_append, List.map_cons, List.map_nil] at hsb
  refine ⟨fun h0 => ⟨⟨_, hO.out⟩, fun vs hvs => ?_⟩, fun n0 => ⟨fun h1 => ?_, fun n1 => ?_⟩⟩
  · obtain ⟨v, rfl, _, t, rfl⟩ := isAllU_one hvs
    refine ⟨by show 1 ≤ sizeLine; decide, fun a ga hao => ?_⟩
    obtain ⟨p1, q1, e⟩ := mem_split hO.out
    refine ⟨(a, [.str "" t]) :: p1, _, q1, by show (a, _) :: ow = _; rw [e]; rfl, by simp at hlen hwl ⊢; exact Nat.le_trans (by omega) (show 2000 ≤ sizeLine by decide), fun v hv => ?_⟩
    obtain rfl : v = .ref a := hv
    have hWo : W ∈ ow.map (·.1) := List.mem_map_of_mem (f := (·.1)) hO.out
    have aW : W ≠ a := fun q => hao (q ▸ hWo)
    have aas : a ∉ ai ++ [b] := fun q => hao (hO.inn.mem a q)
    refine hk (ai ++ [b] ++ [a]) _ ⟨?_, ?_, ?_, ?_⟩
    · rw [List.nodup_append]
      exact ⟨hO.nd, by simp, fun x hx y hy q => aas (by simp at hy; rw [← hy, ← q]; exact hx)⟩
    · intro q
      rcases List.mem_append.mp q with q | q
      · exact hO.nW q
      · simp at q; exact aW q
    · show (W, _) ∈ (a, [.str "" t]) :: p1 ++ (W, (ai ++ [b]).map Value.ref ++ [.ref a]) :: q1
      rw [List.map_append (l₁ := ai ++ [b])]
      exact List.mem_append_right _ (.head _)
    · show InnerO ((a, [.str "" t]) :: p1 ++ (W, (ai ++ [b]).map Value.ref ++ [.ref a]) :: q1) (ai ++ [b] ++ [a]) (lwStep _ x)
      unfold lwStep
      rw [if_pos h0]
      refine InnerO.app (hO.inn.mono fun a' ha c hc => ?_) ⟨⟨_, .head _, ?_⟩, trivial⟩
      · rw [e] at hc
        exact ow_turn (fun q => hO.nW (q ▸ ha)) (show (a', c) ∈ ((a, [.str "" t]) :: p1) ++ (W, _) :: q1 from .tail _ hc)
      · rw [emp_ofL]; exact .cons _ _ .nil
  · refine ⟨_, b, .inl hO.out, atW, hb1.1, hb1.2, ⟨cb, hcb⟩, ?_⟩
    obtain ⟨p1, q1, e⟩ := mem_split hcb
    refine ⟨p1, cb, q1, e, ?_, fun v hv => hk (ai ++ [b]) _ ⟨hO.nd, hO.nW, ?_, ?_⟩⟩
    · rw [hcl]; simp at hl ⊢; exact Nat.le_trans (by omega) (show 2000 ≤ sizeLine by decide)
    · have := hO.out; rw [e] at this; exact ow_turn Wb this
    · show InnerO (p1 ++ (b, cb ++ [v]) :: q1) (ai ++ [b]) (lwStep _ x)
      unfold lwStep
      rw [if_neg n0, if_pos h1, e1, e2]
      refine InnerO.app (hin.mono fun a' ha c hc => ?_) ⟨⟨_, List.mem_append_right _ (.head _), ?_⟩, trivial⟩
      · rw [e] at hc; exact ow_turn (fun q => bai (q ▸ ha)) hc
      · obtain ⟨_, t, rfl⟩ := hv
        rw [List.map_append, List.map_append]
        refine strsAre_app hsb ?_
        rw [emp_ofL]; exact .cons _ _ .nil
  · obtain ⟨ci, ty, rfl, hci⟩ := strsAre_last hsb
    have hpp := hp p (by simp)
    have hpz : (ofL p).length ≤ 1000 := by rw [ofL_len]; omega
    obtain ⟨p1, q1, e⟩ := mem_split hcb
    refine ⟨_, b, .inl hO.out, atW, hb1.1, hb1.2, _, ofL p, ty, .inl hcb, at_last _ _, Nat.le_trans hpz (by decide), hb1.1, hb1.2, sgn (x.fmod 8), sgn_idx hm8.1 hm8.2 n0 n1, by omega, by omega, ?_, _, b, .inl hO.out, atW, hb1.1, hb1.2, p1, _, q1, e, rfl, by simp, ?_, fun v hv => hk (ai ++ [b]) _ ⟨hO.nd, hO.nW, ?_, ?_⟩⟩
    · show (ofL p).length + 1 ≤ sizeLine; exact Nat.le_trans (by omega) (show 2000 ≤ sizeLine by decide)
    · rw [hcl]; simp at hl ⊢; exact Nat.le_trans (by omega) (show 2000 ≤ sizeLine by decide)
    · have := hO.out; rw [e] at this; exact ow_turn Wb this
    · rw [List.dropLast_concat]
      show InnerO (p1 ++ (b, ci ++ [v]) :: q1) (ai ++ [b]) (lwStep _ x)
      unfold lwStep
      rw [if_neg n0, if_neg n1, e1, e2, e3, e4]
      refine InnerO.app (hin.mono fun a' ha c hc => ?_) ⟨⟨_, List.mem_append_right _ (.head _), ?_⟩, trivial⟩
      · rw [e] at hc; exact ow_turn (fun q => bai (q ▸ ha)) hc
      · obtain ⟨_, t, rfl⟩ := hv
        rw [List.map_append]
        have : ofL p ++ (⟨#[sgn (x.fmod 8)]⟩ : Str) = ofL (p ++ [sgn (x.fmod 8)]) := ofL_append p [sgn (x.fmod 8)]
        rw [this]
        exact strsAre_app hci (.cons _ _ .nil)

noncomputable def WordsAt (g : Heap) (v : Value) (ws : List (List (List Nat))) : Prop := ∃ W as, v = .ref W ∧ g.IsList W (as.map Value.ref).toArray ∧ InnerG g as ws
theorem lw_snoc (l : List Int) (x : Int) : lw (l ++ [x]) = lwStep (lw l) x := by simp [lw]
theorem lw_good : ∀ (l : List Int), Good l.length (lw l) := by
  intro l
  have key : ∀ (l : List Int) i ws, Good i ws → Good (i + l.length) (l.foldl lwStep ws) := by
    intro l
    induction l with
    | nil => intro i ws h; exact h
    | cons x l ih =>
      intro i ws h
      have := ih (i + 1) _ (good_step h x)
      rw [List.length_cons, List.foldl_cons, show i + (l.length + 1) = i + 1 + l.length by omega]
      exact this
  have := key l 0 [[[]]] ⟨by simp, by simp, by simp⟩
  simpa [lw] using this
theorem intsAre_get {vs : List Value} {ns : List Int} (h : IntsAre vs ns) : ∀ {i : Nat} {v : Value}, vs[i]? = some v → ∃ x t, ns[i]? = some x ∧ v = .int x t := by
  induction h with
  | nil => intro i v e; simp at e
  | cons k t _ ih =>
    intro i v e
    cases i with
    | zero => simp at e; subst e; exact ⟨k, t, rfl, rfl⟩
    | succ i => simpa using ih (by simpa using e)
theorem lwB_rest : lwB.1 = lw0 :: lwFor :: lwRest ∧ lwFor = .For (.Name "x" lwF.px) (.Name "numbers" lwF.ip) lwF.body [] lwF.pos := ⟨by kernel_rfl, by kernel_rfl⟩
theorem lw_lk : lwB.2.lookup (Str.ofString "x") = some .local ∧ lwB.2.lookup (Str.ofString "numbers") = some .local := ⟨by kernel_rfl, by kernel_rfl⟩

section
variable {prog : Program} {w : World} {KK : World → Frag} [KG KK] {n : Nat} {g : Heap}
theorem lw_ct {nl : Addr} {vs : List Value} {ns : List Int} (ok : FnK (KK w) 773 lwB ["numbers"]) (hl : g.IsList nl vs.toArray) (hi : IntsAre vs ns) (hz : ns.length ≤ 1000) : Ct prog w (KK w) (n + 1) (.ref 773) [.ref nl] g fun g' v => WordsAt g' v (lw ns) := by
  have hvl : vs.length = ns.length := hi.length
  have key := enter2 (prog := prog) (w := w) (n := n) (g := g) (args := [.ref nl]) (vals := [.ref nl]) (k := fun u g' => ∃ W, u = .ref W ∧ WordsAt g' (.ref W) (lw ns)) ok ⟨rfl, trivial⟩ rfl ?_
  · intro A s fb R hA hF h1 S hR
    refine key A s fb R hA hF h1 S fun g' v h' t' ht le S' ⟨u, hu, W, e, hW⟩ => hR g' v h' t' ht le S' ?_
    subst e
    obtain rfl : v = .ref W := hu
    exact hW
  · intro A s fb L env hA hE hcl hF h1 R Q E hq
    have HN : Snd2 prog w (KK w) (XW frN) fb L env n A := ⟨gl_of (KG.gl w), kp_of (KG.kp w), ⟨hE, fun x c e => by cases e⟩, hA, hF, fun _ _ _ _ h => h.elim, fun _ _ _ h => h.elim, fun _ _ _ h => h.elim, fun _ _ _ _ h => h.elim, fun _ _ _ _ h => h.elim⟩
    have SE := ev2_snd HN 40
    rw [lwB_rest.1]
    -- the first row
    have vc0 : (ev2 (XW frN) 40).s lw0 ⟨[("numbers", .ref nl)], g, []⟩ fun f σ => f = .next ∧ ∃ W a c, σ = ⟨[("numbers", .ref nl), ("words", .ref W)], g, [(W, [.ref a]), (a, c)]⟩ ∧ W ≠ a ∧ g.get? W = none ∧ StrsAre c [ofL []] := by
      rw [lw0_vc]
      intro c hc
      refine ⟨?_, fun a ga _ ws hws => ⟨?_, fun W gW hW => ⟨rfl, W, a, c, ?_, fun q => hW (by simp [q]), gW, ?_⟩⟩⟩
      · obtain ⟨v, rfl, _⟩ := isAllU_one hc; show 1 ≤ sizeLine; decide
      · obtain ⟨v, rfl, _⟩ := isAllU_one hws; show 1 ≤ sizeLine; decide
      · obtain ⟨v, rfl, hv⟩ := isAllU_one hws
        obtain rfl : v = .ref a := hv
        rfl
      · obtain ⟨v, rfl, _, t, rfl⟩ := isAllU_one hc
        rw [emp_ofL]; exact .cons _ _ .nil
    refine wpAny_execs_cons (SE.2.2 lw0 _ _ vc0 s _ _ h1 R fun f b σ h' t' ht' R' hf hk => ?_)
    obtain ⟨rfl, W, a, c, rfl, hWa, gW, hc⟩ := hk
    obtain rfl : f = .next := hf
    -- the loop
    rw [lwB_rest.2]
    have hn : nameU (XW frN) "numbers" ⟨[("numbers", .ref nl), ("words", .ref W)], g, [(W, [.ref a]), (a, c)]⟩ (fun u => u = .ref nl) := name_loc (by decide) lw_lk.2 rfl rfl
    have nlW : nl ≠ W := fun q => by obtain ⟨o, e, _⟩ := hl; rw [q, gW] at e; cases e
    have nlO : ∀ p ∈ ([(W, [Value.ref a]), (a, c)] : Ow), g.get? p.1 = none := by
      obtain ⟨m, B, _⟩ := R'
      exact fun p hp => (B.own p hp).2.1
    let J : Nat → Ls → Ow → Prop := fun i loc ow => (∀ u, uput ("x" : Str) u loc = lwL nl W u) ∧ lkS ("words" : Str) loc = some (.ref W) ∧ ∃ as, OwIs W (lw (ns.take i)) ow as
    refine wpAny_execs_cons (for_gen (σ := ⟨[("numbers", .ref nl), ("words", .ref W)], g, [(W, [.ref a]), (a, c)]⟩) (k := fun f σ' => f = .next ∧ Le g σ'.g ∧ J ns.length σ'.loc σ'.ow) 40 HN lw_lk.1 (fun _ => rfl) J ?_ fun f b σ' h'' t'' ht'' R'' hf hk => ?_)
    · refine name2 HN.gl HN.en R' hn fun v u hu e => ?_
      subst e
      obtain rfl : v = .ref nl := hu
      have hlh : h'.IsList nl vs.toArray := by
        obtain ⟨m, B, _⟩ := R'
        obtain ⟨o, e, r⟩ := hl
        exact ⟨o, B.sr.keep _ _ e, r⟩
      refine wpAny_pyIter_list hlh ?_
      obtain ⟨R2, T⟩ := it_list (s := { s with heap := h', toks := t' }) (prog := prog) (w := w) hA.1 R' hl (by rw [hvl]; exact Nat.le_trans hz (by decide))
      have fI : h'.get? h'.objs.size = none := Heap.get?_none_of_le (Nat.le_refl _)
      refine ⟨_, _, _, vs.length, _, _, _, t', rfl, rfl, ht', R2, T, fun b hb => ?_, ⟨fun u => rfl, rfl, [a], ⟨by simp, by simpa using hWa, .head _, ⟨⟨c, .tail _ (.head _), hc⟩, trivial⟩⟩⟩, fun b hb q => ?_, fun i h hst b hb => ?_, fun i v loc ow hi' hP hJ => ?_, fun g1 loc ow le hJ => ?_⟩
      · rcases List.mem_cons.mp hb with rfl | hb
        · exact .head _
        · cases hb
      · rcases List.mem_cons.mp hb with rfl | hb
        · exact (fresh4 R' fI).2.2.2 q
        · rcases List.mem_cons.mp hb with rfl | hb
          · obtain ⟨p, hp, e⟩ := List.mem_map.mp q
            obtain ⟨o, e', _⟩ := hl
            have := nlO p hp
            rw [e, e'] at this; cases this
          · cases hb
      · rcases List.mem_cons.mp hb with rfl | hb
        · obtain ⟨o, e, _⟩ := hst.1; exact ⟨o, e⟩
        · rcases List.mem_cons.mp hb with rfl | hb
          · obtain ⟨o, e, _⟩ := hst.2; exact ⟨o, e⟩
          · cases hb
      · obtain ⟨x, t, ex, rfl⟩ := intsAre_get hi hP
        obtain ⟨j1, j2, as, j3⟩ := hJ
        refine ⟨.int x, ⟨t, rfl⟩, fun g1 le => ?_⟩
        rw [j1]
        have hlt : i < ns.length := by rw [← hvl]; exact hi'
        have gd := lw_good (ns.take i)
        rw [List.length_take, Nat.min_eq_left (by omega)] at gd
        have ets : ns.take (i + 1) = ns.take i ++ [x] := by rw [List.take_succ, ex]; rfl
        refine lw_turn (nl := nl) (x := x) (g := g1) j3 gd (by omega) fun as' ow' q4 => ⟨Le.rfl, fun u => rfl, rfl, as', ?_⟩
        rw [ets, lw_snoc]; exact q4
      · exact ⟨rfl, le, by rw [← hvl]; exact hJ⟩
    · obtain ⟨rfl, le, j1, j2, as, j3⟩ := hk
      obtain rfl : f = .next := hf
      rw [List.take_length] at j3
      refine ss2 SE.2.2 lwRest σ' (backU g _) ?_ _ _ _ ht'' R'' fun f b σ3 h3 t3 ht3 R3 hf hk => hq f b σ3 h3 t3 ht3 R3 hf hk
      rw [lwr_vc, j2]
      refine ⟨le, fun g' le' hp => ⟨W, rfl, W, as, rfl, hp _ j3.out, j3.inn.toG hp⟩⟩
end
end Mine
end
section
open PySem PySem.W PySem.Calls PyProof.Rows
namespace Mine
noncomputable abbrev cellO : Obj := { cls := .type "cell", data := .cell none }
section
variable {prog : Program} {w : World} {K : Frag} {fb : List (Addr × Obj)} {L : Addr} {env : Env} {A : Around} {E : Value → Shared → Prop}
theorem newEnv_cell {M : Model} {scope : Scope} {globals : Addr} {qual : Str} {x : Str} {s : Shared} {Q : Env → Shared → Prop} (hc1 : ∀ n, cellsFrom n scope.names [] = [(x, n)]) (hc2 : ∀ h, pushCells h scope.names = h.push cellO)
    (hQ : Q { scope, locals := s.heap.objs.size, globals, cells := [(x, s.heap.objs.size + 1)], qual, func := none, code := env.code, frame := env.frame, builtins := env.builtins } { s with heap := (s.heap.push { cls := .type "dict", data := .dict #[] }).push cellO }) :
    wpAny M A (newFunctionEnv scope globals [] [] qual none .none (some env)) Q E s := by
  simp only [newFunctionEnv, Option.isSome_some, if_true]
  refine wpAny_bind (wpAny_alloc ?_)
  refine wpAny_bind (wpAny_layCells _ (fun name kind cells => by cases hkc : kind == NameKind.cell <;> simp [hkc]) _ _ _ _ ?_)
  rw [hc2, hc1, show ({ s with heap := s.heap.push { cls := .type "dict", data := .dict #[] } } : Shared).heap.objs.size = s.heap.objs.size + 1 from Heap.size_push ..]
  exact wpAny_bind (wpAny_pure (wpAny_pure hQ))

theorem comp_cell {elt iter : Expr} {x : Str} {px : Pos} {scope : Scope} {pos : Pos} {I : Addr} {fpI wr : List Addr} {n : Nat} {P : Nat → Value → Prop} {St : Nat → Heap → Prop} {σ : S2} {s : Shared} {Q : Value → Shared → Prop} {F : Nat → Value → List Addr → Heap → Prop}
    (hkind : scope.kind = .function) (hc1 : ∀ n, cellsFrom n scope.names [] = [(x, n)]) (hc2 : ∀ h, pushCells h scope.names = h.push cellO) (hx : (relabel scope env).names.lookup x = some .cell)
    (h1 : 1 ≤ s.toks) (R0 : Rep2 K fb L σ s.heap) (hF : FrOk A L fb) (T : ItOk prog w A fb L σ s.heap I fpI wr n P St)
    (hFF : ∀ i v fp h h', F i v fp h → (∀ b ∈ fp, ∀ o, h.get? b = some o → h'.get? b = some o) → F i v fp h') (stE : (∀ i v fp h, F i v fp h → fp = []) ∨ ∀ i h, St i h → ∀ b ∈ wr, ∃ o, h.get? b = some o)
    (helt : ∀ C, EltOk prog w K A elt (compEnvC scope [(x, C + 1)] C env) σ C n P (fun v h => h.IsCell (C + 1) (some v)) [C + 1] F)
    (hR : ∀ D C h' tk ys, s.heap.get? D = none → 1 ≤ tk → Rep2 K fb L σ h' → PL h' D ys → ys.length = n → Made F (outC fb L D C wr [C + 1]) ys h' → Q (.ref D) { s with heap := h', toks := tk }) :
    wpAny (model prog w) A (newList []) (fun acc s₃ => wpAny (model prog w) A (newFunctionEnv scope env.globals [] [] env.qual none .none (some env)) (fun cenv s₄ =>
      codeAny (model prog w) A (.compStart (.ListComp elt [⟨.Name x px, iter, [], 0⟩] scope pos) 0 (.ref I) acc { cenv with scope := relabel scope env }) (compPost (model prog w) A E none Q acc cenv.locals) s₄) E s₃) E s := by
  refine wpAny_newObj_type (newEnv_cell hc1 hc2 ?_)
  dsimp only
  generalize hH2 : s.heap.push { cls := .type "list", dict := none, data := .seq ([] : List Value).toArray } = H2
  have hC : H2.objs.size = s.heap.objs.size + 1 := by rw [← hH2, Heap.size_push]
  have hDC : s.heap.objs.size ≠ H2.objs.size := by rw [hC]; exact Nat.ne_of_lt (Nat.lt_succ_self _)
  have hDv : H2.objs.size + 1 ≠ s.heap.objs.size := by rw [hC]; omega
  have fD : s.heap.get? s.heap.objs.size = none := Heap.get?_none_of_le (Nat.le_refl _)
  have fC : s.heap.get? H2.objs.size = none := Heap.get?_none_of_le (by rw [hC]; exact Nat.le_succ _)
  have fV : s.heap.get? (H2.objs.size + 1) = none := Heap.get?_none_of_le (by rw [hC]; omega)
  have hns₁ : ((H2.push { cls := .type "dict", data := .dict #[] }).push cellO).Ns H2.objs.size (fun _ => none) := (Heap.Ns.new H2 (.type "dict")).keeps fun b o e => Heap.get?_push_of_some _ e
  have hcl₁ : ((H2.push { cls := .type "dict", data := .dict #[] }).push cellO).IsCell (H2.objs.size + 1) none := ⟨cellO, by have := Heap.get?_push_size (H2.push { cls := .type "dict", data := .dict #[] }) (o := cellO) rfl; rwa [Heap.size_push] at this, rfl⟩
  have old2 : ∀ b o, H2.get? b = some o → ((H2.push { cls := .type "dict", data := .dict #[] }).push cellO).get? b = some o := fun b o e => Heap.get?_push_of_some _ (Heap.get?_push_of_some _ e)
  generalize (H2.push { cls := .type "dict", data := .dict #[] }).push cellO = h₁ at hns₁ hcl₁ old2 ⊢
  have old : ∀ b o, s.heap.get? b = some o → h₁.get? b = some o := fun b o e => old2 b o (hH2 ▸ Heap.get?_push_of_some _ e)
  have hacc : PL h₁ s.heap.objs.size [] := ⟨0, old2 _ _ (hH2 ▸ Heap.get?_push_size _ rfl)⟩
  have hst₁ : St 0 h₁ := T.W.frame _ _ _ T.st fun b _ o e => old b o e
  have d4 := fresh4 R0 fD
  have c4 := fresh4 R0 fC
  have v4 := fresh4 R0 fV
  have Df : s.heap.objs.size ∉ fpI := fun q => Nat.lt_irrefl _ (T.lt _ q)
  have Cf : H2.objs.size ∉ fpI := fun q => by have := T.lt _ q; rw [hC] at this; exact Nat.lt_irrefl _ (Nat.lt_of_succ_lt this)
  have Vf : H2.objs.size + 1 ∉ fpI := fun q => by have := T.lt _ q; rw [hC] at this; exact Nat.lt_irrefl _ (Nat.lt_of_succ_lt (Nat.lt_of_succ_lt this))
  have hlk : Env.kindOf (compEnvC scope [(x, H2.objs.size + 1)] H2.objs.size env) x = some .cell := hx
  have loop : ∀ s₃ : Shared, s₃ = { s with heap := h₁ } →
      codeAny (model prog w) A (.compLoop (.ListComp elt [⟨.Name x px, iter, [], 0⟩] scope pos) 0 (.ref I) (.ref s.heap.objs.size) (compEnvC scope [(x, H2.objs.size + 1)] H2.objs.size env)) (compPost (model prog w) A E none Q (.ref s.heap.objs.size) H2.objs.size) s₃ := by
    rintro s₃ rfl
    refine comp_loop (C := H2.objs.size) (vw := [H2.objs.size + 1]) (VA := fun h => ∃ v, h.IsCell (H2.objs.size + 1) v) (VI := fun v h => h.IsCell (H2.objs.size + 1) (some v)) T.W T.n h1 (R0.more old) hF hFF T.wg (fun b hb => ?_) ⟨d4.1, d4.2.1, d4.2.2.1, d4.2.2.2, Df, hDC⟩ ⟨c4.1, c4.2.1, c4.2.2.1, c4.2.2.2, Cf⟩ T.fp hst₁ hacc ⟨_, hns₁⟩ ⟨_, hcl₁⟩ (fun h h' ⟨v, o, e, r⟩ k => ⟨v, o, k _ (.head _) (Nat.succ_ne_self _) o e, r⟩) (fun v h q => ⟨_, q⟩) (fun h ⟨v, o, e, _⟩ b hb hc => ?_) stE ?_ (helt _) ?_
    · rcases List.mem_cons.mp hb with rfl | hb
      · exact ⟨v4.1, v4.2.1, v4.2.2.1, v4.2.2.2, hDv, Vf⟩
      · cases hb
    · rcases List.mem_cons.mp hb with rfl | hb
      · exact ⟨o, e⟩
      · cases hb
    · intro s' v Q' E' ⟨v0, hv0⟩ ⟨m, hm⟩ hq
      refine wpAny_storeName_cell (c := H2.objs.size + 1) (by simp [compEnvC, relabel, hkind]) hlk (by simp [compEnvC]) hv0 (fun h' hc' hs => ?_)
      exact hq h' _ hc' ⟨m, hm.sameBut hs (Ne.symm (Nat.succ_ne_self _))⟩ fun b o hb e => hs.extBut b o (fun q => hb (q ▸ .head _)) e
    · intro h' tk ys htk R' hns hpl hlen hM
      obtain ⟨m, hm⟩ := hns
      refine ⟨m, hm, fun h'' hs => ?_⟩
      have kp : ∀ b o, b ∉ [H2.objs.size] → h'.get? b = some o → h''.get? b = some o := fun b o hb e => hs.extBut b o (fun q => hb (q ▸ .head _)) e
      refine hR _ _ h'' tk ys fD htk (R'.away kp fun b hb => ?_) (hpl.keeps fun o e => kp _ o (fun q => by rcases List.mem_cons.mp q with q | q; exact hDC q; cases q) e) hlen (hM.keep hFF fun b o hb e => kp b o (fun q => hb (by rcases List.mem_cons.mp q with rfl | q; exact .tail _ (.head _); cases q)) e)
      rcases List.mem_cons.mp hb with rfl | hb
      · exact c4
      · cases hb
  exact codeAny_compStart_list (loop _ rfl) (T.W.self 0 _ _ _ hst₁ (loop _ rfl))

theorem it_range {σ : S2} {s : Shared} {r : Addr} {N : Nat} (hA : A.handled = none) (R : Rep2 K fb L σ s.heap) (hz : N ≤ sizeLine) (_hr : s.heap.get? r ≠ none) :
    let h' := s.heap.push { cls := .type "range_iterator", data := .fields #[rawInt 0, rawInt N, rawInt 1] }
    Rep2 K fb L σ h' ∧ ItOk prog w A fb L σ h' s.heap.objs.size [s.heap.objs.size] [s.heap.objs.size] N (fun i v => ∃ t, v = .int i t) (fun i h => IsRangeIter h s.heap.objs.size (0 + (i : Nat) * 1) ((N : Int) - (i : Nat)) 1) := by
  intro h'
  have le : Le s.heap h' := fun b o e => Heap.get?_push_of_some _ e
  have fI : s.heap.get? s.heap.objs.size = none := Heap.get?_none_of_le (Nat.le_refl _)
  have f4 := fresh4 R fI
  have W := Walks.range (prog := prog) (w := w) (A := A) hA s.heap.objs.size 0 1 N
  refine ⟨R.more le, ⟨?_, hz, ?_, fun b hb => ?_, fun b hb => ?_, fun b hb => ?_⟩⟩
  · exact ⟨W.sub, W.frame, fun i s Q E hi st hQ => W.item i s Q E hi st fun v h' tk hp => hQ v h' tk (by obtain ⟨t, rfl⟩ := hp; exact ⟨t, by simp⟩), W.done, W.self⟩
  · show h'.get? _ = some _
    have := Heap.get?_push_size s.heap (o := { cls := .type "range_iterator", data := .fields #[rawInt 0, rawInt N, rawInt 1] }) rfl
    simpa using this
  · rcases List.mem_cons.mp hb with rfl | hb
    · show _ < (s.heap.push _).objs.size; rw [Heap.size_push]; exact Nat.lt_succ_self _
    · cases hb
  · rcases List.mem_cons.mp hb with rfl | hb
    · exact f4
    · cases hb
  · rcases List.mem_cons.mp hb with rfl | hb
    · exact ⟨f4.2.1, f4.2.2.1⟩
    · cases hb
end
end Mine
end
section
open PySem PySem.W PySem.Calls PyProof.Rows
namespace Mine
noncomputable def rdA {α : Type} (K : Frag) : Nat → List Addr → Sem α → Option (α × List Obj)
  | 0, _, _ => none
  | n + 1, as, t => match t with
    | .pure a => some (a, [])
    | .rule _ k => rdA K n as (k ())
    | .at _ k => rdA K n as (k ())
    | .point _ k => rdA K n as (k ())
    | .load a _ k => (match K.lookup a with
      | some o => rdA K n as (k o)
      | none => none)
    | .alloc o k => (match as with
      | a :: r => (match rdA K n r (k a) with
        | some (v, os) => some (v, o :: os)
        | none => none)
      | [] => none)
    | _ => none
noncomputable def pushAll (h : Heap) : List Obj → Heap
  | [] => h
  | o :: r => pushAll (h.push o) r
noncomputable def Cons (N : Nat) : List Addr → Prop
  | [] => True
  | a :: r => a = N ∧ Cons (N + 1) r
theorem pushAll_keep : ∀ (os : List Obj) (h : Heap) b o, h.get? b = some o → (pushAll h os).get? b = some o
  | [], _, _, _, e => e
  | _ :: r, h, b, o, e => pushAll_keep r _ b o (Heap.get?_push_of_some _ e)
theorem rdA_snd {α : Type} {a : α} {K : Frag} {M : Model} {A : Around} {E : Value → Shared → Prop} {Q : α → Shared → Prop} : ∀ {n : Nat} {as : List Addr} {t : Sem α} {os : List Obj} {s : Shared}, K.In s.heap → Cons s.heap.objs.size as → rdA K n as t = some (a, os) → Q a { s with heap := pushAll s.heap os } → wpAny M A t Q E s
  | 0, _, _, _, _, _, _, h, _ => by cases h
  | n + 1, as, t, os, s, X, hc, h, hq => by
    cases t
    case pure =>
      have h : some (_, []) = some (a, os) := h
      cases h; exact fun _ _ _ => hq
    case rule => exact fun Γ p hΓ => rdA_snd (n := n) X hc h hq Γ p hΓ
    case «at» => exact fun Γ p hΓ => rdA_snd (n := n) X hc h hq Γ _ hΓ
    case point => exact fun Γ p hΓ => rdA_snd (n := n) X hc h hq Γ p hΓ
    case load b _ k =>
      have h : (match K.lookup b with
        | some o => rdA K n as (k o)
        | none => none) = some (a, os) := h
      split at h
      · rename_i o ho
        exact nd_load (X _ _ ho) (rdA_snd X hc h hq)
      · cases h
    case alloc o k =>
      cases as with
      | nil => exact (no_some h).elim
      | cons a' r =>
        have h : (match rdA K n r (k a') with
          | some (v, os) => some (v, o :: os)
          | none => none) = some (a, os) := h
        split at h
        · rename_i v os' hr
          cases h
          obtain ⟨rfl, hc⟩ := hc
          have X' : K.In (s.heap.push o) := X.keeps fun b o e => Heap.get?_push_of_some _ e
          have hc' : Cons (s.heap.push o).objs.size r := by rw [Heap.size_push]; exact hc
          exact fun Γ p hΓ => rdA_snd (s := { s with heap := s.heap.push o }) X' hc' hr hq Γ p hΓ
        · cases h
    all_goals exact (no_some h).elim
end Mine
end
section
open PySem PySem.W PySem.Calls PyProof.Rows
namespace Mine
noncomputable def newB : List Stmt × List (Str × NameKind) := defOf "__new__" (clsOf "IOBase" pwB)
noncomputable def noP : Pos := ⟨0, 0, 0, 0⟩
noncomputable def newT (q : List Pos) (b : List Stmt) : List Stmt :=
  [.If (.BoolOp .And [.Compare (.Name "cls" (q.getD 0 noP)) [.IsNot] [.Name "BytesIO" (q.getD 1 noP)] (q.getD 2 noP), .Compare (.Name "cls" (q.getD 3 noP)) [.IsNot] [.Name "StringIO" (q.getD 4 noP)] (q.getD 5 noP)] (q.getD 6 noP)) b [] (q.getD 7 noP), .Return (some (.Call (.Attribute (.Name "object" (q.getD 8 noP)) "__new__" (q.getD 9 noP)) [.Name "cls" (q.getD 10 noP)] [] (q.getD 11 noP))) (q.getD 12 noP)]
noncomputable def newS (l : List Stmt) : Prop := ∃ q b, l = newT q b ∧ ((q.getD 9 noP).endLine == (q.getD 11 noP).line) = true
noncomputable def newP : List Stmt → List Pos × List Stmt
  | [.If (.BoolOp _ [.Compare (.Name _ q0) _ [.Name _ q1] q2, .Compare (.Name _ q3) _ [.Name _ q4] q5] q6) b _ q7, .Return (some (.Call (.Attribute (.Name _ q8) _ q9) [.Name _ q10] _ q11)) q12] => ([q0, q1, q2, q3, q4, q5, q6, q7, q8, q9, q10, q11, q12], b)
  | _ => ([], [])
theorem newS_ok : newS newB.1 := ⟨(newP newB.1).1, (newP newB.1).2, by kernel_rfl, by kernel_rfl⟩

noncomputable def gl3 : List (Str × Value) := [("BytesIO", .ref 364), ("StringIO", .ref 611), ("object", .type "object"), ("isinstance", .builtin "isinstance"), ("str", .type "str"), ("deque", .type "collections.deque"), ("shlex", .ref 746), ("list", .type "list")]
structure StK (K : Frag) (h : Heap) : Prop where
  kin : K.In h
  nl : h.NoLimit
  mg : ∃ mg, h.Ns mainGlobals mg
  mb : ∃ mb, h.Ns builtinsNs mb
theorem StK.up {K : Frag} {h h' : Heap} (S : StK K h) (le : Le h h') : StK K h' := ⟨S.kin.keeps le, S.nl.keeps le, let ⟨a, b⟩ := S.mg; ⟨a, b.keeps le⟩, let ⟨a, b⟩ := S.mb; ⟨a, b.keeps le⟩⟩

section
variable {prog : Program} {w : World} {K : Frag} {A : Around} {s : Shared} {E : Value → Shared → Prop} {env : Env} {sc : List (Str × NameKind)} {L : Addr} {m : Str → Option Value}
theorem glob_ev {x : Str} {p : Pos} {v : Value} {Q : Value → Shared → Prop} (S : StK K s.heap) (hE : EnvOk env sc L) (hs : sc.lookup x = some .globalImplicit) (G : GlobOk K x v) (hd : (x == ("__debug__" : Str)) = false) (hq : Q v s) : wpAny (model prog w) A (eval (.Name x p) env) Q E s := by
  refine Name_function_global hE.kind ((show env.kindOf x = sc.lookup x by unfold Env.kindOf; rw [hE.sc]).trans hs) ?_ hd
  obtain ⟨mg, hg⟩ := S.mg
  obtain ⟨mb, hb⟩ := S.mb
  rcases G.1 with e | ⟨e1, e2⟩
  · exact loadGlobal_global (by rw [hE.glo]; exact hg) (ns_of S.kin hg e) hq
  · exact loadGlobal_builtin (by rw [hE.glo]; exact hg) (ns_of S.kin hg e1) (by rw [hE.blt]; exact hb) (ns_of S.kin hb e2) hq
theorem loc_ev {x : Str} {p : Pos} {v : Value} {Q : Value → Shared → Prop} (hE : EnvOk env sc L) (hs : sc.lookup x = some .local) (hn : s.heap.Ns L m) (hv : m x = some v) (hd : (x == ("__debug__" : Str)) = false) (hq : Q v s) : wpAny (model prog w) A (eval (.Name x p) env) Q E s :=
  wpAny_Name (wpAny_loadName_local hE.kind ((show env.kindOf x = sc.lookup x by unfold Env.kindOf; rw [hE.sc]).trans hs) (by rw [hE.loc]; exact hn) hv hq) hd

theorem le_pushAll (os : List Obj) (h : Heap) : Le h (pushAll h os) := fun b o e => pushAll_keep os h b o e
theorem fresh_of_le {h h' : Heap} {a : Addr} (le : Le h h') (e : h'.get? a = none) : h.get? a = none := by
  cases q : h.get? a with
  | none => rfl
  | some o => rw [le a o q] at e; cases e
theorem entry_on : entryFor table "object.__new__" = some Builtin.«object.__new__» := entryFor_of_tree (by kernel_rfl)

theorem ty_obj : typeOf (.type "object") = pure (.type "type") := by kernel_rfl
theorem hnd : handedIn (.builtin "object.__new__") = true := rfl
theorem st_obj : Manifest.isStub "object" = false := by kernel_rfl
theorem new_run {l : List Stmt} {Q : Flow → Shared → Prop} {h₀ : Heap} (h : newS l) (S₀ : StK K h₀) (F : Fr h₀ L s.heap m) (hg : gl3.all (globB K) = true)
    (b : ∀ N, rdA K 300 [N, N + 1] (Builtin.«object.__new__» ⟨[.ref 611], []⟩) = some (.done (.ret (.ref (N + 1))), [emptyDict, instObj 611 N])) (hc : rdK K 300 (callAny (.builtin "object.__new__") ⟨[.ref 611], []⟩) = some (.again (.builtin "object.__new__" ⟨[.ref 611], []⟩)))
    (hf : findCls K (.type "object") (.type "type") (Str.ofString "__new__") = some (.val (.builtin "object.__new__")))
    (hi1 : rdK K 20 (compareOp .IsNot (.ref 611) (.ref 364)) = some (.bool true)) (hi2 : rdK K 20 (compareOp .IsNot (.ref 611) (.ref 611)) = some (.bool false))
    (hE : EnvOk env sc L) (hs : (sc.lookup (Str.ofString "cls"), sc.lookup (Str.ofString "BytesIO"), sc.lookup (Str.ofString "StringIO"), sc.lookup (Str.ofString "object")) = (some NameKind.local, some NameKind.globalImplicit, some NameKind.globalImplicit, some NameKind.globalImplicit)) (hm : m "cls" = some (.ref 611))
    (hR : ∀ h' t' a d, Le s.heap h' → s.heap.get? a = none → s.heap.get? d = none → a ≠ d → h'.get? a = some (instObj 611 d) → h'.get? d = some emptyDict → Q (.ret (.ref a)) { s with heap := h', toks := t' }) :
    wpAny (model prog w) A (execs l env) Q E s := by
  simp only [Prod.mk.injEq] at hs
  obtain ⟨s1, s2, s3, s4⟩ := hs
  have S := S₀.up F.keep
  have hn := F.ns
  have gg : ∀ x v, (x, v) ∈ gl3 → GlobOk K x v := fun x v e => globB_ok (List.all_eq_true.mp hg _ e)
  · obtain ⟨q, bb, rfl, hp⟩ := h
    unfold newT
    refine wpAny_execs_cons (wpAny_If (isTrue_and (wpAny_isTrue_Compare1 (loc_ev hE s1 hn hm rfl (glob_ev S hE s2 (gg _ (.ref 364) (by simp [gl3])) rfl (rdK_snd S.kin hi1 (wpAny_truthy_bool ?_)))) rfl)))
    refine isTrue_and (wpAny_isTrue_Compare1 (loc_ev hE s1 hn hm rfl (glob_ev S hE s3 (gg _ (.ref 611) (by simp [gl3])) rfl (rdK_snd S.kin hi2 (wpAny_truthy_bool ?_)))) rfl)
    show wpAny _ _ (execs [] env) _ _ _
    refine wpAny_execs_nil (wpAny_execs_cons (wpAny_Return_some ?_))
    refine MethodCall_ (glob_ev S hE s4 (gg _ (.type "object") (by simp [gl3])) rfl ?_) (method_eq rfl (by show (true && _) = true; rw [hp]; rfl) rfl)
    refine method_type (T := "object") (name := Str.ofString "__new__") (v := .builtin "object.__new__") (s := s) F S₀.kin ty_obj st_obj hf hnd ?_
    refine callWith_builtin1 (loc_ev (s := { s with toks := s.toks + 1 }) hE s1 hn hm rfl ?_)
    refine wpAny_call (codeAny_of_tree ?_)
    show wpAny _ _ (callAny (.builtin "object.__new__") ⟨[.ref 611], []⟩) _ _ _
    refine rdK_snd (s := { s with toks := s.toks + 1 }) S.kin hc ⟨by decide +kernel, ?_⟩
    refine codeAny_builtin entry_on ?_
    refine rdA_snd (s := { s with toks := s.toks + 1 }) (as := [s.heap.objs.size, s.heap.objs.size + 1]) S.kin ⟨rfl, by show _ = _; rfl, trivial⟩ (b _) ?_
    refine hR _ _ (s.heap.objs.size + 1) s.heap.objs.size (le_pushAll _ _) (Heap.get?_none_of_le (Nat.le_succ _)) (Heap.get?_none_of_le (Nat.le_refl _)) (Nat.succ_ne_self _) ?_ ?_
    · show ((s.heap.push emptyDict).push (instObj 611 s.heap.objs.size)).get? _ = _
      heap_get
    · show ((s.heap.push emptyDict).push (instObj 611 s.heap.objs.size)).get? _ = _
      heap_get

class KH (KK : World → Frag) : Prop where
  gl : ∀ w, gl3.all (globB (KK w)) = true
  r104 : ∀ w, fnRow (KK w) 104 (objAt (KK w) 104) (fnAt (KK w) 104) = (some (objAt (KK w) 104), .func (fnAt (KK w) 104), .stmts newB.1, true, newB.2, .function, false, false, mainGlobals, builtinsNs)
  b104 : ∀ w v N, rdA (KK w) 300 [N, N + 1] (bindArgs (fnAt (KK w) 104) ⟨[.ref 611, v], []⟩) = some ([(Str.ofString "cls", Value.ref 611), (Str.ofString "args", Value.ref N), (Str.ofString "kwargs", Value.ref (N + 1))], [({ cls := .type "tuple", data := .seq #[v] } : Obj), ({ cls := .type "dict", data := .dict #[] } : Obj)])
  onew : ∀ w N, rdA (KK w) 300 [N, N + 1] (Builtin.«object.__new__» ⟨[.ref 611], []⟩) = some (.done (.ret (.ref (N + 1))), [emptyDict, instObj 611 N])
  ocall : ∀ w, rdK (KK w) 300 (callAny (.builtin "object.__new__") ⟨[.ref 611], []⟩) = some (.again (.builtin "object.__new__" ⟨[.ref 611], []⟩))
  row : ∀ w, (findCls (KK w) (.type "object") (.type "type") (Str.ofString "__new__"), rdK (KK w) 20 (compareOp .IsNot (.ref 611) (.ref 364)), rdK (KK w) 20 (compareOp .IsNot (.ref 611) (.ref 611)), instIn (KK w) (.ref 611) (.type "type"), readsIn (KK w) 611 (.type "type"), findCls (KK w) (.ref 611) (.type "type") (Str.ofString "__new__"), recIn (KK w) 108 "staticmethod", findIn (KK w) (.ref 611) (Str.ofString "__init__"), typeIn (KK w) (.ref 381), mroIn (KK w) 611 (.ref 611)) = (some (.val (.builtin "object.__new__")), some (.bool true), some (.bool false), some true, true, some (.get (.builtin "staticmethod.__get__") (.ref 108) .none (.ref 611)), some [.ref 104], some (some (.ref 381)), some (.type "function"), some true)
  sio : ∀ w v, rdK (KK w) 200 (callAny (.ref 611) ⟨[v], []⟩) = some (.again (.call (.builtin "type.__call__") ⟨[.ref 611, v], []⟩))
  mro : ∀ w, rdK (KK w) 50 (mroOf (.ref 611)) = some [.ref 611, .ref 134, .ref 107, .type "object"]
  mby : ∀ w, rdK (KK w) 200 (Bind.madeBy (.ref 611)) = some none
  f381 : ∀ w, FnK (KK w) 381 (defOf "__init__" sioB) ["self", "initial_value", "newline"]
  b381 : ∀ w a b, rdK (KK w) 200 (bindArgs (fnAt (KK w) 381) ⟨[a, b], []⟩) = some [(Str.ofString "self", a), (Str.ofString "initial_value", b), (Str.ofString "newline", Value.str (Str.ofString "\n") 773)]
  f388 : ∀ w, FnK (KK w) 388 (defOf "__translated" sioB) ["self", "s"]
  kl : ∀ w, klB (KK w) [] names1 [] [("_StringIO__translated", 388)] [] [("type", .type "type"), ("str", .type "str")] = true

theorem new_sc : (newB.2.lookup (Str.ofString "cls"), newB.2.lookup (Str.ofString "BytesIO"), newB.2.lookup (Str.ofString "StringIO"), newB.2.lookup (Str.ofString "object")) = (some NameKind.local, some NameKind.globalImplicit, some NameKind.globalImplicit, some NameKind.globalImplicit) := by kernel_rfl
theorem new_loc : (newB.2.all fun x => decide (x.2 ≠ .cell)) = true ∧ newB.2.lookup (Str.ofString "args") = some .local ∧ newB.2.lookup (Str.ofString "kwargs") = some .local := ⟨by kernel_rfl, by kernel_rfl, by kernel_rfl⟩
variable {KK : World → Frag} [KH KK]
theorem new_call {v : Value} {R : Result → Shared → Prop} (hA : okA 1 A) (S : StK (KK w) s.heap)
    (hR : ∀ h' t' a d, Le s.heap h' → s.heap.get? a = none → s.heap.get? d = none → a ≠ d → h'.get? a = some (instObj 611 d) → h'.get? d = some emptyDict → R (.ok (.ret (.ref a))) { s with heap := h', toks := t' }) :
    codeAny (model prog w) A (.call (.ref 104) ⟨[.ref 611, v], []⟩) R s := by
  have row := KH.row (KK := KK) w
  have r := KH.r104 (KK := KK) w
  simp only [fnRow, Prod.mk.injEq] at row r
  obtain ⟨f1, f2, f3, -⟩ := row
  obtain ⟨r1, r2, r3, r4, r5, r6, r7, r8, r9, r10⟩ := r
  have hnS : newS newB.1 := newS_ok
  have le1 := le_pushAll [({ cls := .type "tuple", data := .seq #[v] } : Obj), ({ cls := .type "dict", data := .dict #[] } : Obj)] s.heap
  refine codeAny_call_function (by have := hA.2.1; omega) (S.kin _ _ r1) r2 r7 r8 r3 (codeRec_of S.kin r4) ?_
  refine rdA_snd (as := [s.heap.objs.size, s.heap.objs.size + 1]) S.kin ⟨rfl, rfl, trivial⟩ (KH.b104 w v _) ?_
  generalize pushAll s.heap [({ cls := .type "tuple", data := .seq #[v] } : Obj), ({ cls := .type "dict", data := .dict #[] } : Obj)] = h1 at le1 ⊢
  refine wpAny_newFunctionEnv ?_ ?_ (fun h₀ hns₀ hsb₀ => ⟨(S.nl.keeps le1).fresh _ hsb₀, codeAny_func ?_⟩) r6
  · intro x hx
    exact of_decide_eq_true (List.all_eq_true.mp new_loc.1 x (r5 ▸ hx))
  · intro x hx
    rw [r5]
    have c := new_sc
    simp only [Prod.mk.injEq] at c
    simp only [List.mem_cons, List.not_mem_nil, or_false] at hx
    rcases hx with rfl | rfl | rfl
    · exact c.1
    · exact new_loc.2.1
    · exact new_loc.2.2
  · have S1 := S.up le1
    have hk : Le h1 h₀ := fun b o e => hsb₀.extBut b o (Nat.ne_of_lt (Heap.lt_size e)) (Heap.get?_push_of_some _ e)
    refine new_run (K := KK w) (sc := newB.2) (L := h1.objs.size) (h₀ := h1) hnS S1 ⟨hns₀, hk, Nat.le_refl _⟩ (KH.gl w) (KH.onew w) (KH.ocall w) f1 f2 f3 ⟨r6, rfl, r9, r10, r5⟩ new_sc rfl ?_
    intro h' t' a d le ha hd hne h3 h4
    have le2 : Le s.heap h₀ := le1.trans hk
    exact hR h' _ a d (le2.trans le) (fresh_of_le le2 ha) (fresh_of_le le2 hd) hne h3 h4
end
end Mine
end
section
open PySem PySem.W PySem.Calls PyProof.Rows
namespace Mine
noncomputable def wc : Str := "abcdfeghijklmnopqrstuvwxyzABCDEFGHIJKLMNOPQRSTUVWXYZ0123456789_ßàáâãäåæçèéêëìíîïðñòóôõöøùúûüýþÿÀÁÂÃÄÅÆÇÈÉÊËÌÍÎÏÐÑÒÓÔÕÖØÙÚÛÜÝÞ"
noncomputable def lexF (st : AV) (tok : AV) (ln : Int) : Fs := [("instream", .sio), ("infile", .none), ("posix", .bool true), ("eof", .none), ("commenters", .str ""), ("wordchars", .str wc), ("whitespace", .str " \t\r\n"), ("whitespace_split", .bool true), ("quotes", .str "'\""), ("escape", .str "\\"), ("escapedquotes", .str "\""), ("state", st), ("pushback", .q1), ("lineno", .sym ln), ("debug", .int 0), ("token", tok), ("filestack", .q2), ("source", .none), ("_punctuation_chars", .str "")]
noncomputable def sg (c : Nat) : Str := ⟨#[c]⟩
noncomputable def turnB : List Stmt := match rtB.1 with
  | _ :: _ :: .While _ b _ _ :: _ => b
  | _ => []
noncomputable def cT (b : Str) (p : Int) (r : AV) (p' : Int) (f : Value) (args : List AV) (f0 f1 : Fs) (k : AV → Fs → Fs → Prop) : Prop := match f with
  | .ref a => (match Nat.beq a 557 with
    | true => args = [.sio, .int 1] ∧ f1 = s1Of b p ∧ k r f0 (s1Of b p')
    | false => c0 1 (.ref a) args f0 f1 k)
  | _ => False
noncomputable def XT (b : Str) (p : Int) (r : AV) (p' : Int) : Cx := { X0 with sc := rtB.2, c := cT b p r p' }
noncomputable def tl (q : Bool) (e : Str) : Fs := [("self", .lex), ("quoted", .bool q), ("escapedstate", .str e)]
noncomputable def tl' (q : Bool) (e : Str) (c : Str) : Fs := [("self", .lex), ("quoted", .bool q), ("escapedstate", .str e), ("nextchar", .str c)]
theorem t_sp_a (b : Str) (p : Int) (q : Bool) (e : Str) (t : Str) (ln : Int) (k : AFl → LS → Prop) : (ev (XT b p (.str (sg 97)) (p + 1)) 40).ss turnB ⟨tl q e, lexF (.str (sg 32)) (.txt t) ln, s1Of b p⟩ k =
    ([AV.sio, .int 1] = [.sio, .int 1] ∧ s1Of b p = s1Of b p ∧ k .next ⟨tl' q e (sg 97), lexF (.str (sg 97)) (.str (sg 97)) ln, s1Of b (p + 1)⟩) := by kernel_rfl
theorem t_sp_q1 (b : Str) (p : Int) (q : Bool) (e : Str) (t : Str) (ln : Int) (k : AFl → LS → Prop) : (ev (XT b p (.str (sg 39)) (p + 1)) 40).ss turnB ⟨tl q e, lexF (.str (sg 32)) (.txt t) ln, s1Of b p⟩ k =
    ([AV.sio, .int 1] = [.sio, .int 1] ∧ s1Of b p = s1Of b p ∧ k .next ⟨tl' q e (sg 39), lexF (.str (sg 39)) (.txt t) ln, s1Of b (p + 1)⟩) := by kernel_rfl
theorem t_sp_q2 (b : Str) (p : Int) (q : Bool) (e : Str) (t : Str) (ln : Int) (k : AFl → LS → Prop) : (ev (XT b p (.str (sg 34)) (p + 1)) 40).ss turnB ⟨tl q e, lexF (.str (sg 32)) (.txt t) ln, s1Of b p⟩ k =
    ([AV.sio, .int 1] = [.sio, .int 1] ∧ s1Of b p = s1Of b p ∧ k .next ⟨tl' q e (sg 34), lexF (.str (sg 34)) (.txt t) ln, s1Of b (p + 1)⟩) := by kernel_rfl
theorem t_sp_end (b : Str) (p : Int) (q : Bool) (e : Str) (t : Str) (ln : Int) (k : AFl → LS → Prop) : (ev (XT b p (.str "") p) 40).ss turnB ⟨tl q e, lexF (.str (sg 32)) (.txt t) ln, s1Of b p⟩ k =
    ([AV.sio, .int 1] = [.sio, .int 1] ∧ s1Of b p = s1Of b p ∧ k .brk ⟨tl' q e "", lexF .none (.txt t) ln, s1Of b p⟩) := by kernel_rfl
theorem t_none_end (b : Str) (p : Int) (q : Bool) (e : Str) (t : Str) (ln : Int) (k : AFl → LS → Prop) : (ev (XT b p (.str "") p) 40).ss turnB ⟨tl q e, lexF .none (.txt t) ln, s1Of b p⟩ k =
    ([AV.sio, .int 1] = [.sio, .int 1] ∧ s1Of b p = s1Of b p ∧ k .brk ⟨tl' q e "", lexF .none (.str "") ln, s1Of b p⟩) := by kernel_rfl
theorem t_a_a (b : Str) (p : Int) (q : Bool) (e : Str) (t : Str) (ln : Int) (k : AFl → LS → Prop) : (ev (XT b p (.str (sg 97)) (p + 1)) 40).ss turnB ⟨tl q e, lexF (.str (sg 97)) (.txt t) ln, s1Of b p⟩ k =
    ([AV.sio, .int 1] = [.sio, .int 1] ∧ s1Of b p = s1Of b p ∧ t.length + (sg 97).length ≤ sizeLine ∧ k .next ⟨tl' q e (sg 97), lexF (.str (sg 97)) (.txt (t ++ (sg 97))) ln, s1Of b (p + 1)⟩) := by kernel_rfl
theorem t_a_q1 (b : Str) (p : Int) (q : Bool) (e : Str) (t : Str) (ln : Int) (k : AFl → LS → Prop) : (ev (XT b p (.str (sg 39)) (p + 1)) 40).ss turnB ⟨tl q e, lexF (.str (sg 97)) (.txt t) ln, s1Of b p⟩ k =
    ([AV.sio, .int 1] = [.sio, .int 1] ∧ s1Of b p = s1Of b p ∧ k .next ⟨tl' q e (sg 39), lexF (.str (sg 39)) (.txt t) ln, s1Of b (p + 1)⟩) := by kernel_rfl
theorem t_a_q2 (b : Str) (p : Int) (q : Bool) (e : Str) (t : Str) (ln : Int) (k : AFl → LS → Prop) : (ev (XT b p (.str (sg 34)) (p + 1)) 40).ss turnB ⟨tl q e, lexF (.str (sg 97)) (.txt t) ln, s1Of b p⟩ k =
    ([AV.sio, .int 1] = [.sio, .int 1] ∧ s1Of b p = s1Of b p ∧ k .next ⟨tl' q e (sg 34), lexF (.str (sg 34)) (.txt t) ln, s1Of b (p + 1)⟩) := by kernel_rfl
theorem t_a_end (b : Str) (p : Int) (q : Bool) (e : Str) (t : Str) (ln : Int) (k : AFl → LS → Prop) : (ev (XT b p (.str "") p) 40).ss turnB ⟨tl q e, lexF (.str (sg 97)) (.txt t) ln, s1Of b p⟩ k =
    ([AV.sio, .int 1] = [.sio, .int 1] ∧ s1Of b p = s1Of b p ∧ k .brk ⟨tl' q e "", lexF .none (.txt t) ln, s1Of b p⟩) := by kernel_rfl
theorem t_a_sp_true (b : Str) (p : Int) (q : Bool) (e : Str) (t : Str) (ln : Int) (k : AFl → LS → Prop) : (ev (XT b p (.str (sg 32)) (p + 1)) 40).ss turnB ⟨tl true e, lexF (.str (sg 97)) (.txt t) ln, s1Of b p⟩ k =
    ([AV.sio, .int 1] = [.sio, .int 1] ∧ s1Of b p = s1Of b p ∧ ((t.length ≠ 0 → k .brk ⟨tl' true e (sg 32), lexF (.str (sg 32)) (.txt t) ln, s1Of b (p + 1)⟩) ∧ (t.length = 0 → k .brk ⟨tl' true e (sg 32), lexF (.str (sg 32)) (.txt t) ln, s1Of b (p + 1)⟩))) := by kernel_rfl
theorem t_a_sp_false (b : Str) (p : Int) (q : Bool) (e : Str) (t : Str) (ln : Int) (k : AFl → LS → Prop) : (ev (XT b p (.str (sg 32)) (p + 1)) 40).ss turnB ⟨tl false e, lexF (.str (sg 97)) (.txt t) ln, s1Of b p⟩ k =
    ([AV.sio, .int 1] = [.sio, .int 1] ∧ s1Of b p = s1Of b p ∧ ((t.length ≠ 0 → k .brk ⟨tl' false e (sg 32), lexF (.str (sg 32)) (.txt t) ln, s1Of b (p + 1)⟩) ∧ (t.length = 0 → k .cont ⟨tl' false e (sg 32), lexF (.str (sg 32)) (.txt t) ln, s1Of b (p + 1)⟩))) := by kernel_rfl
theorem t_q1_q1 (b : Str) (p : Int) (q : Bool) (e : Str) (t : Str) (ln : Int) (k : AFl → LS → Prop) : (ev (XT b p (.str (sg 39)) (p + 1)) 40).ss turnB ⟨tl q e, lexF (.str (sg 39)) (.txt t) ln, s1Of b p⟩ k =
    ([AV.sio, .int 1] = [.sio, .int 1] ∧ s1Of b p = s1Of b p ∧ k .next ⟨tl' true e (sg 39), lexF (.str (sg 97)) (.txt t) ln, s1Of b (p + 1)⟩) := by kernel_rfl
theorem t_q1_34 (b : Str) (p : Int) (q : Bool) (e : Str) (t : Str) (ln : Int) (k : AFl → LS → Prop) : (ev (XT b p (.str (sg 34)) (p + 1)) 40).ss turnB ⟨tl q e, lexF (.str (sg 39)) (.txt t) ln, s1Of b p⟩ k =
    ([AV.sio, .int 1] = [.sio, .int 1] ∧ s1Of b p = s1Of b p ∧ t.length + (sg 34).length ≤ sizeLine ∧ k .next ⟨tl' true e (sg 34), lexF (.str (sg 39)) (.txt (t ++ (sg 34))) ln, s1Of b (p + 1)⟩) := by kernel_rfl
theorem t_q1_92 (b : Str) (p : Int) (q : Bool) (e : Str) (t : Str) (ln : Int) (k : AFl → LS → Prop) : (ev (XT b p (.str (sg 92)) (p + 1)) 40).ss turnB ⟨tl q e, lexF (.str (sg 39)) (.txt t) ln, s1Of b p⟩ k =
    ([AV.sio, .int 1] = [.sio, .int 1] ∧ s1Of b p = s1Of b p ∧ t.length + (sg 92).length ≤ sizeLine ∧ k .next ⟨tl' true e (sg 92), lexF (.str (sg 39)) (.txt (t ++ (sg 92))) ln, s1Of b (p + 1)⟩) := by kernel_rfl
theorem t_q1_97 (b : Str) (p : Int) (q : Bool) (e : Str) (t : Str) (ln : Int) (k : AFl → LS → Prop) : (ev (XT b p (.str (sg 97)) (p + 1)) 40).ss turnB ⟨tl q e, lexF (.str (sg 39)) (.txt t) ln, s1Of b p⟩ k =
    ([AV.sio, .int 1] = [.sio, .int 1] ∧ s1Of b p = s1Of b p ∧ t.length + (sg 97).length ≤ sizeLine ∧ k .next ⟨tl' true e (sg 97), lexF (.str (sg 39)) (.txt (t ++ (sg 97))) ln, s1Of b (p + 1)⟩) := by kernel_rfl
theorem t_q1_32 (b : Str) (p : Int) (q : Bool) (e : Str) (t : Str) (ln : Int) (k : AFl → LS → Prop) : (ev (XT b p (.str (sg 32)) (p + 1)) 40).ss turnB ⟨tl q e, lexF (.str (sg 39)) (.txt t) ln, s1Of b p⟩ k =
    ([AV.sio, .int 1] = [.sio, .int 1] ∧ s1Of b p = s1Of b p ∧ t.length + (sg 32).length ≤ sizeLine ∧ k .next ⟨tl' true e (sg 32), lexF (.str (sg 39)) (.txt (t ++ (sg 32))) ln, s1Of b (p + 1)⟩) := by kernel_rfl
theorem t_q1_10 (b : Str) (p : Int) (q : Bool) (e : Str) (t : Str) (ln : Int) (k : AFl → LS → Prop) : (ev (XT b p (.str (sg 10)) (p + 1)) 40).ss turnB ⟨tl q e, lexF (.str (sg 39)) (.txt t) ln, s1Of b p⟩ k =
    ([AV.sio, .int 1] = [.sio, .int 1] ∧ s1Of b p = s1Of b p ∧ t.length + (sg 10).length ≤ sizeLine ∧ k .next ⟨tl' true e (sg 10), lexF (.str (sg 39)) (.txt (t ++ (sg 10))) (ln + 1), s1Of b (p + 1)⟩) := by kernel_rfl
theorem t_q2_q2 (b : Str) (p : Int) (q : Bool) (e : Str) (t : Str) (ln : Int) (k : AFl → LS → Prop) : (ev (XT b p (.str (sg 34)) (p + 1)) 40).ss turnB ⟨tl q e, lexF (.str (sg 34)) (.txt t) ln, s1Of b p⟩ k =
    ([AV.sio, .int 1] = [.sio, .int 1] ∧ s1Of b p = s1Of b p ∧ k .next ⟨tl' true e (sg 34), lexF (.str (sg 97)) (.txt t) ln, s1Of b (p + 1)⟩) := by kernel_rfl
theorem t_q2_92 (b : Str) (p : Int) (q : Bool) (e : Str) (t : Str) (ln : Int) (k : AFl → LS → Prop) : (ev (XT b p (.str (sg 92)) (p + 1)) 40).ss turnB ⟨tl q e, lexF (.str (sg 34)) (.txt t) ln, s1Of b p⟩ k =
    ([AV.sio, .int 1] = [.sio, .int 1] ∧ s1Of b p = s1Of b p ∧ k .next ⟨tl' true (sg 34) (sg 92), lexF (.str (sg 92)) (.txt t) ln, s1Of b (p + 1)⟩) := by kernel_rfl
theorem t_q2_39 (b : Str) (p : Int) (q : Bool) (e : Str) (t : Str) (ln : Int) (k : AFl → LS → Prop) : (ev (XT b p (.str (sg 39)) (p + 1)) 40).ss turnB ⟨tl q e, lexF (.str (sg 34)) (.txt t) ln, s1Of b p⟩ k =
    ([AV.sio, .int 1] = [.sio, .int 1] ∧ s1Of b p = s1Of b p ∧ t.length + (sg 39).length ≤ sizeLine ∧ k .next ⟨tl' true e (sg 39), lexF (.str (sg 34)) (.txt (t ++ (sg 39))) ln, s1Of b (p + 1)⟩) := by kernel_rfl
theorem t_q2_97 (b : Str) (p : Int) (q : Bool) (e : Str) (t : Str) (ln : Int) (k : AFl → LS → Prop) : (ev (XT b p (.str (sg 97)) (p + 1)) 40).ss turnB ⟨tl q e, lexF (.str (sg 34)) (.txt t) ln, s1Of b p⟩ k =
    ([AV.sio, .int 1] = [.sio, .int 1] ∧ s1Of b p = s1Of b p ∧ t.length + (sg 97).length ≤ sizeLine ∧ k .next ⟨tl' true e (sg 97), lexF (.str (sg 34)) (.txt (t ++ (sg 97))) ln, s1Of b (p + 1)⟩) := by kernel_rfl
theorem t_q2_32 (b : Str) (p : Int) (q : Bool) (e : Str) (t : Str) (ln : Int) (k : AFl → LS → Prop) : (ev (XT b p (.str (sg 32)) (p + 1)) 40).ss turnB ⟨tl q e, lexF (.str (sg 34)) (.txt t) ln, s1Of b p⟩ k =
    ([AV.sio, .int 1] = [.sio, .int 1] ∧ s1Of b p = s1Of b p ∧ t.length + (sg 32).length ≤ sizeLine ∧ k .next ⟨tl' true e (sg 32), lexF (.str (sg 34)) (.txt (t ++ (sg 32))) ln, s1Of b (p + 1)⟩) := by kernel_rfl
theorem t_q2_10 (b : Str) (p : Int) (q : Bool) (e : Str) (t : Str) (ln : Int) (k : AFl → LS → Prop) : (ev (XT b p (.str (sg 10)) (p + 1)) 40).ss turnB ⟨tl q e, lexF (.str (sg 34)) (.txt t) ln, s1Of b p⟩ k =
    ([AV.sio, .int 1] = [.sio, .int 1] ∧ s1Of b p = s1Of b p ∧ t.length + (sg 10).length ≤ sizeLine ∧ k .next ⟨tl' true e (sg 10), lexF (.str (sg 34)) (.txt (t ++ (sg 10))) (ln + 1), s1Of b (p + 1)⟩) := by kernel_rfl
theorem t_es_34 (b : Str) (p : Int) (q : Bool) (e : Str) (t : Str) (ln : Int) (k : AFl → LS → Prop) : (ev (XT b p (.str (sg 34)) (p + 1)) 40).ss turnB ⟨tl q (sg 34), lexF (.str (sg 92)) (.txt t) ln, s1Of b p⟩ k =
    ([AV.sio, .int 1] = [.sio, .int 1] ∧ s1Of b p = s1Of b p ∧ t.length + (sg 34).length ≤ sizeLine ∧ k .next ⟨tl' q (sg 34) (sg 34), lexF (.str (sg 34)) (.txt (t ++ (sg 34))) ln, s1Of b (p + 1)⟩) := by kernel_rfl
theorem t_es_92 (b : Str) (p : Int) (q : Bool) (e : Str) (t : Str) (ln : Int) (k : AFl → LS → Prop) : (ev (XT b p (.str (sg 92)) (p + 1)) 40).ss turnB ⟨tl q (sg 34), lexF (.str (sg 92)) (.txt t) ln, s1Of b p⟩ k =
    ([AV.sio, .int 1] = [.sio, .int 1] ∧ s1Of b p = s1Of b p ∧ t.length + (sg 92).length ≤ sizeLine ∧ k .next ⟨tl' q (sg 34) (sg 92), lexF (.str (sg 34)) (.txt (t ++ (sg 92))) ln, s1Of b (p + 1)⟩) := by kernel_rfl
end Mine
end
section
open PySem PySem.W PySem.Calls PyProof.Rows
namespace Mine

noncomputable def Sim (a b : AV) : Prop := (∀ P v, a.Is P v → b.Is P v)
noncomputable def FsSim : Fs → Fs → Prop
  | [], [] => True
  | (x, a) :: r, (y, b) :: t => x = y ∧ Sim a b ∧ FsSim r t
  | _, _ => False
theorem Sim.rfl {a : AV} : Sim a a := fun _ _ h => h
theorem FsSim.rfl : ∀ {f : Fs}, FsSim f f
  | [] => trivial
  | (_, _) :: _ => ⟨Eq.refl _, Sim.rfl, FsSim.rfl⟩
theorem FsSim.get : ∀ {f f' : Fs}, FsSim f f' → ∀ x, match aget x f, aget x f' with
    | some a, some b => Sim a b
    | none, none => True
    | _, _ => False
  | [], [], _, x => trivial
  | [], _ :: _, h, _ => h.elim
  | _ :: _, [], h, _ => h.elim
  | (y, a) :: r, (z, b) :: t, h, x => by
    obtain ⟨rfl, hs, hr⟩ := h
    rw [aget_cons, aget_cons]
    by_cases q : y = x
    · simp only [q, if_true]; exact hs
    · simp only [q, if_false]; exact FsSim.get hr x
theorem FsSim.len : ∀ {f f' : Fs}, FsSim f f' → f'.length = f.length
  | [], [], _ => Eq.refl _
  | (_, _) :: _, (_, _) :: _, h => by simp [FsSim.len h.2.2]
  | [], _ :: _, h => h.elim
  | _ :: _, [], h => h.elim
theorem EsIs.sim {P : Ad} {es : List DictEntry} {f f' : Fs} (h : EsIs P es f) (hs : FsSim f f') : EsIs P es f' := by
  have hl : f'.length = f.length := hs.len
  refine ⟨h.ks, by rw [hl]; exact h.len, by rw [hl]; exact h.fit, fun x => ?_⟩
  have g := hs.get x
  have a := h.at_ x
  split at g
  · rename_i u v e1 e2
    rw [e1] at a
    rw [e2]
    obtain ⟨w, hw, hi, hh⟩ := a
    exact ⟨w, hw, g P w hi, hh⟩
  · rename_i e1 e2
    rw [e1] at a
    rw [e2]
    exact a
  · exact g.elim
theorem FO.sim {P : Ad} {g : Heap} {L : Addr} {m : Str → Option Value} {f0 f1 f0' f1' : Fs} {h : Heap} (R : FO P g L m f0 f1 h) (h0 : FsSim f0 f0') (h1 : FsSim f1 f1') : FO P g L m f0' f1' h := by
  obtain ⟨F, e0, n0, e1, n1, N, i0, i1⟩ := R
  exact ⟨F, e0, n0, e1, n1, N, i0.sim h0, i1.sim h1⟩
theorem Rep.sim {P : Ad} {g : Heap} {L : Addr} {σ σ' : LS} {h : Heap} (R : Rep P g L σ h) (hl : ∀ x a, aget x σ'.loc = some a → ∃ b, aget x σ.loc = some b ∧ Sim b a) (h0 : FsSim σ.f0 σ'.f0) (h1 : FsSim σ.f1 σ'.f1) : Rep P g L σ' h := by
  obtain ⟨m, FO', l⟩ := R
  refine ⟨m, FO'.sim h0 h1, fun x a e => ?_⟩
  obtain ⟨b, hb, hs⟩ := hl x a e
  obtain ⟨v, hv, hi⟩ := l x b hb
  exact ⟨v, hv, hs P v hi⟩
theorem lexF_sim {st tok tok' : AV} {ln : Int} (h : Sim tok tok') : FsSim (lexF st tok ln) (lexF st tok' ln) :=
  ⟨rfl, Sim.rfl, rfl, Sim.rfl, rfl, Sim.rfl, rfl, Sim.rfl, rfl, Sim.rfl, rfl, Sim.rfl, rfl, Sim.rfl, rfl, Sim.rfl, rfl, Sim.rfl, rfl, Sim.rfl, rfl, Sim.rfl, rfl, Sim.rfl, rfl, Sim.rfl, rfl, Sim.rfl, rfl, Sim.rfl, rfl, h, rfl, Sim.rfl, rfl, Sim.rfl, rfl, Sim.rfl, trivial⟩
theorem sim_str {x : Str} : Sim (.str x) (.txt x) := fun _ _ h => h
theorem sim_txt {x : Str} : Sim (.txt x) (.str x) := fun _ _ h => h
theorem tl_drop {q : Bool} {e c : Str} : ∀ x a, aget x (tl q e) = some a → ∃ b, aget x (tl' q e c) = some b ∧ Sim b a := by
  intro x a h
  refine ⟨a, ?_, Sim.rfl⟩
  unfold tl at h
  unfold tl'
  simp only [aget_cons] at h ⊢
  by_cases h1 : ("self" : Str) = x
  · simpa [h1] using h
  · by_cases h2 : ("quoted" : Str) = x
    · simpa [h1, h2] using h
    · by_cases h3 : ("escapedstate" : Str) = x
      · simpa [h1, h2, h3] using h
      · simp [h1, h2, h3, aget] at h

noncomputable def stA : St → Str
  | .sp => sg 32
  | .q1 => sg 39
  | .q2 => sg 34
  | .es => sg 92
  | .a => sg 97
theorem ofL_app (t : List Nat) (c : Nat) : ofL t ++ sg c = ofL (t ++ [c]) := by
  show (⟨t.toArray ++ #[c]⟩ : Str) = ⟨(t ++ [c]).toArray⟩
  simp

theorem turn_ok {st st' : St} {q q' : Bool} {t t' : List Nat} {c : Nat} {e b : Str} {p ln : Int} {k : AFl → LS → Prop} (hc : inAl c = true) (h : stp st t c = some (st', q', t')) (he : st = .es → e = sg 34) (hsz : t.length + 1 ≤ sizeLine)
    (hk : ∀ e' tok ln', (st' = .es → e' = sg 34) → Sim tok (.txt (ofL t')) → k .next ⟨tl' (q || q') e' (sg c), lexF (.str (stA st')) tok ln', s1Of b (p + 1)⟩) :
    (ev (XT b p (.str (sg c)) (p + 1)) 40).ss turnB ⟨tl q e, lexF (.str (stA st)) (.txt (ofL t)) ln, s1Of b p⟩ k := by
  have hal : c = 39 ∨ c = 34 ∨ c = 92 ∨ c = 97 ∨ c = 32 ∨ c = 10 := by
    simp only [inAl, Bool.or_eq_true, beq_iff_eq] at hc
    rcases hc with ((((h | h) | h) | h) | h) | h
    · exact .inl h
    · exact .inr (.inl h)
    · exact .inr (.inr (.inl h))
    · exact .inr (.inr (.inr (.inl h)))
    · exact .inr (.inr (.inr (.inr (.inl h))))
    · exact .inr (.inr (.inr (.inr (.inr h))))
  have hlen : ∀ c, (ofL t).length + (sg c).length ≤ sizeLine := fun c => by rw [ofL_len]; exact hsz
  have qt : (q || true) = true := Bool.or_true q
  have qf : (q || false) = q := Bool.or_false q
  have app : ∀ c, ofL (t ++ [c]) = ofL t ++ sg c := fun c => (ofL_app t c).symm
  cases st with
  | sp =>
    rcases hal with rfl | rfl | rfl | rfl | rfl | rfl <;> simp [stp] at h
    · obtain ⟨rfl, rfl, rfl⟩ := h
      rw [qf] at hk
      exact (t_sp_q1 b p q e (ofL t) ln k).symm ▸ ⟨rfl, rfl, hk e _ ln (by simp) Sim.rfl⟩
    · obtain ⟨rfl, rfl, rfl⟩ := h
      rw [qf] at hk
      exact (t_sp_q2 b p q e (ofL t) ln k).symm ▸ ⟨rfl, rfl, hk e _ ln (by simp) Sim.rfl⟩
    · obtain ⟨rfl, rfl, rfl⟩ := h
      rw [qf] at hk
      exact (t_sp_a b p q e (ofL t) ln k).symm ▸ ⟨rfl, rfl, hk e _ ln (by simp) sim_str⟩
  | q1 =>
    rcases hal with rfl | rfl | rfl | rfl | rfl | rfl <;> simp [stp] at h <;> obtain ⟨rfl, rfl, rfl⟩ := h <;> rw [qt] at hk
    · exact (t_q1_q1 b p q e (ofL t) ln k).symm ▸ ⟨rfl, rfl, hk e _ ln (by simp) Sim.rfl⟩
    · rw [app] at hk; exact (t_q1_34 b p q e (ofL t) ln k).symm ▸ ⟨rfl, rfl, hlen _, hk e _ ln (by simp) Sim.rfl⟩
    · rw [app] at hk; exact (t_q1_92 b p q e (ofL t) ln k).symm ▸ ⟨rfl, rfl, hlen _, hk e _ ln (by simp) Sim.rfl⟩
    · rw [app] at hk; exact (t_q1_97 b p q e (ofL t) ln k).symm ▸ ⟨rfl, rfl, hlen _, hk e _ ln (by simp) Sim.rfl⟩
    · rw [app] at hk; exact (t_q1_32 b p q e (ofL t) ln k).symm ▸ ⟨rfl, rfl, hlen _, hk e _ ln (by simp) Sim.rfl⟩
    · rw [app] at hk; exact (t_q1_10 b p q e (ofL t) ln k).symm ▸ ⟨rfl, rfl, hlen _, hk e _ (ln + 1) (by simp) Sim.rfl⟩
  | q2 =>
    rcases hal with rfl | rfl | rfl | rfl | rfl | rfl <;> simp [stp] at h <;> obtain ⟨rfl, rfl, rfl⟩ := h <;> rw [qt] at hk
    · rw [app] at hk; exact (t_q2_39 b p q e (ofL t) ln k).symm ▸ ⟨rfl, rfl, hlen _, hk e _ ln (by simp) Sim.rfl⟩
    · exact (t_q2_q2 b p q e (ofL t) ln k).symm ▸ ⟨rfl, rfl, hk e _ ln (by simp) Sim.rfl⟩
    · exact (t_q2_92 b p q e (ofL t) ln k).symm ▸ ⟨rfl, rfl, hk (sg 34) _ ln (fun _ => rfl) Sim.rfl⟩
    · rw [app] at hk; exact (t_q2_97 b p q e (ofL t) ln k).symm ▸ ⟨rfl, rfl, hlen _, hk e _ ln (by simp) Sim.rfl⟩
    · rw [app] at hk; exact (t_q2_32 b p q e (ofL t) ln k).symm ▸ ⟨rfl, rfl, hlen _, hk e _ ln (by simp) Sim.rfl⟩
    · rw [app] at hk; exact (t_q2_10 b p q e (ofL t) ln k).symm ▸ ⟨rfl, rfl, hlen _, hk e _ (ln + 1) (by simp) Sim.rfl⟩
  | es =>
    obtain rfl := he rfl
    rcases hal with rfl | rfl | rfl | rfl | rfl | rfl <;> simp [stp] at h <;> obtain ⟨rfl, rfl, rfl⟩ := h <;> rw [qf] at hk
    · rw [app] at hk; exact (t_es_34 b p q (sg 34) (ofL t) ln k).symm ▸ ⟨rfl, rfl, hlen _, hk (sg 34) _ ln (by simp) Sim.rfl⟩
    · rw [app] at hk; exact (t_es_92 b p q (sg 34) (ofL t) ln k).symm ▸ ⟨rfl, rfl, hlen _, hk (sg 34) _ ln (by simp) Sim.rfl⟩
  | a =>
    rcases hal with rfl | rfl | rfl | rfl | rfl | rfl <;> simp [stp] at h <;> obtain ⟨rfl, rfl, rfl⟩ := h <;> rw [qf] at hk
    · exact (t_a_q1 b p q e (ofL t) ln k).symm ▸ ⟨rfl, rfl, hk e _ ln (by simp) Sim.rfl⟩
    · exact (t_a_q2 b p q e (ofL t) ln k).symm ▸ ⟨rfl, rfl, hk e _ ln (by simp) Sim.rfl⟩
    · rw [app] at hk; exact (t_a_a b p q e (ofL t) ln k).symm ▸ ⟨rfl, rfl, hlen _, hk e _ ln (by simp) Sim.rfl⟩
end Mine
end
section
open PySem PySem.W PySem.Calls PyProof.Rows
namespace Mine
noncomputable def siB : List Stmt × List (Str × NameKind) := defOf "__init__" sioB
noncomputable def XS0 : Cx := { a0 := [], a1 := names1, ms := msOf [] [("_StringIO__translated", 388)], pr := fun x => lkS x [], gl := fun x => lkS x [("type", .type "type"), ("str", .type "str")], sc := [], c := fun _ _ _ _ _ => False, wl := fun _ _ _ _ _ => False }
noncomputable def tab1 (a : Addr) : Option Fn := match Nat.beq a 388 with
  | true => some (fnOf1 (defOf "__translated" sioB) ["self", "s"])
  | false => none
noncomputable def XS : Cx := { XS0 with sc := siB.2, c := tabC tab1 XS0 30 1 }
noncomputable def s1I (x : Str) : Fs := [("_StringIO__newline", .str "\n"), ("_StringIO__buf", .txt x), ("_StringIO__pos", .int 0)]
theorem si_vc (x : Str) (f0 : Fs) (k : AV → Fs → Fs → Prop) : (ev XS 40).ss siB.1 ⟨[("newline", .str "\n"), ("initial_value", .txt x), ("self", .sio)], f0, []⟩ (backA k) = k .none f0 (s1I x) := by kernel_rfl

section
variable {w : World} {A : Around} {s : Shared} {E : Value → Shared → Prop} {L : Addr} {m : Str → Option Value} {g g0 : Heap} {KK : World → Frag} [KH KK]
theorem tab1_ok (w : World) : ∀ a fn, tab1 a = some fn → ∃ fo fd, FnOk (KK w) a fo fd fn.body fn.sc fn.ps := by
  intro a fn h
  unfold tab1 at h
  split at h
  · rename_i e; cases h; rw [Nat.eq_of_beq_eq_true e]; exact ⟨_, _, KH.f388 w⟩
  · cases h
theorem nlen : (Str.ofString "\n").length ≤ sizeLine := by decide

theorem sio_init {P : Ad} {x : Str} {t : Tok} {f0 : Fs} {R : Result → Shared → Prop} (hqs : P.qs = false) (hA : okA 4 A) (S0 : StK (KK w) g0) (le : Le g0 s.heap) (nb : ∀ a ∈ [P.lex, P.ld, P.sio, P.sd], g0.get? a = none) (D : Dst P) (FO' : FO P g L m f0 [] s.heap) (hx : x.length ≤ sizeLine)
    (hq : ∀ h' t', FO P g L m f0 (s1Of x 0) h' → Kp P s.heap h' → R (.ok (.ret .none)) { s with heap := h', toks := t' }) :
    codeAny (model prg w) A (.call (.ref 381) ⟨[.ref P.sio, .str x t], []⟩) R s := by
  have tq : ∀ g, Gd (KK w) P g → TQ prg w P g := fun _ _ e => by rw [hqs] at e; cases e
  have kl := kl_of (KH.kl (KK := KK) w)
  refine fn_sndB (n := 2) (X := XS) (gb := g0) (args := [.sio, .txt x, .str (Str.ofString "\n")]) (vals := [.ref P.sio, .str x t, .str (Str.ofString "\n") 773]) (kk := fun a f0' f1' => a = .none ∧ f0' = f0 ∧ f1' = s1I x) (KH.f381 w) (KH.b381 w _ _) (KL.kx (X := XS) kl) (tabC_snd (X := XS0) (d := 30) kl tq (fun _ _ _ _ _ h => h) (tab1_ok w) 1) (fun _ _ _ _ _ _ _ _ _ _ _ h => h.elim) ⟨S0.kin, S0.nl, S0.mg, S0.mb, D, fun e => (by rw [show P.qs = false from hqs] at e; cases e), fun e => (by rw [show P.qs = false from hqs] at e; cases e)⟩ le nb (fun e => by rw [hqs] at e; cases e) FO' hA ⟨rfl, ⟨hx, _, rfl⟩, ⟨nlen, _, rfl⟩, trivial⟩ rfl 40 ?_ ?_
  · show (ev XS 40).ss siB.1 ⟨[("newline", .str "\n"), ("initial_value", .txt x), ("self", .sio)], f0, []⟩ _
    rw [si_vc]
    exact ⟨rfl, rfl, rfl⟩
  · rintro v a f0' f1' h' t' FO'' kp hi ⟨rfl, rfl, rfl⟩
    obtain rfl : v = .none := hi
    exact hq h' t' (FO''.sim FsSim.rfl ⟨rfl, Sim.rfl, rfl, Sim.rfl, rfl, fun _ _ h => h, trivial⟩) kp

theorem tc_weight (a : Addr) (r : List Value) (kw : List (Str × Value)) : (Code.builtin "type.__call__" ⟨.ref a :: r, kw⟩).weight = 1 := by kernel_rfl
theorem tc_units (a : Addr) (r : List Value) (kw : List (Str × Value)) : (Code.builtin "type.__call__" ⟨.ref a :: r, kw⟩).cUnits = 1 := by kernel_rfl
theorem okA.tc {n : Nat} {a : Addr} {r : List Value} {kw : List (Str × Value)} (h : okA (n + 1) A) : okA n (A.under (.builtin "type.__call__" ⟨.ref a :: r, kw⟩)) :=
  ⟨h.1, by have := h.2.1; show A.depth + (Code.weight _) + n < _; rw [tc_weight]; omega, by have := h.2.2; show A.units + (Code.cUnits _) + 8 * n < _; rw [tc_units]; omega⟩
theorem sio_call {x : Str} {t : Tok} {lex ld : Addr} {R : Result → Shared → Prop} (hA : okA 8 A) (S0 : StK (KK w) g0) (le : Le g0 s.heap) (n1 : g0.get? lex = none) (n2 : g0.get? ld = none) (F : Fr g L s.heap m) (N : News g L s.heap [(lex, instObj 746 ld), (ld, emptyDict)]) (hne : lex ≠ ld) (hx : x.length ≤ sizeLine)
    (hq : ∀ (P : Ad) h' t', P.lex = lex → P.ld = ld → P.qs = false → s.heap.get? P.sio = none → s.heap.get? P.sd = none → FO P g L m [] (s1Of x 0) h' → Dst P → (∀ b o, s.heap.get? b = some o → b ≠ lex → b ≠ ld → h'.get? b = some o) → R (.ok (.ret (.ref P.sio))) { s with heap := h', toks := t' }) :
    codeAny (model prg w) A (.call (.ref 611) ⟨[.str x t], []⟩) R s := by
  have row := KH.row (KK := KK) w
  simp only [Prod.mk.injEq] at row
  obtain ⟨-, -, -, f4, f5, f6, f7, f8, f9, f10⟩ := row
  have S := S0.up le
  refine codeAny_of_tree ?_
  show wpAny _ _ (callAny (.ref 611) ⟨[.str x t], []⟩) _ _ _
  refine rdK_snd S.kin (KH.sio w _) ⟨rfl, ?_⟩
  refine codeAny_call_builtin_at (Code.quiet_builtin _ (by decide +kernel)) entry_typeCall (check_slot tc_kind tc_split (looks_instIn S.kin f4) (tc_args _ _ _) ?_)
  unfold Builtin.«type.__call__»
  have hm : Looks (model prg w) s.heap (mroOf (.ref 611)) [.ref 611, .ref 134, .ref 107, .type "object"] := fun A Q E s k q => rdK_snd (S.kin.keeps k) (KH.mro w) q
  have hb : Looks (model prg w) s.heap (Bind.madeBy (.ref 611)) none := fun A Q E s k q => rdK_snd (S.kin.keeps k) (KH.mby w) q
  have hG : ∀ A Q E, Q (.ref 104) { s with toks := s.toks + 1 } → wpAny (model prg w) A (getAttr (.ref 611) "__new__") Q E s := fun A Q E q =>
    cls_bind S.kin f5 f6 (wpAny_call (sm_get (s := { s with toks := s.toks + 1 }) S.kin f7 (handed_on rfl q)))
  iterate 5 (first | simp only [List.isEmpty_cons, Bool.false_eq_true, if_false] | lk)
  refine wpAny_bind (hb.here (wpAny_bind (hG _ _ _ ?_)))
  refine wpAny_bind (wpAny_holding (wpAny_call (new_call (s := { s with toks := s.toks + 1 }) ?_ S ?_)))
  · exact (okA.tc (n := 7) hA).le (by omega)
  intro h1 t1 a d le1 ha hd had h3 h4
  have S1 := S.up le1
  have ty : Looks (model prg w) h1 (typeOf (.ref a)) (.ref 611) := (Looks.ld h3).andThen .now
  have sub : Looks (model prg w) h1 (isSubtype (.ref 611) (.ref 611)) true := looks_mroIn S1.kin f10
  have ini := looks_findIn (M := model prg w) S1.kin f8
  have bnd := bind_fn (M := model prg w) S1.kin (.ref a) f9
  unfold isInstance callSpecial? specialOf
  repeat (first | with_reducible refine wpAny_call ?_ | lk)
  have hno : s.heap.get? s.heap.objs.size = none := Heap.get?_none_of_le (Nat.le_refl _)
  obtain ⟨oL, es, ep, hLL, hL2⟩ := F.ns
  have naL : a ≠ L := fun q => by rw [q] at ha; rw [show s.heap.get? L = none from ha] at hLL; cases hLL
  have ndL : d ≠ L := fun q => by rw [q] at hd; rw [show s.heap.get? L = none from hd] at hLL; cases hLL
  have nx : ∀ b c o, s.heap.get? b = none → s.heap.get? c = some o → b ≠ c := fun b c o e1 e2 q => by rw [q, e2] at e1; cases e1
  have F1 : Fr g L h1 m := ⟨F.ns.keeps le1, Le.trans F.keep le1, F.above⟩
  have D : Dst (⟨lex, ld, a, d, 0, 0, false⟩ : Ad) := ⟨hne, nx _ _ _ ha (N _ (.tail _ (.head _))).1, nx _ _ _ hd (N _ (.tail _ (.head _))).1, (nx _ _ _ hd (N _ (.head _)).1).symm, had, fun _ h => nomatch h⟩
  have N1 : News g L h1 (led (⟨lex, ld, a, d, 0, 0, false⟩ : Ad) [] 0 [] 0) := by
    intro p hp
    rcases List.mem_cons.mp hp with rfl | hp
    · exact ⟨le1 _ _ (N _ (.head _)).1, (N _ (.head _)).2⟩
    · rcases List.mem_cons.mp hp with rfl | hp
      · exact ⟨le1 _ _ (N _ (.tail _ (.head _))).1, (N _ (.tail _ (.head _))).2⟩
      · rcases List.mem_cons.mp hp with rfl | hp
        · exact ⟨h3, naL, fresh_of_le (F.keep) ha⟩
        · rcases List.mem_cons.mp hp with rfl | hp
          · exact ⟨h4, ndL, fresh_of_le (F.keep) hd⟩
          · cases hp
  have e0 : EsIs (⟨lex, ld, a, d, 0, 0, false⟩ : Ad) [] [] := ⟨fun _ h => (nomatch h), Nat.le_refl _, Nat.zero_le _, fun _ => rfl⟩
  refine sio_init (KK := KK) (P := ⟨lex, ld, a, d, 0, 0, false⟩) (s := { s with heap := h1, toks := t1 }) rfl ((okA.tc (n := 7) hA).le (by omega)) S0 (le.trans le1) ?_ D ⟨F1, _, _, _, _, N1, e0, e0⟩ hx ?_
  · intro b hb
    rcases List.mem_cons.mp hb with rfl | hb
    · exact n1
    · rcases List.mem_cons.mp hb with rfl | hb
      · exact n2
      · rcases List.mem_cons.mp hb with rfl | hb
        · exact fresh_of_le le ha
        · rcases List.mem_cons.mp hb with rfl | hb
          · exact fresh_of_le le hd
          · cases hb
  · intro h' t' FO' kp
    refine wpAny_pure (wpAny_pure ?_)
    refine hq ⟨lex, ld, a, d, 0, 0, false⟩ h' t' rfl rfl rfl ha hd FO' D fun b o e q1 q2 => kp b o (le1 b o e) ?_
    simp only [List.mem_cons, List.not_mem_nil, or_false, not_or]
    exact ⟨q1, q2, (nx _ _ _ ha e).symm, (nx _ _ _ hd e).symm⟩
end
end Mine
end
section
open PySem PySem.W PySem.Calls PyProof.Rows
namespace Mine
theorem noBool_dq : typeLookup (.type "collections.deque") "__bool__" = pure none := by rw [typeLookup_type, builtinLookup_eq_fast]; kernel_rfl
theorem slot_dq_len : Slot "collections.deque" "__len__" "collections.deque.__len__" :=
  .of (owner := "collections.deque") (n := "__len__") (by rw [typeLookup_type, builtinLookup_eq_fast]; kernel_rfl) (by decide +kernel) (by decide +kernel) (by decide +kernel)
    (by first | exact .inl (by decide +kernel) | exact .inr (by decide +kernel)) (by rw [isSubtype_type]; kernel_rfl)
theorem entry_dq_len : entryFor table "collections.deque.__len__" = some Builtin.«collections.deque.__len__» := entryFor_of_fast (by kernel_rfl)
theorem args_dq_len (a : Value) : argsOk "collections.deque.__len__" ⟨[a], []⟩ := by unfold argsOk; kernel_rfl
section
variable {prog : Program} {w : World} {A : Around} {E : Value → Shared → Prop} {s : Shared}
theorem len_dq {l : Addr} {Q : Value → Shared → Prop} (ho : s.heap.get? l = some dqO)
    (h : Q (.int 0 (s.toks + 1)) { s with toks := s.toks + 1 + 1 }) : wpAny (model prog w) A (Builtin.«len» ⟨[.ref l], []⟩) (fun fin s' => ∃ r, fin = .done (.ret r) ∧ Q r s') E s := by
  have hT : s.TypeIs (.ref l) "collections.deque" := ⟨_, ho, rfl⟩
  unfold Builtin.«len»
  refine wpAny_bind (m := oneArg "len" _) (wpAny_pure ?_)
  refine wpAny_bind (m := callSpecial? (.ref l) (Str.ofString "__len__")) (wpAny_callSpecial?_slot (name := Str.ofString "__len__") hT slot_dq_len
    (wpAny_call_entry slot_dq_len hT entry_dq_len ?_ (args_dq_len _)))
  · show wpAny _ _ (do retInt (← Builtin.Deque.size (.ref l))) _ _ s
    unfold Builtin.Deque.size fieldsOf
    refine wpAny_bind (wpAny_bind (wpAny_bind (wpAny_load ho ?_)))
    refine wpAny_pure (wpAny_pure (wpAny_bind (wpAny_mkInt (wpAny_pure ⟨_, rfl, ?_⟩))))
    refine wpAny_bind (wpAny_holding (wpAny_pure ?_))
    refine wpAny_bind (wpAny_letGo ?_)
    exact wpAny_bind (wpAny_mkInt (wpAny_pure ⟨_, rfl, h⟩))
theorem truthy_dq {l : Addr} {Q : Bool → Shared → Prop} (ho : s.heap.get? l = some dqO)
    (h : Q false { s with toks := s.toks + 1 + 1 }) : wpAny (model prog w) A (truthy (.ref l)) Q E s := by
  have hT : s.TypeIs (.ref l) "collections.deque" := ⟨_, ho, rfl⟩
  have key : wpAny (model prog w) A (runValue (.builtin "len" ⟨[.ref l], []⟩)) (fun r s' => r = .int 0 (s.toks + 1) ∧ Q false s') E s := by
    refine wpAny_runValue (codeAny_builtin entry_len ?_)
    rw [Around.under_plainId plain_len _]
    exact wpAny_mono (len_dq (Q := fun r s' => r = .int 0 (s.toks + 1) ∧ Q false s') ho ⟨rfl, h⟩)
      (fun fin s' h' => by obtain ⟨r, rfl, hq⟩ := h'; exact hq) fun _ _ e => e
  unfold truthy
  first
    | refine wpAny_bind (wpAny_callSpecial?_none (name := Str.ofString "__bool__") hT noBool_dq ?_)
    | refine wpAny_bind (wpAny_pure (wpAny_bind (wpAny_callSpecial?_none (name := Str.ofString "__bool__") hT noBool_dq ?_)))
  first
    | refine wpAny_bind (wpAny_specialOf (name := Str.ofString "__len__") hT slot_dq_len.lookup ?_)
    | refine wpAny_bind (wpAny_pure (wpAny_bind (wpAny_specialOf (name := Str.ofString "__len__") hT slot_dq_len.lookup ?_)))
  first
    | exact wpAny_bind (wpAny_mono key (fun r s' h' => by obtain ⟨rfl, hq⟩ := h'; exact wpAny_pure hq) fun _ _ e => e)
    | exact wpAny_bind (wpAny_pure (wpAny_bind (wpAny_mono key (fun r s' h' => by obtain ⟨rfl, hq⟩ := h'; exact wpAny_pure hq) fun _ _ e => e)))
end
theorem tq_all {KK : World → Frag} {w : World} {P : Ad} : ∀ g, Gd (KK w) P g → TQ prg w P g := by
  rintro g G hqs q (rfl | rfl) A s Q E hA hk hq
  · exact truthy_dq (hk _ _ (G.q1 hqs)) (hq _)
  · exact truthy_dq (hk _ _ (G.q2 hqs)) (hq _)
end Mine
end
section
open PySem PySem.W PySem.Calls PyProof.Rows
namespace Mine
theorem mro_dq : mroOf (.type "collections.deque") = pure [.type "collections.deque", .type "object"] := by rw [mroOf_type]; kernel_rfl
theorem new_dq : typeLookup (.type "collections.deque") "__new__" = pure (some (.builtin "collections.deque.__new__")) := by rw [typeLookup_type, builtinLookup_eq_fast]; kernel_rfl
theorem slot_dq_init : Slot "collections.deque" "__init__" "collections.deque.__init__" :=
  .of (owner := "collections.deque") (n := "__init__") (by rw [typeLookup_type, builtinLookup_eq_fast]; kernel_rfl) (by decide +kernel) (by decide +kernel) (by decide +kernel)
    (by first | exact .inl (by decide +kernel) | exact .inr (by decide +kernel)) (by rw [isSubtype_type]; kernel_rfl)
theorem called_dq : TypeCalled "collections.deque" "collections.deque.__new__" "collections.deque.__init__" :=
  ⟨by decide +kernel, by decide +kernel, ⟨_, _, mro_dq⟩, madeBy_type mro_dq new_dq (by decide +kernel), by decide +kernel, by rw [isSubtype_type]; kernel_rfl, slot_dq_init⟩
theorem tc_dq : checkTypeCall "collections.deque" ⟨[], []⟩ = pure () := by kernel_rfl
theorem entry_dq_init : entryFor table "collections.deque.__init__" = some Builtin.«collections.deque.__init__» := entryFor_of_fast (by kernel_rfl)
theorem entry_dq_new : entryFor table "collections.deque.__new__" = some Builtin.«collections.deque.__new__» := entryFor_of_fast (by kernel_rfl)
theorem args_dq_init (a : Value) : argsOk "collections.deque.__init__" ⟨[a], []⟩ := by unfold argsOk; kernel_rfl
theorem ca_dq : rdK [] 100 (callAny (.builtin "collections.deque.__new__") ⟨[.type "collections.deque"], []⟩) = some (.again (.builtin "collections.deque.__new__" ⟨[.type "collections.deque"], []⟩)) := by kernel_rfl
theorem run_dq (N : Nat) : rdA [] 100 [N] (Builtin.«collections.deque.__new__» ⟨[.type "collections.deque"], []⟩) = some (.done (.ret (.ref N)), [dqO]) := by kernel_rfl
theorem nil_in (h : Heap) : Frag.In [] h := fun _ _ e => nomatch e
section
variable {prog : Program} {w : World} {A : Around} {E : Value → Shared → Prop} {s : Shared}
theorem init_dq {a : Addr} {Q : Fin → Shared → Prop} (ho : s.heap.get? a = some dqO) (h : ∀ h', h'.get? a = some dqO → (∀ b o, b ≠ a → s.heap.get? b = some o → h'.get? b = some o) → Q (.done (.ret .none)) { s with heap := h' }) :
    wpAny (model prog w) A (Builtin.«collections.deque.__init__» ⟨[.ref a], []⟩) Q E s := by
  unfold Builtin.«collections.deque.__init__»
  show wpAny _ _ (do setField (.ref a) 0 .none; Builtin.Deque.clear (.ref a); ret .none) _ _ _
  refine wpAny_bind (wpAny_setField ho rfl (by decide) ?_)
  have hu := Heap.get?_update_self (Obj.mapFields (·.setIfInBounds 0 Value.none)) ho rfl
  refine wpAny_bind ?_
  unfold Builtin.Deque.clear Builtin.Deque.items fieldsOf
  refine wpAny_bind (wpAny_bind (wpAny_bind (wpAny_load hu (wpAny_pure (wpAny_pure (wpAny_pure ?_))))))
  exact wpAny_pure (h _ hu fun b o hb e => (Heap.get?_update_other _ _ (Ne.symm hb)).trans e)
theorem dq_call {Q : Value → Shared → Prop} (h : ∀ h' q, s.heap.get? q = none → h'.get? q = some dqO → Le s.heap h' → Q (.ref q) { s with heap := h' }) :
    wpAny (model prog w) A (call (.type "collections.deque") []) Q E s := by
  refine callType_codes (Q₁ := fun obj s₁ => obj = .ref s.heap.objs.size ∧ s₁ = { s with heap := s.heap.push dqO }) called_dq tc_dq entry_dq_init ?_ ?_
  · refine codeAny_of_tree ?_
    refine rdK_snd (nil_in _) ca_dq ⟨by decide +kernel, codeAny_builtin entry_dq_new ?_⟩
    exact rdA_snd (nil_in _) (as := [s.heap.objs.size]) ⟨rfl, trivial⟩ (run_dq _) ⟨rfl, rfl⟩
  · rintro obj s1 ⟨rfl, rfl⟩
    have hS : (s.heap.push dqO).get? s.heap.objs.size = some dqO := Heap.get?_push_size _ rfl
    refine ⟨⟨_, hS, rfl⟩, args_dq_init _, init_dq hS fun h' h1 h2 => ⟨rfl, ?_⟩⟩
    exact h h' _ (Heap.get?_none_of_le (Nat.le_refl _)) h1 fun b o e => h2 b o (fun q => by rw [q, Heap.get?_none_of_le (Nat.le_refl _)] at e; cases e) (Heap.get?_push_of_some _ e)
end
end Mine
end
section
open PySem PySem.W PySem.Calls PyProof.Rows
namespace Mine
noncomputable def inB : List Stmt × List (Str × NameKind) := defOf "__init__" lexB
noncomputable def nthS (i : Nat) (l : List Stmt) : Stmt := match l.drop i with
  | st :: _ => st
  | [] => .Pass default
noncomputable def i0 : Stmt := nthS 0 inB.1
noncomputable def i13 : Stmt := nthS 13 inB.1
noncomputable def i17 : Stmt := nthS 17 inB.1
noncomputable def inA : List Stmt := (inB.1.drop 1).take 12
noncomputable def inM : List Stmt := (inB.1.drop 14).take 3
noncomputable def inZ : List Stmt := inB.1.drop 18
theorem in_eq : inB.1 = i0 :: (inA ++ i13 :: (inM ++ i17 :: inZ)) := by kernel_rfl
noncomputable def i0T (q : List Pos) : Stmt := .If (.Call (.Name "isinstance" (q.getD 0 noP)) [.Name "instream" (q.getD 1 noP), .Name "str" (q.getD 2 noP)] [] (q.getD 3 noP)) [.Assign [.Name "instream" (q.getD 4 noP)] (.Call (.Name "StringIO" (q.getD 5 noP)) [.Name "instream" (q.getD 6 noP)] [] (q.getD 7 noP)) (q.getD 8 noP)] [] (q.getD 9 noP)
noncomputable def i0S (st : Stmt) : Prop := ∃ q, st = i0T q
noncomputable def i0P : Stmt → List Pos
  | .If (.Call (.Name _ q0) [.Name _ q1, .Name _ q2] _ q3) [.Assign [.Name _ q4] (.Call (.Name _ q5) [.Name _ q6] _ q7) q8] _ q9 => [q0, q1, q2, q3, q4, q5, q6, q7, q8, q9]
  | _ => []
theorem i0_ok : i0S i0 := ⟨i0P i0, by kernel_rfl⟩
noncomputable def dqT (a : Str) (q : List Pos) : Stmt := .Assign [.Attribute (.Name "self" (q.getD 0 noP)) a (q.getD 1 noP)] (.Call (.Name "deque" (q.getD 2 noP)) [] [] (q.getD 3 noP)) (q.getD 4 noP)
noncomputable def dqS (a : Str) (st : Stmt) : Prop := ∃ q, st = dqT a q
noncomputable def dqP : Stmt → List Pos
  | .Assign [.Attribute (.Name _ q0) _ q1] (.Call (.Name _ q2) _ _ q3) q4 => [q0, q1, q2, q3, q4]
  | _ => []
theorem i13_ok : dqS "pushback" i13 := ⟨dqP i13, by kernel_rfl⟩
theorem i17_ok : dqS "filestack" i17 := ⟨dqP i17, by kernel_rfl⟩
noncomputable def XIn : Cx := { X0 with sc := inB.2 }
noncomputable def w1 : Str := "abcdfeghijklmnopqrstuvwxyzABCDEFGHIJKLMNOPQRSTUVWXYZ0123456789_"
noncomputable def w2 : Str := "ßàáâãäåæçèéêëìíîïðñòóôõöøùúûüýþÿÀÁÂÃÄÅÆÇÈÉÊËÌÍÎÏÐÑÒÓÔÕÖØÙÚÛÜÝÞ"
noncomputable def loI : Fs := [("punctuation_chars", .bool false), ("posix", .bool true), ("infile", .none), ("instream", .sio), ("self", .lex)]
noncomputable def loZ : Fs := [("punctuation_chars", .str ""), ("posix", .bool true), ("infile", .none), ("instream", .sio), ("self", .lex)]
noncomputable def fA : Fs := [("instream", .sio), ("infile", .none), ("posix", .bool true), ("eof", .none), ("commenters", .str "#"), ("wordchars", .txt (w1 ++ w2)), ("whitespace", .str " \t\r\n"), ("whitespace_split", .bool false), ("quotes", .str "'\""), ("escape", .str "\\"), ("escapedquotes", .str "\""), ("state", .str " ")]
noncomputable def fB (p : AV) : Fs := fA ++ ([("pushback", p)] : Fs)
noncomputable def fC (p : AV) : Fs := fB p ++ ([("lineno", .int 1), ("debug", .int 0), ("token", .str "")] : Fs)
noncomputable def fD (p q : AV) : Fs := fC p ++ ([("filestack", q)] : Fs)
noncomputable def fZ (p q : AV) : Fs := fD p q ++ ([("source", .none), ("_punctuation_chars", .str "")] : Fs)
theorem vcA (f1 : Fs) (k : AFl → LS → Prop) : (ev XIn 60).ss inA ⟨loI, [], f1⟩ k = (w1.length + w2.length ≤ sizeLine ∧ k .next ⟨loI, fA, f1⟩) := by kernel_rfl
theorem vcM (p : AV) (f1 : Fs) (k : AFl → LS → Prop) : (ev XIn 60).ss inM ⟨loI, fB p, f1⟩ k = k .next ⟨loI, fC p, f1⟩ := by kernel_rfl
theorem vcZ (p q : AV) (f1 : Fs) (k : AFl → LS → Prop) : (ev XIn 60).ss inZ ⟨loI, fD p q, f1⟩ k = k .next ⟨loZ, fZ p q, f1⟩ := by kernel_rfl
theorem putA (p : AV) : aput "pushback" p fA = fB p := by kernel_rfl
theorem putC (p q : AV) : aput "filestack" q (fC p) = fD p q := by kernel_rfl

section
variable {prog : Program} {w : World} {K : Frag} {P : AdX} {X : Cx} {g : Heap} {L : Addr} {env : Env} {n : Nat} {A : Around} {s : Shared} {E : Value → Shared → Prop} {m : Str → Option Value}
theorem ss_app {ev : Ev} {rest : List Stmt} (hs : SS prog w P g L env n ev.s) : ∀ (st : List Stmt) (σ : LS) (k : LS → Prop), ev.ss st σ (fun f σ' => f = .next ∧ k σ') → ∀ A s Q E, okA (n + 1) A → Rep P g L σ s.heap →
    (∀ σ' h' t', Rep P g L σ' h' → k σ' → wpAny (model prog w) A (execs rest env) Q E { s with heap := h', toks := t' }) → wpAny (model prog w) A (execs (st ++ rest) env) Q E s
  | [], σ, k, h, A, s, Q, E, hA, R, hq => hq σ s.heap s.toks R h.2
  | st :: r, σ, k, h, A, s, Q, E, hA, R, hq => by
    refine wpAny_execs_cons (hs st σ _ h A s _ E hA R fun f b σ' h' t' R' hf hk => ?_)
    cases b with
    | next => obtain rfl : f = .next := hf; exact ss_app hs r σ' k hk A _ Q E hA R' hq
    | brk => cases hk.1
    | cont => cases hk.1
    | ret a => cases hk.1
theorem set_lex {v : AV} {a : Str} {σ : LS} {vv : Value} {Q : Unit → Shared → Prop} (ok : AttrOk K 746 a) (G : Gd K P g) (R : Rep P g L σ s.heap) (hv : v.Is P vv) (hh : handedIn vv = true) (h2 : (aget a σ.f0).isSome = true ∨ σ.f0.length < 100)
    (hq : ∀ h' t', Rep P g L { σ with f0 := aput a v σ.f0 } h' → Q () { s with heap := h', toks := t' }) : wpAny (model prog w) A (setAttr (.ref P.lex) a vv) Q E s := by
  obtain ⟨m, FO', hl⟩ := R
  have F := FO'.1
  obtain ⟨_, e0, n0, e1, n1, N, i0, i1⟩ := FO'
  have D := G.dst
  have ei := i0.put (a := v) (v := vv) (hs := PyData.keyHash w.params a) (t := s.toks + 1) h2 hv hh
  refine set_dict F G.kin N (InstAt.of_news (sl := #[]) N (.head _) (.tail _ (.head _))) rfl ok.sa ok.po ok.tk ok.hd ?_ rfl (Upd.tail D.a (Upd.head ?_)) ?_ ?_
  · rw [getL_eq i0.ks]; rfl
  · intro p hp
    rcases List.mem_cons.mp hp with rfl | hp
    · exact D.b
    · rcases List.mem_cons.mp hp with rfl | hp
      · exact D.c
      · exact (D.x p hp).1
  · exact Nat.le_trans (Nat.le_trans ei.len ei.fit) (by decide)
  · intro h' F' N'
    exact hq h' _ ⟨m, ⟨F', _, _, _, _, N', ei, i1⟩, hl⟩
end

section
variable {prog : Program} {w : World} {K : Frag} {P : Ad} {ex : List (Addr × Obj)} {g : Heap} {L : Addr} {env : Env} {sc : List (Str × NameKind)} {A : Around} {s : Shared} {E : Value → Shared → Prop}
theorem dq_stmt {st : Stmt} {a : Str} {σ : LS} {Q : Flow → Shared → Prop} (h : dqS a st) (ok : AttrOk K 746 a) (hd : GlobOk K "deque" (.type "collections.deque")) (hE : EnvOk env sc L) (s1 : sc.lookup (Str.ofString "self") = some NameKind.local) (s2 : sc.lookup (Str.ofString "deque") = some NameKind.globalImplicit)
    (G : Gd K ⟨P, ex⟩ g) (R : Rep ⟨P, ex⟩ g L σ s.heap) (hl : aget "self" σ.loc = some .lex) (h2 : σ.f0.length < 100)
    (hq : ∀ q h' t', Rep ⟨P, (q, dqO) :: ex⟩ g L { σ with f0 := aput a (.val (.ref q)) σ.f0 } h' → Gd K ⟨P, (q, dqO) :: ex⟩ g → Q .next { s with heap := h', toks := t' }) : wpAny (model prog w) A (exec st env) Q E s := by
  have nx : ∀ b c o, s.heap.get? b = none → s.heap.get? c = some o → b ≠ c := fun b c o e1 e2 q => by rw [q, e2] at e1; cases e1
  · obtain ⟨q, rfl⟩ := h
    unfold dqT
    have S : StK K g := ⟨G.kin, G.nl, G.mg, G.mb⟩
    obtain ⟨m, ⟨F, e0, n0, e1, n1, N, i0, i1⟩, hl'⟩ := R
    refine plainObj_wpAny_Assign_Attribute (Call_ (glob_ev (S.up F.keep) hE s2 hd rfl (PySem.callWith_type rfl (evalArgs_nil3 (dq_call fun h' q hn ho le => ?_))))) (swaps_no rfl)
    obtain ⟨oL, es, ep, hLL, hL2⟩ := F.ns
    have F1 : Fr g L h' m := ⟨F.ns.keeps le, Le.trans F.keep le, F.above⟩
    have N1 : News g L h' (led ⟨P, (q, dqO) :: ex⟩ e0 n0 e1 n1) := by
      intro p hp
      have old : p ∈ led ⟨P, ex⟩ e0 n0 e1 n1 → h'.get? p.1 = some p.2 ∧ p.1 ≠ L ∧ g.get? p.1 = none := fun q => ⟨le _ _ (N p q).1, (N p q).2⟩
      simp only [led, List.mem_cons] at hp old
      rcases hp with q | q | q | q | rfl | q
      · exact old (.inl q)
      · exact old (.inr (.inl q))
      · exact old (.inr (.inr (.inl q)))
      · exact old (.inr (.inr (.inr (.inl q))))
      · exact ⟨ho, nx _ _ _ hn hLL, fresh_of_le F.keep hn⟩
      · exact old (.inr (.inr (.inr (.inr q))))
    have D := G.dst
    have G1 : Gd K ⟨P, (q, dqO) :: ex⟩ g := ⟨G.kin, G.nl, G.mg, G.mb, ⟨D.a, D.b, D.c, D.d, D.e, fun p hp => by
      rcases List.mem_cons.mp hp with rfl | hp
      · exact ⟨nx _ _ _ hn (N (P.ld, _) (.tail _ (.head _))).1, nx _ _ _ hn (N (P.sd, _) (.tail _ (.tail _ (.tail _ (.head _))))).1⟩
      · exact D.x p hp⟩, G.q1, G.q2⟩
    obtain ⟨v, hv, rfl⟩ := hl' _ _ hl
    refine loc_ev (s := { s with heap := h' }) hE s1 F1.ns hv rfl (set_lex (P := ⟨P, (q, dqO) :: ex⟩) (σ := σ) (v := .val (.ref q)) ok G1 ⟨m, ⟨F1, e0, n0, e1, n1, N1, i0, i1⟩, hl'⟩ rfl rfl (.inr h2) fun h3 t3 R3 => ?_)
    exact hq q h3 t3 R3 G1
end
end Mine
end
section
open PySem PySem.W PySem.Calls PyProof.Rows
namespace Mine
theorem in_sc : (inB.2.lookup (Str.ofString "self"), inB.2.lookup (Str.ofString "instream"), inB.2.lookup (Str.ofString "deque"), inB.2.lookup (Str.ofString "isinstance"), inB.2.lookup (Str.ofString "str"), inB.2.lookup (Str.ofString "StringIO")) = (some NameKind.local, some NameKind.local, some NameKind.globalImplicit, some NameKind.globalImplicit, some NameKind.globalImplicit, some NameKind.globalImplicit) := by kernel_rfl
theorem ty_str : typeOf (.type "str") = pure (.type "type") := by kernel_rfl
theorem sub_str : isSubtype (.type "str") (.type "str") = pure true := by rw [isSubtype_type]; kernel_rfl
noncomputable def inMap (m : Str → Option Value) (v : Value) : Str → Option Value := fun y => if y = Str.ofString "instream" then some v else m y

section
variable {w : World} {A : Around} {s : Shared} {E : Value → Shared → Prop} {L : Addr} {m : Str → Option Value} {g : Heap} {env : Env} {KK : World → Frag} [KH KK]
theorem i0_run {st : Stmt} {x : Str} {t : Tok} {lex ld : Addr} {Q : Flow → Shared → Prop} (h : i0S st) (S : StK (KK w) g) (F : Fr g L s.heap m) (N : News g L s.heap [(lex, instObj 746 ld), (ld, emptyDict)]) (hne : lex ≠ ld) (hE : EnvOk env inB.2 L) (hm : m (Str.ofString "instream") = some (.str x t)) (hx : x.length ≤ sizeLine) (hA : okA 8 A)
    (hq : ∀ (P : Ad) h' t', P.lex = lex → P.ld = ld → P.qs = false → FO P g L (inMap m (.ref P.sio)) [] (s1Of x 0) h' → Dst P → Q .next { s with heap := h', toks := t' }) : wpAny (model prg w) A (exec st env) Q E s := by
  have c := in_sc
  simp only [Prod.mk.injEq] at c
  obtain ⟨c1, c2, c3, c4, c5, c6⟩ := c
  have gg : ∀ x v, (x, v) ∈ gl3 → GlobOk (KK w) x v := fun x v e => globB_ok (List.all_eq_true.mp (KH.gl w) _ e)
  have S1 := S.up F.keep
  · obtain ⟨q, rfl⟩ := h
    unfold i0T
    refine wpAny_If (isTrue_plain (Call_ (glob_ev S1 hE c4 (gg _ (.builtin "isinstance") (List.mem_of_getElem? (i := 3) rfl)) rfl (PyProof.Rows.callWith_builtin1 (args_cons (loc_ev hE c2 F.ns hm rfl (args_cons (glob_ev S1 hE c5 (gg _ (.type "str") (List.mem_of_getElem? (i := 4) rfl)) rfl (args_nil ?_)) rfl)) rfl)))) rfl)
    refine call_isinstance (isinstance_true ty_str sub_str) ⟨?_, ?_⟩
    · show typeOf (.str x t) = _; rfl
    · refine wpAny_truthy_bool ?_
      show wpAny _ _ (execs _ env) _ _ _
      refine wpAny_execs_cons (wpAny_Assign_Name (Call_ (glob_ev S1 hE c6 (gg _ (.ref 611) (List.mem_of_getElem? (i := 1) rfl)) rfl (callWith_KB S.kin ((gg _ (.ref 611) (List.mem_of_getElem? (i := 1) rfl)).2 611 rfl) (args_cons (loc_ev hE c2 F.ns hm rfl (args_nil ⟨S1.kin, wpAny_call (sio_call hA S F.keep (fresh_of_le (fun _ _ e => e) (N _ (.head _)).2.2) (N _ (.tail _ (.head _))).2.2 F N hne hx ?_)⟩)) rfl)))) (swaps_no rfl))
      intro P h' t' e1 e2 e3 _ _ FO' D _
      obtain ⟨F', e0, n0, e1', n1, N', i0, i1⟩ := FO'
      refine wpAny_storeName_local (m := m) (by unfold Env.kindOf; rw [hE.sc]; exact c2) (by rw [hE.loc]; exact F'.ns) (fun h2 hn hs => ?_) ?_
      · rw [hE.loc] at hn hs
        refine wpAny_execs_nil ?_
        have : (fun y => if y = Str.ofString "instream" then some (Value.ref P.sio) else m y) = inMap m (.ref P.sio) := rfl
        exact hq P h2 _ e1 e2 e3 ⟨F'.set hn hs, e0, n0, e1', n1, N'.set hs, i0, i1⟩ D
      · rw [hE.kind]; rfl

variable [KF KK]
theorem len12 : w1.length + w2.length ≤ sizeLine := by decide +kernel
theorem ex_snd {P : AdX} (hqs : P.qs = false) (G : Gd (KK w) P g) (hE : EnvOk env inB.2 L) : SS prg w P g L env 2 (ev XIn 60).s :=
  (ev_snd (X := XIn) (KL.kx (X := XIn) (kl_of (kl_ok w))) G hE (fun e => by rw [show P.qs = false from hqs] at e; cases e) (fun _ _ _ _ _ h => h.elim) (fun _ _ _ _ _ h => h.elim) 60).2.2
theorem init_body {P : Ad} {f1 : Fs} {Q : Flow → Shared → Prop} (hqs : P.qs = false) (G : Gd (KK w) P g) (hE : EnvOk env inB.2 L) (hA : okA 3 A) (R : Rep P g L ⟨loI, [], f1⟩ s.heap)
    (hq : ∀ q1 q2 h' t', Rep ⟨P, [(q2, dqO), (q1, dqO)]⟩ g L ⟨loZ, fZ (.val (.ref q1)) (.val (.ref q2)), f1⟩ h' → Q .next { s with heap := h', toks := t' }) :
    wpAny (model prg w) A (execs (inA ++ i13 :: (inM ++ i17 :: inZ)) env) Q E s := by
  have c := in_sc
  simp only [Prod.mk.injEq] at c
  obtain ⟨c1, c2, c3, c4, c5, c6⟩ := c
  have kl := kl_of (kl_ok (KK := KK) w)
  have a0 : ∀ x, names0.contains x = true → AttrOk (KK w) 746 x := kl.a0
  have gd : GlobOk (KK w) "deque" (.type "collections.deque") := globB_ok (List.all_eq_true.mp (KH.gl w) _ (List.mem_of_getElem? (i := 5) rfl))
  refine ss_app (ex_snd hqs G hE) inA _ (fun σ => σ = ⟨loI, fA, f1⟩) (by rw [vcA]; exact ⟨len12, rfl, rfl⟩) A s Q E hA R ?_
  rintro σ1 h1 t1 R1 rfl
  refine wpAny_execs_cons (dq_stmt (a := "pushback") i13_ok (a0 _ (by kernel_rfl)) gd hE c1 c3 G R1 (by kernel_rfl) (by show fA.length < 100; decide) ?_)
  intro q1 h2 t2 R2 G2
  rw [putA] at R2
  refine ss_app (ex_snd (P := ⟨P, [(q1, dqO)]⟩) hqs G2 hE) inM _ (fun σ => σ = ⟨loI, fC (.val (.ref q1)), f1⟩) (by rw [vcM]; exact ⟨rfl, rfl⟩) A _ Q E hA R2 ?_
  rintro σ3 h3 t3 R3 rfl
  refine wpAny_execs_cons (dq_stmt (a := "filestack") i17_ok (a0 _ (by kernel_rfl)) gd hE c1 c3 G2 R3 (by kernel_rfl) (by show (fC _).length < 100; exact (by decide : 16 < 100)) ?_)
  intro q2 h4 t4 R4 G4
  rw [putC] at R4
  have z := ss_snd (ex_snd (P := ⟨P, [(q2, dqO), (q1, dqO)]⟩) hqs G4 hE) inZ ⟨loI, fD (.val (.ref q1)) (.val (.ref q2)), f1⟩ (fun f σ => f = .next ∧ σ = ⟨loZ, fZ (.val (.ref q1)) (.val (.ref q2)), f1⟩) (by rw [vcZ]; exact ⟨rfl, rfl⟩)
  refine z A _ Q E hA R4 ?_
  rintro f b σ5 h5 t5 R5 hf ⟨rfl, rfl⟩
  obtain rfl : f = .next := hf
  exact hq q1 q2 h5 t5 R5
end

structure Ready (P : Ad) (g h : Heap) (x : Str) (f0 : Fs) : Prop where
  dst : Dst P
  le : Le g h
  qs : P.qs = true
  q1 : h.get? P.q1 = some dqO
  q2 : h.get? P.q2 = some dqO
  n1 : g.get? P.q1 = none
  n2 : g.get? P.q2 = none
  obj : ∃ e0 n0 e1 n1, (∀ p ∈ led P e0 n0 e1 n1, h.get? p.1 = some p.2 ∧ g.get? p.1 = none) ∧ EsIs P e0 f0 ∧ EsIs P e1 (s1Of x 0)
noncomputable def FsSim2 (P P' : Ad) : Fs → Fs → Prop
  | [], [] => True
  | (x, a) :: r, (y, b) :: t => x = y ∧ (∀ v, a.Is P v → b.Is P' v) ∧ FsSim2 P P' r t
  | _, _ => False
theorem FsSim2.get {P P' : Ad} : ∀ {f f' : Fs}, FsSim2 P P' f f' → ∀ x, match aget x f, aget x f' with
    | some a, some b => ∀ v, a.Is P v → b.Is P' v
    | none, none => True
    | _, _ => False
  | [], [], _, x => trivial
  | [], _ :: _, h, _ => h.elim
  | _ :: _, [], h, _ => h.elim
  | (y, a) :: r, (z, b) :: t, h, x => by
    obtain ⟨rfl, hs, hr⟩ := h
    rw [aget_cons, aget_cons]
    by_cases q : y = x
    · simp only [q, if_true]; exact hs
    · simp only [q, if_false]; exact FsSim2.get hr x
theorem FsSim2.len {P P' : Ad} : ∀ {f f' : Fs}, FsSim2 P P' f f' → f'.length = f.length
  | [], [], _ => Eq.refl _
  | (_, _) :: _, (_, _) :: _, h => by simp [FsSim2.len h.2.2]
  | [], _ :: _, h => h.elim
  | _ :: _, [], h => h.elim
theorem EsIs.sim2 {P P' : Ad} {es : List DictEntry} {f f' : Fs} (h : EsIs P es f) (hs : FsSim2 P P' f f') : EsIs P' es f' := by
  have hl : f'.length = f.length := hs.len
  refine ⟨h.ks, by rw [hl]; exact h.len, by rw [hl]; exact h.fit, fun x => ?_⟩
  have g := hs.get x
  have a := h.at_ x
  split at g
  · rename_i u v e1 e2
    rw [e1] at a
    rw [e2]
    obtain ⟨w, hw, hi, hh⟩ := a
    exact ⟨w, hw, g w hi, hh⟩
  · rename_i e1 e2
    rw [e1] at a
    rw [e2]
    exact a
  · exact g.elim
class KI (KK : World → Frag) : Prop where
  mkr : ∀ w, (makesIn (KK w) 746, findIn (KK w) (.ref 746) (Str.ofString "__init__"), typeIn (KK w) (.ref 670)) = (true, some (some (.ref 670)), some (.type "function"))
  r670 : ∀ w, fnRow (KK w) 670 (objAt (KK w) 670) (fnAt (KK w) 670) = (some (objAt (KK w) 670), .func (fnAt (KK w) 670), .stmts inB.1, true, inB.2, .function, false, false, mainGlobals, builtinsNs)
  b670 : ∀ w a b, rdK (KK w) 200 (bindArgs (fnAt (KK w) 670) ⟨[a, b], [(Str.ofString "posix", .bool true)]⟩) = some [(Str.ofString "self", a), (Str.ofString "instream", b), (Str.ofString "infile", Value.none), (Str.ofString "posix", .bool true), (Str.ofString "punctuation_chars", .bool false)]
noncomputable def inPs : List Str := ["self", "instream", "infile", "posix", "punctuation_chars"]
theorem in_loc : ((inB.2.all fun x => decide (x.2 ≠ .cell)) && (inPs.all fun x => inB.2.lookup x == some .local)) = true := by kernel_rfl
noncomputable def vals5 (a b : Value) : List Value := [a, b, .none, .bool true, .bool false]
theorem ze (a b : Value) : (inPs.zip (vals5 a b)).reverse.lookup (Str.ofString "instream") = some b := by kernel_rfl
theorem loc5 {P : Ad} {b : Value} : LocIs P (inMap (fun x => (inPs.zip (vals5 (.ref P.lex) b)).reverse.lookup x) (.ref P.sio)) loI := by
  intro y a e
  unfold loI at e
  have st : ∀ (n : Str) (c : AV) (r : Fs), aget y ((n, c) :: r) = some a → (∃ v, inMap (fun x => (inPs.zip (vals5 (.ref P.lex) b)).reverse.lookup x) (.ref P.sio) n = some v ∧ c.Is P v) → (aget y r = some a → ∃ v, inMap (fun x => (inPs.zip (vals5 (.ref P.lex) b)).reverse.lookup x) (.ref P.sio) y = some v ∧ a.Is P v) → ∃ v, inMap (fun x => (inPs.zip (vals5 (.ref P.lex) b)).reverse.lookup x) (.ref P.sio) y = some v ∧ a.Is P v := by
    intro n c r e h k
    rw [aget_cons] at e
    by_cases q : n = y
    · subst q; rw [if_pos rfl] at e; cases e; exact h
    · rw [if_neg q] at e; exact k e
  refine st _ _ _ e ⟨.bool false, by kernel_rfl, rfl⟩ fun e => st _ _ _ e ⟨.bool true, by kernel_rfl, rfl⟩ fun e => st _ _ _ e ⟨.none, by kernel_rfl, rfl⟩ fun e => st _ _ _ e ⟨.ref P.sio, by kernel_rfl, rfl⟩ fun e => st _ _ _ e ⟨.ref P.lex, by kernel_rfl, rfl⟩ fun e => by cases e

section
variable {w : World} {A : Around} {s : Shared} {E : Value → Shared → Prop} {g : Heap} {KK : World → Frag} [KH KK] [KF KK] [KI KK]
theorem sim_Z {P : Ad} {q1 q2 : Addr} : FsSim2 P { P with q1 := q1, q2 := q2, qs := true } (fZ (.val (.ref q1)) (.val (.ref q2))) (fZ .q1 .q2) :=
  ⟨rfl, fun _ h => h, rfl, fun _ h => h, rfl, fun _ h => h, rfl, fun _ h => h, rfl, fun _ h => h, rfl, fun _ h => h, rfl, fun _ h => h, rfl, fun _ h => h, rfl, fun _ h => h, rfl, fun _ h => h, rfl, fun _ h => h, rfl, fun _ h => h, rfl, fun _ h => ⟨rfl, h⟩, rfl, fun _ h => h, rfl, fun _ h => h, rfl, fun _ h => h, rfl, fun _ h => ⟨rfl, h⟩, rfl, fun _ h => h, rfl, fun _ h => h, trivial⟩
theorem sim_1 {P P' : Ad} {x : Str} : FsSim2 P P' (s1Of x 0) (s1Of x 0) := ⟨rfl, fun _ h => h, rfl, fun _ h => h, rfl, fun _ h => h, trivial⟩

theorem init_call {x : Str} {t : Tok} {lex ld : Addr} {R : Result → Shared → Prop} (hA : okA 10 A) (S : StK (KK w) g) (le : Le g s.heap) (n1 : g.get? lex = none) (n2 : g.get? ld = none) (h1 : s.heap.get? lex = some (instObj 746 ld)) (h2 : s.heap.get? ld = some emptyDict) (hne : lex ≠ ld) (hz : g.objs.size ≤ s.heap.objs.size) (hx : x.length ≤ sizeLine)
    (hq : ∀ (P : Ad) h' t', P.lex = lex → Ready P g h' x (fZ .q1 .q2) → R (.ok (.ret .none)) { s with heap := h', toks := t' }) :
    codeAny (model prg w) A (.call (.ref 670) ⟨[.ref lex, .str x t], [(Str.ofString "posix", .bool true)]⟩) R s := by
  have r := KI.r670 (KK := KK) w
  simp only [fnRow, Prod.mk.injEq] at r
  obtain ⟨r1, r2, r3, r4, r5, r6, r7, r8, r9, r10⟩ := r
  obtain ⟨l1, l2⟩ := Bool.and_eq_true_iff.mp in_loc
  have S1 := S.up le
  refine codeAny_call_def (fd := fnAt (KK w) 670) (body := inB.1) (binds := inPs.zip (vals5 (.ref lex) (.str x t))) (by have := hA.2.1; omega) (S1.kin _ _ r1) r2 S1.nl (codeRec_of S1.kin r4) r3 (fun _ _ _ _ hq => rdK_snd S1.kin (KI.b670 w _ _) hq) ?_ ?_ ?_ r7 r8 r6
  · intro x hx
    exact of_decide_eq_true (List.all_eq_true.mp l1 x (r5 ▸ hx))
  · intro x hx
    rw [r5]
    exact beq_iff_eq.mp (List.all_eq_true.mp l2 x.1 (List.of_mem_zip (a := x.1) (b := x.2) hx).1)
  · intro h₁ hns hk₁
    have hE : EnvOk (callEnv (fnAt (KK w) 670) s.heap.objs.size 670) inB.2 s.heap.objs.size := ⟨r6, rfl, r9, r10, r5⟩
    have hA' : okA 8 (A.deeper (callEnv (fnAt (KK w) 670) s.heap.objs.size 670)) := ⟨hA.1, by have := hA.2.1; show A.depth + 1 + 8 < _; omega, by have := hA.2.2; show A.units + 3 + 8 * 8 < _; omega⟩
    generalize callEnv (fnAt (KK w) 670) s.heap.objs.size 670 = env at hE hA'
    have nL : ∀ b o, s.heap.get? b = some o → b ≠ s.heap.objs.size := fun b o e => Nat.ne_of_lt (Heap.lt_size e)
    have F : Fr g s.heap.objs.size h₁ (fun x' => (inPs.zip (vals5 (.ref lex) (.str x t))).reverse.lookup x') := ⟨hns, Le.trans le hk₁, hz⟩
    have N : News g s.heap.objs.size h₁ [(lex, instObj 746 ld), (ld, emptyDict)] := by
      intro p hp
      rcases List.mem_cons.mp hp with rfl | hp
      · exact ⟨hk₁ _ _ h1, nL _ _ h1, n1⟩
      · rcases List.mem_cons.mp hp with rfl | hp
        · exact ⟨hk₁ _ _ h2, nL _ _ h2, n2⟩
        · cases hp
    rw [in_eq]
    refine wpAny_execs_cons (i0_run (KK := KK) (s := { s with heap := h₁, toks := s.toks + _ }) i0_ok S F N hne hE (ze _ _) hx hA' ?_)
    intro P h2 t2 e1 e2 e3 FO' D
    subst e1 e2
    have G : Gd (KK w) P g := ⟨S.kin, S.nl, S.mg, S.mb, D, fun e => (by rw [show P.qs = false from e3] at e; cases e), fun e => (by rw [show P.qs = false from e3] at e; cases e)⟩
    refine init_body (KK := KK) e3 G hE (hA'.le (by omega)) ⟨_, FO', loc5⟩ ?_
    intro q1 q2 h3 t3 R3
    obtain ⟨m3, ⟨F3, e0, n0, e1, n1', N3, i0, i1⟩, _⟩ := R3
    refine hq { P with q1 := q1, q2 := q2, qs := true } h3 t3 rfl ⟨⟨D.a, D.b, D.c, D.d, D.e, fun _ h => nomatch h⟩, F3.keep, rfl, (N3 (q1, dqO) (by simp [led])).1, (N3 (q2, dqO) (by simp [led])).1, (N3 (q1, dqO) (by simp [led])).2.2, (N3 (q2, dqO) (by simp [led])).2.2, e0, n0, e1, n1', fun p hp => ?_, i0.sim2 sim_Z, i1.sim2 sim_1⟩
    have : p ∈ led ⟨P, [(q2, dqO), (q1, dqO)]⟩ e0 n0 e1 n1' := by
      simp only [led, List.mem_cons, List.not_mem_nil, or_false] at hp ⊢
      rcases hp with q | q | q | q
      · exact .inl q
      · exact .inr (.inl q)
      · exact .inr (.inr (.inl q))
      · exact .inr (.inr (.inr (.inl q)))
    exact ⟨(N3 p this).1, (N3 p this).2.2⟩

theorem ctor {x : Str} {t : Tok} {R : Result → Shared → Prop} (hA : okA 11 A) (S : StK (KK w) s.heap) (hx : x.length ≤ sizeLine)
    (hq : ∀ (P : Ad) h' t', Ready P s.heap h' x (fZ .q1 .q2) → R (.ok (.ret (.ref P.lex))) { s with heap := h', toks := t' }) :
    codeAny (model prg w) A (.call (.ref 746) ⟨[.str x t], [(Str.ofString "posix", .bool true)]⟩) R s := by
  have r := KI.mkr (KK := KK) w
  simp only [Prod.mk.injEq] at r
  obtain ⟨r1, r2, r3⟩ := r
  obtain ⟨h, gg, d, tk, os⟩ := s
  refine make_core (makes_of S.kin r1) (looks_findIn S.kin r2) (fun self => bind_fn S.kin self r3) (.inl rfl) ?_
  refine init_call (KK := KK) (g := h) (ld := h.objs.size) (okA.tc hA) S (fun b o e => Heap.get?_push_of_some _ (Heap.get?_push_of_some _ e)) (Heap.get?_none_of_le (Nat.le_succ _)) (Heap.get?_none_of_le (Nat.le_refl _)) (by heap_get) (by heap_get) (Nat.succ_ne_self _) (by rw [Heap.size_push, Heap.size_push]; omega) hx ?_
  intro P h' t' e Rd
  exact ⟨rfl, e ▸ hq P h' t' Rd⟩
end
end Mine
end
section
open PySem PySem.W PySem.Calls PyProof.Rows
namespace Mine

theorem SndC.le {prog : Program} {w : World} {K : Frag} {P : Ad} {n m : Nat} {c : Value → List AV → Fs → Fs → (AV → Fs → Fs → Prop) → Prop} (h : SndC prog w K P n c) (hm : n ≤ m) : SndC prog w K P m c :=
  fun f args f0 f1 k hc A g L mm s vals R hA => h f args f0 f1 k hc A g L mm s vals R (hA.le hm)

section
variable {KK : World → Frag} [KF KK] {w : World} {P : Ad}

theorem c0_snd (hQ : ∀ g, Gd (KK w) P g → TQ prg w P g) (n : Nat) : SndC prg w (KK w) P (2 * n) (c0 n) :=
  tabC_snd (X := X0) (kl_of (kl_ok w)) hQ (fun _ _ _ _ _ h => h) (tab0_ok w) n

theorem cT_of {b : Str} {p p' : Int} {r : AV} (hQ : ∀ g, Gd (KK w) P g → TQ prg w P g) (h : ∀ f0, c0 2 (.ref 557) [.sio, .int 1] f0 (s1Of b p) fun a f0' f1' => Sim a r ∧ f0' = f0 ∧ f1' = s1Of b p') : SndC prg w (KK w) P 4 (cT b p r p') := by
  intro f args f0 f1 k hc A g L m s vals R hA G FO' ha hq
  unfold cT at hc
  split at hc
  · rename_i a
    split at hc
    · rename_i hb
      obtain rfl : a = 557 := Nat.eq_of_beq_eq_true hb
      obtain ⟨rfl, rfl, hk⟩ := hc
      refine c0_snd hQ 2 _ _ _ _ _ (h f0) A g L m s vals R hA G FO' ha ?_
      rintro v a f0' f1' h' t' FO'' kp hi ⟨hs, rfl, rfl⟩
      exact hq v r _ _ h' t' FO'' kp (hs P v hi) hk
    · exact (c0_snd hQ 1).le (by omega) _ _ _ _ _ hc A g L m s vals R hA G FO' ha hq
  · exact hc.elim
theorem cT_char (hQ : ∀ g, Gd (KK w) P g → TQ prg w P g) (pre : List Nat) (c : Nat) (post : List Nat) : SndC prg w (KK w) P 4 (cT (ofL (pre ++ c :: post)) pre.length (.str (sg c)) (pre.length + 1)) := by
  refine cT_of hQ fun f0 => ?_
  rw [read_vc]
  have hl : ((ofL (pre ++ c :: post)).length : Int) = pre.length + (post.length + 1) := by rw [ofL_len]; simp
  refine ⟨fun h => by omega, fun _ => ⟨fun h => ⟨?_, rfl, rfl⟩, fun h => ?_⟩⟩
  · rw [slice_one]; exact sim_txt
  · have e : ((ofL (pre ++ c :: post)).length : Int) = pre.length + 1 := by omega
    rw [e, slice_one]
    exact ⟨sim_txt, rfl, rfl⟩
theorem cT_end (hQ : ∀ g, Gd (KK w) P g → TQ prg w P g) (pre : List Nat) : SndC prg w (KK w) P 4 (cT (ofL pre) pre.length (.str "") pre.length) := by
  refine cT_of hQ fun f0 => ?_
  rw [read_vc]
  refine ⟨fun _ => ⟨Sim.rfl, rfl, rfl⟩, fun h => ?_⟩
  exact absurd (by rw [ofL_len]; exact Int.le_refl _) h

theorem KX_T (w : World) (b : Str) (p p' : Int) (r : AV) : KX (KK w) (XT b p r p') := KL.kx (X := XT b p r p') (kl_of (kl_ok w))

noncomputable def OutK (b : Str) (k : AFl → LS → Prop) : Tk → Prop
  | .eof => ∀ e ln, k .next ⟨tl false e, lexF .none (.txt (ofL [])) ln, s1Of b b.length⟩
  | .last t => ∀ q e ln, (t ≠ [] ∨ q = true) → k .next ⟨tl q e, lexF .none (.txt (ofL t)) ln, s1Of b b.length⟩
  | .word t r => ∀ q e ln, (t ≠ [] ∨ q = true) → k .next ⟨tl q e, lexF (.str (sg 32)) (.txt (ofL t)) ln, s1Of b (b.length - r.length)⟩

noncomputable def rtTest : Expr := match rtB.1 with
  | _ :: _ :: .While t _ _ _ :: _ => t
  | _ => .Constant .none 0 ⟨0, 0, 0, 0⟩

inductive RTInv (P : Ad) (g : Heap) (L : Addr) (all : List Nat) (out : Tk) (s : Shared) (n : Nat) (s' : Shared) : Prop
  | mk (pre r : List Nat) (st : St) (q : Bool) (tt : List Nat) (e : Str) (ln : Int) (h : Heap) (t : Tok) (ha : all = pre ++ r) (hn : r.length = n) (hs : s' = { s with heap := h, toks := t }) (he : st = .es → e = sg 34) (hp : st = .sp → q = false ∧ tt = []) (ht : tt.length ≤ pre.length) (hr : rt st q tt r = some out)
      (R : Rep P g L ⟨tl q e, lexF (.str (stA st)) (.txt (ofL tt)) ln, s1Of (ofL all) pre.length⟩ h)
theorem while_RT {g : Heap} {L : Addr} {env : Env} {A : Around} {s : Shared} {u : Nat} {tp pos : Pos} {Q : Flow → Shared → Prop} {E : Value → Shared → Prop} {k : AFl → LS → Prop} {out : Tk} (all : List Nat)
    (hQ : ∀ g, Gd (KK w) P g → TQ prg w P g) (G : Gd (KK w) P g) (hE : EnvOk env rtB.2 L) (hA : okA 5 A) (hal : ∀ c ∈ all, inAl c = true) (hz : all.length + 1 ≤ sizeLine)
    (hk : OutK (ofL all) k out) (pre r : List Nat) (hpr : all = pre ++ r) (ln : Int) (hrt : rt .sp false [] r = some out)
    (R : Rep P g L ⟨tl false (sg 32), lexF (.str (sg 32)) (.txt (ofL [])) ln, s1Of (ofL all) pre.length⟩ s.heap)
    (hq : ∀ f b σ' h' t', Rep P g L σ' h' → FlIs P b f → k b σ' → Q f { s with heap := h', toks := t' }) : wpAny (model prg w) A (exec (.While (.Constant (.bool true) u tp) turnB [] pos) env) Q E s := by
  refine wpAny_While ?_
  refine codeAny_whileLoop (RTInv P g L all out s) ?_ r.length ⟨pre, r, .sp, false, [], sg 32, ln, s.heap, s.toks, hpr, rfl, rfl, by simp, fun _ => ⟨rfl, rfl⟩, Nat.zero_le _, hrt, R⟩
  rintro n s' ⟨pre, r, st, q, tt, e, ln, h, t, hall, hn, rfl, he, hsp, htt, hrt, R⟩
  refine isTrue_plain (wpAny_of_eq (a := Value.bool true) rfl (wpAny_truthy_bool ?_)) rfl
  simp only [if_true]
  cases r with
  | nil =>
    rw [List.append_nil] at hall
    subst hall
    have hl : ((ofL all).length : Int) = all.length := by rw [ofL_len]
    have SS' := ss_snd (ev_snd (X := XT (ofL all) all.length (.str "") all.length) (KX_T w _ _ _ _) G hE (hQ g G) (cT_end hQ all) (fun _ _ _ _ _ h => h.elim) 40).2.2
    cases st with
    | sp =>
      obtain ⟨rfl, rfl⟩ := hsp rfl
      simp only [rt, Option.some.injEq] at hrt
      subst hrt
      have vc := (t_sp_end (ofL all) all.length false e (ofL []) ln (fun (b : AFl) (σ : LS) => b = .brk ∧ σ = ⟨tl' false e "", lexF .none (.txt (ofL [])) ln, s1Of (ofL all) all.length⟩)).mpr ⟨rfl, rfl, rfl, rfl⟩
      refine SS' turnB _ _ vc A _ _ _ hA R ?_
      rintro f b σ' h' t' R' hf ⟨rfl, rfl⟩
      obtain rfl : f = .brk := hf
      have R'' := R'.sim (σ' := ⟨tl false e, lexF .none (.txt (ofL [])) ln, s1Of (ofL all) (ofL all).length⟩) tl_drop FsSim.rfl (by rw [hl]; exact FsSim.rfl)
      exact hq .next .next _ h' t' R'' rfl (hk e ln)
    | a =>
      simp only [rt] at hrt
      split at hrt
      · rename_i hne
        cases hrt
        have vc := (t_a_end (ofL all) all.length q e (ofL tt) ln (fun (b : AFl) (σ : LS) => b = .brk ∧ σ = ⟨tl' q e "", lexF .none (.txt (ofL tt)) ln, s1Of (ofL all) all.length⟩)).mpr ⟨rfl, rfl, rfl, rfl⟩
        refine SS' turnB _ _ vc A _ _ _ hA R ?_
        rintro f b σ' h' t' R' hf ⟨rfl, rfl⟩
        obtain rfl : f = .brk := hf
        have R'' := R'.sim (σ' := ⟨tl q e, lexF .none (.txt (ofL tt)) ln, s1Of (ofL all) (ofL all).length⟩) tl_drop FsSim.rfl (by rw [hl]; exact FsSim.rfl)
        exact hq .next .next _ h' t' R'' rfl (hk q e ln hne)
      · cases hrt
    | q1 => simp [rt] at hrt
    | q2 => simp [rt] at hrt
    | es => simp [rt] at hrt
  | cons c r =>
    have hc : inAl c = true := hal c (by rw [hall]; simp)
    have SS' := ss_snd (ev_snd (X := XT (ofL (pre ++ c :: r)) pre.length (.str (sg c)) (pre.length + 1)) (KX_T w _ _ _ _) G hE (hQ g G) (cT_char hQ pre c r) (fun _ _ _ _ _ h => h.elim) 40).2.2
    rw [← hall] at SS'
    have hlen : all.length = pre.length + (r.length + 1) := by rw [hall]; simp
    by_cases hw : st = .a ∧ c = 32
    · obtain ⟨rfl, rfl⟩ := hw
      simp only [rt, and_self, if_true] at hrt
      split at hrt
      · rename_i hne
        cases hrt
        have hl : ((ofL all).length : Int) - r.length = pre.length + 1 := by rw [ofL_len]; omega
        have vc : (ev (XT (ofL all) pre.length (.str (sg 32)) (pre.length + 1)) 40).ss turnB ⟨tl q e, lexF (.str (sg 97)) (.txt (ofL tt)) ln, s1Of (ofL all) pre.length⟩ (fun b σ => b = .brk ∧ σ = ⟨tl' q e (sg 32), lexF (.str (sg 32)) (.txt (ofL tt)) ln, s1Of (ofL all) (pre.length + 1)⟩) := by
          cases q with
          | true => exact (t_a_sp_true (ofL all) pre.length true e (ofL tt) ln _).symm ▸ ⟨rfl, rfl, fun _ => ⟨rfl, rfl⟩, fun _ => ⟨rfl, rfl⟩⟩
          | false => exact (t_a_sp_false (ofL all) pre.length false e (ofL tt) ln _).symm ▸ ⟨rfl, rfl, fun _ => ⟨rfl, rfl⟩, fun h0 => by
              rw [ofL_len] at h0
              rcases hne with hne | hne
              · exact absurd (List.length_eq_zero_iff.mp h0) hne
              · cases hne⟩
        refine SS' turnB _ _ vc A _ _ _ hA R ?_
        rintro f b σ' h' t' R' hf ⟨rfl, rfl⟩
        obtain rfl : f = .brk := hf
        have R'' := R'.sim (σ' := ⟨tl q e, lexF (.str (sg 32)) (.txt (ofL tt)) ln, s1Of (ofL all) ((ofL all).length - r.length)⟩) tl_drop FsSim.rfl (by rw [hl]; exact FsSim.rfl)
        exact hq .next .next _ h' t' R'' rfl (hk q e ln hne)
      · cases hrt
    · have hrt' : ∃ st' q' t', stp st tt c = some (st', q', t') ∧ rt st' (q || q') t' r = some out := by
        have hrt := hrt
        rw [rt_cons hw] at hrt
        split at hrt
        · exact ⟨_, _, _, by assumption, hrt⟩
        · cases hrt
      obtain ⟨st', q', t', hst, hrt'⟩ := hrt'
      have vc := turn_ok (q := q) (b := ofL all) (p := pre.length) (ln := ln) (e := e) (k := fun b σ => b = .next ∧ ∃ e' tok ln', (st' = .es → e' = sg 34) ∧ Sim tok (.txt (ofL t')) ∧ σ = ⟨tl' (q || q') e' (sg c), lexF (.str (stA st')) tok ln', s1Of (ofL all) (pre.length + 1)⟩)
        hc hst he (by omega) (fun e' tok ln' h1 h2 => ⟨rfl, e', tok, ln', h1, h2, rfl⟩)
      refine SS' turnB _ _ vc A _ _ _ hA R ?_
      rintro f b σ' h' t'' R' hf ⟨rfl, e', tok, ln', h1, h2, rfl⟩
      obtain rfl : f = .next := hf
      refine ⟨r.length, by rw [← hn]; exact Nat.lt_succ_self _, pre ++ [c], r, st', q || q', t', e', ln', h', t'', by rw [hall]; simp, rfl, rfl, h1, ?_, ?_, hrt', ?_⟩
      · intro e9
        subst e9
        exfalso
        cases st <;> simp only [stp] at hst <;> (repeat' split at hst) <;> simp at hst
      · have : t'.length ≤ tt.length + 1 := by
          cases st <;> simp only [stp] at hst <;> (repeat' split at hst) <;> simp at hst <;> obtain ⟨_, _, rfl⟩ := hst <;> simp
        simp; omega
      · refine R'.sim (σ' := ⟨tl (q || q') e', lexF (.str (stA st')) (.txt (ofL t')) ln', s1Of (ofL all) (pre ++ [c]).length⟩) tl_drop (lexF_sim h2) ?_
        have : (((pre ++ [c]).length : Nat) : Int) = pre.length + 1 := by simp
        rw [this]; exact FsSim.rfl
end
end Mine
end
section
open PySem PySem.W PySem.Calls PyProof.Rows
namespace Mine

noncomputable def rtRest : List Stmt := match rtB.1 with
  | _ :: _ :: _ :: r => r
  | _ => []
noncomputable def rtU : Nat := match rtTest with
  | .Constant _ u _ => u
  | _ => 0
noncomputable def rtP : Pos := match rtTest with
  | .Constant _ _ p => p
  | _ => ⟨0, 0, 0, 0⟩
theorem rtTest_eq : rtTest = .Constant (.bool true) rtU rtP := by kernel_rfl

noncomputable def wlR (b : Str) (t : Expr) (body o : List Stmt) (σ : LS) (k : AFl → LS → Prop) : Prop :=
  t = rtTest ∧ body = turnB ∧ o = [] ∧
  ((∃ pre r out ln, b = ofL (pre ++ r) ∧ (∀ c ∈ pre ++ r, inAl c = true) ∧ (pre ++ r).length + 1 ≤ sizeLine ∧ σ = ⟨tl false (sg 32), lexF (.str (sg 32)) (.txt (ofL [])) ln, s1Of b pre.length⟩ ∧ rt .sp false [] r = some out ∧ OutK b k out) ∨
   (∃ all ln, b = ofL all ∧ σ = ⟨tl false (sg 32), lexF .none (.txt (ofL [])) ln, s1Of b b.length⟩ ∧ k .next ⟨tl false (sg 32), lexF .none (.txt (ofL [])) ln, s1Of b b.length⟩))
noncomputable def XR (b : Str) : Cx := { X0 with sc := rtB.2, wl := wlR b }

theorem rt_vc1 (b : Str) (st tok : AV) (ln p : Int) (K : AFl → LS → Prop) : (ev (XR b) 40).ss rtB.1 ⟨[("self", .lex)], lexF st tok ln, s1Of b p⟩ K =
    wlR b rtTest turnB [] ⟨tl false (sg 32), lexF st tok ln, s1Of b p⟩ (fun f σ' => match f with
      | .next => (ev (XR b) 40).ss rtRest σ' K
      | f => K f σ') := by kernel_rfl
theorem rt_vc2t (b : Str) (e t : Str) (st : AV) (ln p : Int) (K : AV → Fs → Fs → Prop) : (ev (XR b) 40).ss rtRest ⟨tl true e, lexF st (.txt t) ln, s1Of b p⟩ (backA K) = K (.txt t) (lexF st (.str "") ln) (s1Of b p) := by kernel_rfl
theorem rt_vc2f (b : Str) (e t : Str) (st : AV) (ln p : Int) (K : AV → Fs → Fs → Prop) : (ev (XR b) 40).ss rtRest ⟨tl false e, lexF st (.txt t) ln, s1Of b p⟩ (backA K) =
    ((t.cps.toList = ("" : Str).cps.toList → K .none (lexF st (.str "") ln) (s1Of b p)) ∧ (t.cps.toList ≠ ("" : Str).cps.toList → K (.txt t) (lexF st (.str "") ln) (s1Of b p))) := by kernel_rfl

inductive ROut (b : Str) : AV → Int → AV → AV → Int → Prop
  | eof {pre r : List Nat} : b = ofL (pre ++ r) → rt .sp false [] r = some .eof → ROut b (.str (sg 32)) pre.length .none .none b.length
  | last {pre r t : List Nat} : b = ofL (pre ++ r) → rt .sp false [] r = some (.last t) → ROut b (.str (sg 32)) pre.length (.txt (ofL t)) .none b.length
  | word {pre r t r' : List Nat} : b = ofL (pre ++ r) → rt .sp false [] r = some (.word t r') → ROut b (.str (sg 32)) pre.length (.txt (ofL t)) (.str (sg 32)) (b.length - r'.length)
  | done : ROut b .none b.length .none .none b.length

theorem nil_cps : (Str.ofString "").cps.toList = [] := by kernel_rfl

noncomputable def cG (b : Str) (f' : Addr) (st : AV) (p : Int) (r st' : AV) (p' : Int) (f : Value) (args : List AV) (f0 f1 : Fs) (k : AV → Fs → Fs → Prop) : Prop := match f with
  | .ref a => (match Nat.beq a f' with
    | true => args = [.lex] ∧ f1 = s1Of b p ∧ ∃ ln, f0 = lexF st (.txt (ofL [])) ln ∧ ∀ ln', k r (lexF st' (.txt (ofL [])) ln') (s1Of b p')
    | false => False)
  | _ => False

section
variable {KK : World → Frag} [KF KK] {w : World} {P : Ad}
theorem KX_R (w : World) (b : Str) : KX (KK w) (XR b) := KL.kx (X := XR b) (kl_of (kl_ok w))

theorem wlR_snd {g : Heap} {L : Addr} {env : Env} {b : Str} (hQ : ∀ g, Gd (KK w) P g → TQ prg w P g) (G : Gd (KK w) P g) (hE : EnvOk env rtB.2 L) : SndW prg w P g L env 4 (wlR b) := by
  rintro t body o σ k ⟨rfl, rfl, rfl, h⟩ p A s Q E hA R hq
  rw [rtTest_eq]
  rcases h with ⟨pre, r, out, ln, rfl, hal, hz, rfl, hrt, hk⟩ | ⟨all, ln, rfl, rfl, hk⟩
  · exact while_RT (pre ++ r) hQ G hE hA hal hz hk pre r rfl ln hrt R hq
  · have hl : ((ofL all).length : Int) = all.length := by rw [ofL_len]
    rw [hl] at R hk
    refine wpAny_While (codeAny_whileLoop (fun n s' => n = 0 ∧ s' = s) ?_ 0 ⟨rfl, rfl⟩)
    rintro n s' ⟨rfl, rfl⟩
    refine isTrue_plain (wpAny_of_eq (a := Value.bool true) rfl (wpAny_truthy_bool ?_)) rfl
    simp only [if_true]
    have SS' := ss_snd (ev_snd (X := XT (ofL all) all.length (.str "") all.length) (KX_T w _ _ _ _) G hE (hQ g G) (cT_end hQ all) (fun _ _ _ _ _ h => h.elim) 40).2.2
    have vc := (t_none_end (ofL all) all.length false (sg 32) (ofL []) ln (fun (b : AFl) (σ : LS) => b = .brk ∧ σ = ⟨tl' false (sg 32) "", lexF .none (.str "") ln, s1Of (ofL all) all.length⟩)).mpr ⟨rfl, rfl, rfl, rfl⟩
    refine SS' turnB _ _ vc A _ _ _ hA R ?_
    rintro f b σ' h' t' R' hf ⟨rfl, rfl⟩
    obtain rfl : f = .brk := hf
    have R'' := R'.sim (σ' := ⟨tl false (sg 32), lexF .none (.txt (ofL [])) ln, s1Of (ofL all) all.length⟩) tl_drop (lexF_sim sim_str) FsSim.rfl
    exact hq .next .next _ h' t' R'' rfl hk

theorem cRT_snd {b : Str} {st r st' : AV} {p p' : Int} (hQ : ∀ g, Gd (KK w) P g → TQ prg w P g) (ho : ROut b st p r st' p') (hal : ∀ c ∈ b.cps.toList, inAl c = true) (hz : b.length + 1 ≤ sizeLine) : SndC prg w (KK w) P 6 (cG b 714 st p r st' p') := by
  intro f args f0 f1 k hc A g L m s vals R hA G FO' ha hq
  unfold cG at hc
  split at hc
  · rename_i a
    split at hc
    · rename_i hb
      obtain rfl : a = 714 := Nat.eq_of_beq_eq_true hb
      obtain ⟨rfl, rfl, ln, rfl, hk⟩ := hc
      have emp : ∀ (t : Str) (st' : AV) ln', FsSim (lexF st' (.str "") ln') (lexF st' (.txt (ofL [])) ln') := fun _ _ _ => lexF_sim sim_str
      -- the value and the fields, up to what is said of them
      refine fn_snd (n := 4) (X := XR b) (kk := fun a f0' f1' => Sim a r ∧ ∃ ln', f0' = lexF st' (.str "") ln' ∧ f1' = s1Of b p') (KF.f714 w) (KX_R w b) ((c0_snd hQ 0).le (by omega)) (fun g' L' env G' _ hE => wlR_snd hQ G' hE) G (hQ g G) FO' hA ha rfl 40 ?_ ?_
      · show (ev (XR b) 40).ss rtB.1 ⟨[("self", .lex)], lexF st (.txt (ofL [])) ln, s1Of b p⟩ _
        rw [rt_vc1]
        refine ⟨rfl, rfl, rfl, ?_⟩
        cases ho with
        | @eof pre rr e hrt =>
          refine .inl ⟨pre, rr, _, ln, e, by rw [e] at hal; simpa [ofL] using hal, by rw [e, ofL_len] at hz; exact hz, rfl, hrt, fun e' ln' => ?_⟩
          show (ev (XR b) 40).ss rtRest _ _
          rw [rt_vc2f]
          exact ⟨fun _ => ⟨Sim.rfl, ln', rfl, rfl⟩, fun h => absurd rfl h⟩
        | @last pre rr t e hrt =>
          refine .inl ⟨pre, rr, _, ln, e, by rw [e] at hal; simpa [ofL] using hal, by rw [e, ofL_len] at hz; exact hz, rfl, hrt, fun q e' ln' hne => ?_⟩
          show (ev (XR b) 40).ss rtRest _ _
          cases q with
          | true => rw [rt_vc2t]; exact ⟨Sim.rfl, ln', rfl, rfl⟩
          | false =>
            rw [rt_vc2f]
            refine ⟨fun h => ?_, fun _ => ⟨Sim.rfl, ln', rfl, rfl⟩⟩
            rcases hne with hne | hne
            · exact absurd (by simpa [ofL, nil_cps] using h) hne
            · cases hne
        | @word pre rr t r' e hrt =>
          refine .inl ⟨pre, rr, _, ln, e, by rw [e] at hal; simpa [ofL] using hal, by rw [e, ofL_len] at hz; exact hz, rfl, hrt, fun q e' ln' hne => ?_⟩
          show (ev (XR b) 40).ss rtRest _ _
          cases q with
          | true => rw [rt_vc2t]; exact ⟨Sim.rfl, ln', rfl, rfl⟩
          | false =>
            rw [rt_vc2f]
            refine ⟨fun h => ?_, fun _ => ⟨Sim.rfl, ln', rfl, rfl⟩⟩
            rcases hne with hne | hne
            · exact absurd (by simpa [ofL, nil_cps] using h) hne
            · cases hne
        | done =>
          refine .inr ⟨b.cps.toList, ln, by simp [ofL], rfl, ?_⟩
          show (ev (XR b) 40).ss rtRest _ _
          rw [rt_vc2f]
          exact ⟨fun _ => ⟨Sim.rfl, ln, rfl, rfl⟩, fun h => absurd rfl h⟩
      · rintro v a f0' f1' h' t' FO'' kp hi ⟨hs, ln', rfl, rfl⟩
        exact hq v r _ _ h' t' (FO''.sim (emp "" _ _) FsSim.rfl) kp (hs P v hi) (hk ln')
    · exact hc.elim
  · exact hc.elim
end
end Mine
end
section
open PySem PySem.W PySem.Calls PyProof.Rows
namespace Mine

noncomputable def wl1 (X : Cx) (t : Expr) (b o : List Stmt) (σ : LS) (k : AFl → LS → Prop) : Prop := (ev X 30).t t σ fun c σ' => match c with
  | true => (ev X 30).ss b σ' fun f σ'' => (match f with
    | .ret a => k (.ret a) σ''
    | .brk => k .next σ''
    | _ => False)
  | false => (ev X 30).ss o σ' k
theorem wl1_snd {prog : Program} {w : World} {K : Frag} {P : Ad} {X : Cx} {g : Heap} {L : Addr} {env : Env} {n : Nat} (hX : KX K X) (G : Gd K P g) (hE : EnvOk env X.sc L) (hT : TQ prog w P g) (hC : SndC prog w K P n X.c) (hW : SndW prog w P g L env n X.wl) : SndW prog w P g L env n (wl1 X) := by
  intro t b o σ k h p A s Q E hA R hq
  have ES := ev_snd hX G hE hT hC hW 30
  refine wpAny_While (codeAny_whileLoop (fun n s' => n = 0 ∧ s' = s) ?_ 0 ⟨rfl, rfl⟩)
  rintro n s' ⟨rfl, rfl⟩
  refine ES.2.1 t σ _ h A _ _ _ hA R fun c σ' h' t' R' hk => ?_
  cases c with
  | true =>
    refine ss_snd ES.2.2 b σ' _ hk A _ _ _ hA R' fun f fa σ'' h'' t'' R'' hf hk' => ?_
    cases fa with
    | ret a => obtain ⟨v, rfl, hv⟩ := hf; exact hq (.ret v) (.ret a) σ'' h'' t'' R'' ⟨v, rfl, hv⟩ hk'
    | brk => obtain rfl : f = .brk := hf; exact hq .next .next σ'' h'' t'' R'' rfl hk'
    | next => exact hk'.elim
    | cont => exact hk'.elim
  | false => exact ss_snd ES.2.2 o σ' _ hk A _ _ _ hA R' fun f fa σ'' h'' t'' R'' hf hk' => hq f fa σ'' h'' t'' R'' hf hk'

noncomputable def XG0 (b : Str) (st : AV) (p : Int) (r st' : AV) (p' : Int) : Cx := { X0 with sc := gtB.2, c := cG b 714 st p r st' p' }
noncomputable def XG (b : Str) (st : AV) (p : Int) (r st' : AV) (p' : Int) : Cx := { XG0 b st p r st' p' with wl := wl1 (XG0 b st p r st' p') }
theorem gt_vcn (b : Str) (st : AV) (p : Int) (st' : AV) (p' ln : Int) (K : AV → Fs → Fs → Prop) : (ev (XG b st p .none st' p') 40).ss gtB.1 ⟨[("self", .lex)], lexF st (.txt (ofL [])) ln, s1Of b p⟩ (backA K) =
    ([AV.lex] = [.lex] ∧ s1Of b p = s1Of b p ∧ ∃ ln0, lexF st (.txt (ofL [])) ln = lexF st (.txt (ofL [])) ln0 ∧ ∀ ln', K .none (lexF st' (.txt (ofL [])) ln') (s1Of b p')) := by kernel_rfl
theorem gt_vct (b t : Str) (st : AV) (p : Int) (st' : AV) (p' ln : Int) (K : AV → Fs → Fs → Prop) : (ev (XG b st p (.txt t) st' p') 40).ss gtB.1 ⟨[("self", .lex)], lexF st (.txt (ofL [])) ln, s1Of b p⟩ (backA K) =
    ([AV.lex] = [.lex] ∧ s1Of b p = s1Of b p ∧ ∃ ln0, lexF st (.txt (ofL [])) ln = lexF st (.txt (ofL [])) ln0 ∧ ∀ ln', K (.txt t) (lexF st' (.txt (ofL [])) ln') (s1Of b p')) := by kernel_rfl

section
variable {KK : World → Frag} [KF KK] {w : World} {P : Ad}
theorem cGT_snd {b : Str} {st r st' : AV} {p p' : Int} (hQ : ∀ g, Gd (KK w) P g → TQ prg w P g) (ho : ROut b st p r st' p') (hal : ∀ c ∈ b.cps.toList, inAl c = true) (hz : b.length + 1 ≤ sizeLine) : SndC prg w (KK w) P 8 (cG b 707 st p r st' p') := by
  intro f args f0 f1 k hc A g L m s vals R hA G FO' ha hq
  unfold cG at hc
  split at hc
  · rename_i a
    split at hc
    · rename_i hb
      obtain rfl : a = 707 := Nat.eq_of_beq_eq_true hb
      obtain ⟨rfl, rfl, ln, rfl, hk⟩ := hc
      have hC : SndC prg w (KK w) P 6 (XG b st p r st' p').c := cRT_snd hQ ho hal hz
      have kx0 : KX (KK w) (XG0 b st p r st' p') := KL.kx (X := XG0 b st p r st' p') (kl_of (kl_ok w))
      refine fn_snd (n := 6) (X := XG b st p r st' p') (kk := k) (KF.f707 w) (KL.kx (X := XG b st p r st' p') (kl_of (kl_ok w))) hC (fun g' L' env G' _ hE => wl1_snd kx0 G' hE (hQ g' G') hC (fun _ _ _ _ _ h => h.elim)) G (hQ g G) FO' hA ha rfl 40 ?_ hq
      show (ev (XG b st p r st' p') 40).ss gtB.1 ⟨[("self", .lex)], lexF st (.txt (ofL [])) ln, s1Of b p⟩ _
      cases ho with
      | eof e hrt => rw [gt_vcn]; exact ⟨rfl, rfl, ln, rfl, hk⟩
      | last e hrt => rw [gt_vct]; exact ⟨rfl, rfl, ln, rfl, hk⟩
      | word e hrt => rw [gt_vct]; exact ⟨rfl, rfl, ln, rfl, hk⟩
      | done => rw [gt_vcn]; exact ⟨rfl, rfl, ln, rfl, hk⟩
    · exact hc.elim
  · exact hc.elim
end
end Mine
end
section
open PySem PySem.W PySem.Calls PyProof.Rows
namespace Mine

noncomputable def KpF (P : Ad) (frs : List Addr) (h h' : Heap) : Prop := (∀ b o, h.get? b = some o → b ∉ [P.lex, P.ld, P.sio, P.sd] → b ∉ frs → h'.get? b = some o) ∧
  ∀ b o, h.get? b = some o → b ∉ [P.lex, P.ld, P.sio, P.sd] → (∀ vs, o.data ≠ .fields vs) → ∃ sl, h'.get? b = some { o with slots := sl }

theorem fun_frames_hide {h g : Heap} {L : Addr} {o : Obj} {env : Env} {outer : List Env} (hk : env.scope.kind ≠ .module) (hf : env.frame = some L) (hL : h.get? L = some o) (hd : ∀ vs, o.data ≠ .fields vs) (ho : h.FunFrames g outer) : h.FunFrames (hideAll h (L :: outer.filterMap (·.frame))) (env :: outer) := by
  refine ⟨hk, ⟨L, o, hf, hideAll_none _ (.head _), hL, hd⟩, ?_⟩
  have key : ∀ (l : List Env), (∀ e ∈ l, e ∈ outer) → h.FunFrames g l → h.FunFrames (hideAll h (L :: outer.filterMap (·.frame))) l := by
    intro l
    induction l with
    | nil => intro _ _; trivial
    | cons e r ih =>
      intro hin hl
      obtain ⟨h1, ⟨L1, o1, hf1, _, ho1, hd1⟩, hr⟩ := hl
      refine ⟨h1, ⟨L1, o1, hf1, hideAll_none _ (.tail _ (List.mem_filterMap.mpr ⟨e, hin e (.head _), hf1⟩)), ho1, hd1⟩, ih (fun x hx => hin x (.tail _ hx)) hr⟩
  exact key outer (fun _ h => h) ho
theorem fun_frames_at {h g : Heap} : ∀ {outer : List Env}, h.FunFrames g outer → ∀ a ∈ outer.filterMap (·.frame), ∃ o, h.get? a = some o ∧ g.get? a = none ∧ ∀ vs, o.data ≠ .fields vs
  | [], _, a, ha => by simp at ha
  | env :: r, ⟨_, ⟨L, o, hf, hn, ho, hd⟩, hr⟩, a, ha => by
    rw [List.filterMap_cons, hf] at ha
    rcases List.mem_cons.mp ha with rfl | ha
    · exact ⟨o, ho, hn, hd⟩
    · exact fun_frames_at hr a ha
theorem fun_frames_up {h h' g : Heap} : ∀ {outer : List Env}, h.FunFrames g outer → (∀ a ∈ outer.filterMap (·.frame), ∀ o, h.get? a = some o → ∃ sl, h'.get? a = some { o with slots := sl }) → h'.FunFrames g outer
  | [], _, _ => trivial
  | env :: r, ⟨hk, ⟨L, o, hf, hn, ho, hd⟩, hr⟩, hs => by
    rw [List.filterMap_cons, hf] at hs
    obtain ⟨sl, h1⟩ := hs L (.head _) o ho
    exact ⟨hk, ⟨L, _, hf, hn, h1, hd⟩, fun_frames_up hr fun a ha => hs a (.tail _ ha)⟩

section
variable {prog : Program} {w : World} {K : Frag} {P : Ad} {X : Cx} {g : Heap} {L : Addr} {env : Env} {n : Nat} {A : Around} {s : Shared} {E : Value → Shared → Prop} {m : Str → Option Value}

theorem enterX {gb : Heap} {f : Addr} {fo : Obj} {fd : FuncData} {body : List Stmt} {sc : List (Str × NameKind)} {ps : List Str} {args : List AV} {vals : List Value} {f0 f1 : Fs} {outer : List Env} {cls : String} {kk : Fs → Fs → Prop} {R : Result → Shared → Prop}
    (ok : FnOk K f fo fd body sc ps) (G : Gd K P gb) (kb : ∀ b o, gb.get? b = some o → s.heap.get? b = some o) (nb : ∀ a ∈ [P.lex, P.ld, P.sio, P.sd], gb.get? a = none) (FO' : FO P g L m f0 f1 s.heap) (hA : okA (n + 2) A) (ha : IsAll P args vals) (hl : args.length = ps.length)
    (hfr : A.frames = some outer) (hff : s.heap.FunFrames g outer) (hdj : ∀ a ∈ [P.lex, P.ld, P.sio, P.sd], a ∉ outer.filterMap (·.frame))
    (h : ∀ g' L' env s1, Gd K P g' → EnvOk env sc L' → okA (n + 1) (A.deeper env) → Rep P g' L' ⟨(ps.reverse.zip args.reverse), f0, f1⟩ s1.heap → ∀ Q' E', (∀ σ' h' t' h'' e, Rep P g' L' σ' h' → kk σ'.f0 σ'.f1 → Heap.NewExc h' h'' e cls → E' (.ref e) { s1 with heap := h'', toks := t' }) → wpAny (model prog w) (A.deeper env) (execs body env) Q' E' s1)
    (hq : ∀ e ob f0' f1' h' t', FO P g L m f0' f1' h' → KpF P (outer.filterMap (·.frame)) s.heap h' → kk f0' f1' → h'.get? e = some ob → ob.cls = .type cls → R (.error (.ref e)) { s with heap := h', toks := t' }) :
    codeAny (model prog w) A (.call (.ref f) ⟨vals, []⟩) R s := by
  have F := FO'.1
  obtain ⟨_, e0, n0, e1, n1, N, i0, i1⟩ := FO'
  have hvl : vals.length = ps.length := (isAll_len ha).trans hl
  have nm : ∀ b o, g.get? b = some o → b ∉ (led P e0 n0 e1 n1).map (·.1) := fun b o e q => by
    obtain ⟨p, hp, rfl⟩ := List.mem_map.mp q
    rw [(N p hp).2.2] at e; cases e
  have st : ∀ b o, g.get? b = some o → (hideAll s.heap ((led P e0 n0 e1 n1).map (·.1))).get? b = some o := fun b o e => hideAll_get _ (F.keep b o e) (nm b o e)
  have stb : ∀ b o, gb.get? b = some o → (hideAll s.heap ((led P e0 n0 e1 n1).map (·.1))).get? b = some o := fun b o e => hideAll_get _ (kb b o e) fun q => by
    rw [nb b q] at e; cases e
  refine codeAny_call_def (fd := fd) (body := body) (binds := ps.zip vals) (by have := hA.2.1; omega) (G.kin.keeps kb _ _ ok.at_) ok.dat (G.nl.keeps kb) (codeRec_of (G.kin.keeps kb) ok.cod) ok.bod (fun _ _ _ _ hq => rdK_snd (G.kin.keeps kb) (ok.bind vals hvl) hq) ?_ ?_ ?_ ok.co ok.gen ok.kind
  · intro x hx
    have c := List.all_eq_true.mp ok.cell x (ok.scn ▸ hx)
    exact of_decide_eq_true c
  · intro x hx
    have c := List.all_eq_true.mp ok.loc x.1 (List.of_mem_zip (a := x.1) (b := x.2) hx).1
    rw [ok.scn]
    exact beq_iff_eq.mp c
  · intro h₁ hns hk₁
    have hE : EnvOk (callEnv fd s.heap.objs.size f) sc s.heap.objs.size := ⟨ok.kind, rfl, ok.glo, ok.blt, ok.scn⟩
    have hfrm : (callEnv fd s.heap.objs.size f).frame = some s.heap.objs.size := rfl
    have hA' : okA (n + 1) (A.deeper (callEnv fd s.heap.objs.size f)) := ⟨hA.1, by have := hA.2.1; show A.depth + 1 + (n + 1) < _; omega, by have := hA.2.2; show A.units + 3 + 8 * (n + 1) < _; omega⟩
    have fr' : (A.deeper (callEnv fd s.heap.objs.size f)).frames = some (callEnv fd s.heap.objs.size f :: outer) := by show A.frames.map _ = _; rw [hfr]; rfl
    generalize callEnv fd s.heap.objs.size f = env at hE hfrm hA' fr'
    have G' := G.up stb
    have hh := h _ _ _ { s with heap := h₁, toks := s.toks + (ps.zip vals).length } G' hE hA'
    refine hh ?_ _ _ ?_
    · refine ⟨_, ⟨⟨hns, fun b o e => hk₁ b o (of_hideAll _ e), Nat.le_of_eq (hideAll_size _ _)⟩, e0, n0, e1, n1, fun p hp => ⟨hk₁ _ _ (N p hp).1, Nat.ne_of_lt (Heap.lt_size (N p hp).1), hideAll_none _ (List.mem_map_of_mem hp)⟩, i0, i1⟩, fun x a e => ?_⟩
      have z : (ps.zip vals).reverse = ps.reverse.zip vals.reverse := by
        rw [zip_rev hvl.symm]
      show ∃ v, (ps.zip vals).reverse.lookup x = some v ∧ _
      rw [z]
      exact loc_of (isAll_rev ha) x a e
    · intro σ' h3 t3 h4 e R3 hk3 hm
      obtain ⟨m3, ⟨F3, e0', n0', e1', n1', N3, i03, i13⟩, _⟩ := R3
      obtain ⟨oL', _, _, hoL', hdL', _⟩ := F3.ns
      have nfL' : ∀ vs, oL'.data ≠ .fields vs := fun vs q => by rw [hdL'] at q; cases q
      -- what was not the reader's own stands in h3 as it stood
      have k3 : ∀ b o, s.heap.get? b = some o → b ∉ [P.lex, P.ld, P.sio, P.sd] → h3.get? b = some o := fun b o e hb => F3.keep b o (hideAll_get _ e hb)
      have nfr : ∀ a ∈ outer.filterMap (·.frame), a ∉ [P.lex, P.ld, P.sio, P.sd] := fun a ha q => hdj a q ha
      have hff3 : h3.FunFrames g outer := fun_frames_up hff fun a ha o e => ⟨o.slots, k3 a o e (nfr a ha)⟩
      have FF := fun_frames_hide (by rw [hE.kind]; decide) hfrm hoL' nfL' hff3
      obtain ⟨ob, tp, he, hcls, hd⟩ := hm.there
      have hen : (hideAll h3 (s.heap.objs.size :: outer.filterMap (·.frame))).get? e = none := by
        cases q : (hideAll h3 (s.heap.objs.size :: outer.filterMap (·.frame))).get? e with
        | none => rfl
        | some o => have := of_hideAll _ q; rw [hm.new] at this; cases this
      refine wpAny_leaving_first (base := hideAll h3 (s.heap.objs.size :: outer.filterMap (·.frame))) fr' (FF.of_keeps fun b o hb _ => ⟨o, hm.keeps b o hb, rfl⟩) hfrm he (fun b o hb => hm.keeps b o (of_hideAll _ hb)) hen hd rfl fun h5 hL => ?_
      obtain ⟨k1, k2, ⟨oe, _, _, _, _, hoe, hoec, _⟩, k4⟩ := hL
      -- from h3 to h5
      have k35 : ∀ b o, h3.get? b = some o → b ∉ s.heap.objs.size :: outer.filterMap (·.frame) → h5.get? b = some o := fun b o e hb => k1 b o (hideAll_get _ e hb)
      have s35 : ∀ b o, h3.get? b = some o → (∀ vs, o.data ≠ .fields vs) → ∃ sl, h5.get? b = some { o with slots := sl } := fun b o e hn => k4 b o (hm.keeps b o e) hn
      have newL : ∀ b o, s.heap.get? b = some o → b ≠ s.heap.objs.size := fun b o e => Nat.ne_of_lt (Heap.lt_size e)
      have kp : KpF P (outer.filterMap (·.frame)) s.heap h5 := by
        refine ⟨fun b o e hb hf => k35 b o (k3 b o e hb) fun q => ?_, fun b o e hb hn => s35 b o (k3 b o e hb) hn⟩
        rcases List.mem_cons.mp q with q | q
        · exact newL b o e q
        · exact hf q
      obtain ⟨oL, es, ep, hLL, hLd, hLk, hLf⟩ := F.ns
      have nL : L ∉ [P.lex, P.ld, P.sio, P.sd] := fun q => by
        obtain ⟨p, hp, e⟩ := List.mem_map.mp (show L ∈ (led P e0 n0 e1 n1).map (·.1) from q)
        exact (N p hp).2.1 e
      have nfL : ∀ vs, oL.data ≠ .fields vs := fun vs q => by rw [hLd] at q; cases q
      obtain ⟨slL, hL5⟩ := s35 L oL (k3 L oL hLL nL) nfL
      have back : FO P g L m σ'.f0 σ'.f1 h5 := by
        refine ⟨⟨⟨{ oL with slots := slL }, es, ep, hL5, hLd, hLk, hLf⟩, fun b o e => kp.1 b o (F.keep b o e) (nm b o e) fun q => ?_, F.above⟩, e0', n0', e1', n1', fun p hp => ⟨k35 p.1 p.2 (N3 p hp).1 fun q => ?_, fun q => ?_, ?_⟩, i03, i13⟩
        · obtain ⟨_, _, hn, _⟩ := fun_frames_at hff b q
          rw [e] at hn; cases hn
        · rcases List.mem_cons.mp q with q | q
          · exact (N3 p hp).2.1 q
          · exact hdj p.1 (List.mem_map_of_mem (f := (·.1)) hp) q
        · exact nL (q ▸ List.mem_map_of_mem (f := (·.1)) hp)
        · cases q : g.get? p.1 with
          | none => rfl
          | some o => have := (N3 p hp).2.2; rw [st _ _ q] at this; cases this
      exact hq e oe _ _ h5 t3 back kp hk3 hoe (hoec.trans hcls)
end
end Mine
end
section
open PySem PySem.W PySem.Calls PyProof.Rows
namespace Mine

noncomputable def nx0 : Stmt := match nxB.1 with
  | a :: _ => a
  | _ => .Pass ⟨0, 0, 0, 0⟩
noncomputable def nxT : Expr := match nxB.1 with
  | _ :: .If t _ _ _ :: _ => t
  | _ => .Constant .none 0 ⟨0, 0, 0, 0⟩
noncomputable def nxP : Pos × Pos × Pos := match nxB.1 with
  | _ :: .If _ [.Raise (some (.Name _ np)) none rp] _ p :: _ => (np, rp, p)
  | _ => (⟨0, 0, 0, 0⟩, ⟨0, 0, 0, 0⟩, ⟨0, 0, 0, 0⟩)
noncomputable def nxR : List Stmt := match nxB.1 with
  | _ :: _ :: r => r
  | _ => []
theorem nxB_eq : nxB.1 = nx0 :: .If nxT [.Raise (some (.Name "StopIteration" nxP.1)) none nxP.2.1] [] nxP.2.2 :: nxR := by kernel_rfl
noncomputable def XN (b : Str) (st : AV) (p : Int) (r st' : AV) (p' : Int) : Cx := { X0 with sc := nxB.2, c := cG b 707 st p r st' p' }
theorem nx_vct (b t : Str) (st : AV) (p : Int) (st' : AV) (p' ln : Int) (K : AV → Fs → Fs → Prop) : (ev (XN b st p (.txt t) st' p') 40).ss nxB.1 ⟨[("self", .lex)], lexF st (.txt (ofL [])) ln, s1Of b p⟩ (backA K) =
    ([AV.lex] = [.lex] ∧ s1Of b p = s1Of b p ∧ ∃ ln0, lexF st (.txt (ofL [])) ln = lexF st (.txt (ofL [])) ln0 ∧ ∀ ln', K (.txt t) (lexF st' (.txt (ofL [])) ln') (s1Of b p')) := by kernel_rfl
theorem nx_vc0 (b : Str) (st : AV) (p : Int) (st' : AV) (p' ln : Int) (K : AFl → LS → Prop) : (ev (XN b st p .none st' p') 40).s nx0 ⟨[("self", .lex)], lexF st (.txt (ofL [])) ln, s1Of b p⟩ K =
    ([AV.lex] = [.lex] ∧ s1Of b p = s1Of b p ∧ ∃ ln0, lexF st (.txt (ofL [])) ln = lexF st (.txt (ofL [])) ln0 ∧ ∀ ln', K .next ⟨[("self", .lex), ("token", .none)], lexF st' (.txt (ofL [])) ln', s1Of b p'⟩) := by kernel_rfl
theorem nx_vc1 (b : Str) (st : AV) (p : Int) (st' : AV) (p' ln : Int) (K : Bool → LS → Prop) : (ev (XN b st p .none st' p') 40).t nxT ⟨[("self", .lex), ("token", .none)], lexF st' (.txt (ofL [])) ln, s1Of b p'⟩ K =
    K true ⟨[("self", .lex), ("token", .none)], lexF st' (.txt (ofL [])) ln, s1Of b p'⟩ := by kernel_rfl

section
variable {KK : World → Frag} [KF KK] {w : World} {P : Ad}
theorem nx_tok {gb : Heap} {b : Str} {st st' : AV} {t : Str} {p p' ln : Int} {A : Around} {g : Heap} {L : Addr} {m : Str → Option Value} {s : Shared} {R : Result → Shared → Prop} (hQ : ∀ g, Gd (KK w) P g → TQ prg w P g) (ho : ROut b st p (.txt t) st' p') (hal : ∀ c ∈ b.cps.toList, inAl c = true) (hz : b.length + 1 ≤ sizeLine)
    (hA : okA 10 A) (G : Gd (KK w) P gb) (kb : ∀ b o, gb.get? b = some o → s.heap.get? b = some o) (nb : ∀ a ∈ [P.lex, P.ld, P.sio, P.sd], gb.get? a = none) (FO' : FO P g L m (lexF st (.txt (ofL [])) ln) (s1Of b p) s.heap)
    (hq : ∀ v ln' h' t', FO P g L m (lexF st' (.txt (ofL [])) ln') (s1Of b p') h' → Kp P s.heap h' → (AV.txt t).Is P v → R (.ok (.ret v)) { s with heap := h', toks := t' }) :
    codeAny (model prg w) A (.call (.ref 743) ⟨[.ref P.lex], []⟩) R s := by
  refine fn_snd0 (n := 8) (X := XN b st p (.txt t) st' p') (args := [.lex]) (kk := fun a f0' f1' => a = .txt t ∧ ∃ ln', f0' = lexF st' (.txt (ofL [])) ln' ∧ f1' = s1Of b p') (KF.f743 w) (KL.kx (X := XN b st p (.txt t) st' p') (kl_of (kl_ok w))) (cGT_snd hQ ho hal hz) (fun _ _ _ _ _ _ _ _ _ _ _ h => h.elim) G kb nb (hQ gb G) FO' hA ⟨rfl, trivial⟩ rfl 40 ?_ ?_
  · show (ev (XN b st p (.txt t) st' p') 40).ss nxB.1 ⟨[("self", .lex)], lexF st (.txt (ofL [])) ln, s1Of b p⟩ _
    rw [nx_vct]
    exact ⟨rfl, rfl, ln, rfl, fun ln' => ⟨rfl, ln', rfl, rfl⟩⟩
  · rintro v a f0' f1' h' t' FO'' kp hi ⟨rfl, ln', rfl, rfl⟩
    exact hq v ln' h' t' FO'' kp hi


theorem nx_stop {gb : Heap} {b : Str} {st st' : AV} {p p' ln : Int} {A : Around} {g : Heap} {L : Addr} {m : Str → Option Value} {s : Shared} {outer : List Env} {R : Result → Shared → Prop} (hQ : ∀ g, Gd (KK w) P g → TQ prg w P g) (ho : ROut b st p .none st' p') (hal : ∀ c ∈ b.cps.toList, inAl c = true) (hz : b.length + 1 ≤ sizeLine)
    (hA : okA 10 A) (G : Gd (KK w) P gb) (kb : ∀ b o, gb.get? b = some o → s.heap.get? b = some o) (nb : ∀ a ∈ [P.lex, P.ld, P.sio, P.sd], gb.get? a = none) (FO' : FO P g L m (lexF st (.txt (ofL [])) ln) (s1Of b p) s.heap) (hfr : A.frames = some outer) (hff : s.heap.FunFrames g outer) (hdj : ∀ a ∈ [P.lex, P.ld, P.sio, P.sd], a ∉ outer.filterMap (·.frame))
    (hq : ∀ e ob ln' h' t', FO P g L m (lexF st' (.txt (ofL [])) ln') (s1Of b p') h' → KpF P (outer.filterMap (·.frame)) s.heap h' → h'.get? e = some ob → ob.cls = .type "StopIteration" → R (.error (.ref e)) { s with heap := h', toks := t' }) :
    codeAny (model prg w) A (.call (.ref 743) ⟨[.ref P.lex], []⟩) R s := by
  refine enterX (n := 8) (args := [.lex]) (cls := "StopIteration") (kk := fun f0' f1' => ∃ ln', f0' = lexF st' (.txt (ofL [])) ln' ∧ f1' = s1Of b p') (KF.f743 w) G kb nb FO' hA ⟨rfl, trivial⟩ rfl hfr hff hdj ?_ ?_
  · intro g' L' env s1 G' hE hA' R1 Q' E' hx
    have ES := ev_snd (X := XN b st p .none st' p') (env := env) (L := L') (KL.kx (X := XN b st p .none st' p') (kl_of (kl_ok w))) G' hE (hQ _ G') (cGT_snd hQ ho hal hz) (fun _ _ _ _ _ h => h.elim) 40
    rw [nxB_eq]
    have vc0 := (nx_vc0 b st p st' p' ln (fun (f : AFl) (σ : LS) => f = .next ∧ ∃ ln', σ = ⟨[("self", .lex), ("token", .none)], lexF st' (.txt (ofL [])) ln', s1Of b p'⟩)).mpr ⟨rfl, rfl, ln, rfl, fun ln' => ⟨rfl, ln', rfl⟩⟩
    refine wpAny_execs_cons (ES.2.2 nx0 _ _ vc0 _ _ _ _ hA' R1 ?_)
    rintro fl fa σ1 h2 t2 R2 hf ⟨rfl, ln', rfl⟩
    obtain rfl : fl = .next := hf
    have vc1 := (nx_vc1 b st p st' p' ln' (fun (c : Bool) (σ : LS) => c = true ∧ σ = ⟨[("self", .lex), ("token", .none)], lexF st' (.txt (ofL [])) ln', s1Of b p'⟩)).mpr ⟨rfl, rfl⟩
    refine wpAny_execs_cons (wpAny_If (ES.2.1 nxT _ _ vc1 _ _ _ _ hA' R2 ?_))
    rintro c σ2 h3 t3 R3 ⟨rfl, rfl⟩
    simp only [if_true]
    refine wpAny_execs_cons (owsi_raiseC hA'.1 ?_ ?_)
    · obtain ⟨m3, ⟨F3, _⟩, _⟩ := R3
      have sg := KF.stop (KK := KK) w
      simp only [Prod.mk.injEq] at sg
      obtain ⟨mg, hg⟩ := G'.mg
      obtain ⟨mb, hb⟩ := G'.mb
      refine Name_function_global hE.kind (by unfold Env.kindOf; rw [hE.sc]; exact sg.2.2) ?_ (by decide)
      exact loadGlobal_builtin (by rw [hE.glo]; exact hg.keeps F3.keep) (ns_of G'.kin hg sg.1) (by rw [hE.blt]; exact hb.keeps F3.keep) (ns_of G'.kin hb sg.2.1) ⟨rfl, rfl⟩
    · intro h4 e hm
      exact hx _ h3 t3 h4 e R3 ⟨ln', rfl, rfl⟩ hm.newExc
  · rintro e ob f0' f1' h' t' FO'' kp ⟨ln', rfl, rfl⟩ he hc
    exact hq e ob ln' h' t' FO'' kp he hc
end
end Mine
end
section
open PySem PySem.W PySem.Calls PyProof.Rows
namespace Mine

noncomputable def SV : List Value → List Str → Prop
  | [], [] => True
  | v :: r, x :: t => (∃ k, v = .str x k) ∧ SV r t
  | _, _ => False
theorem SV.app : ∀ {a : List Value} {x : List Str} {b : List Value} {y : List Str}, SV a x → SV b y → SV (a ++ b) (x ++ y)
  | [], [], _, _, _, h => h
  | _ :: _, _ :: _, _, _, h1, h2 => ⟨h1.1, SV.app h1.2 h2⟩
  | [], _ :: _, _, _, h, _ => h.elim
  | _ :: _, [], _, _, h, _ => h.elim
theorem SV.len : ∀ {a : List Value} {x : List Str}, SV a x → a.length = x.length
  | [], [], _ => rfl
  | _ :: _, _ :: _, h => by simp [SV.len h.2]
  | [], _ :: _, h => h.elim
  | _ :: _, [], h => h.elim

theorem FO.other {P : Ad} {g : Heap} {L S : Addr} {m : Str → Option Value} {f0 f1 : Fs} {h h' : Heap} (R : FO P g L m f0 f1 h) (hL : S ≠ L) (hS : S ∉ [P.lex, P.ld, P.sio, P.sd]) (hg : g.get? S = none) (hk : ∀ b o, b ≠ S → h.get? b = some o → h'.get? b = some o) : FO P g L m f0 f1 h' := by
  obtain ⟨F, e0, n0, e1, n1, N, i0, i1⟩ := R
  obtain ⟨oL, es, ep, hLL, r⟩ := F.ns
  refine ⟨⟨⟨oL, es, ep, hk L oL (Ne.symm hL) hLL, r⟩, fun b o e => hk b o (fun q => by rw [q, hg] at e; cases e) (F.keep b o e), F.above⟩, e0, n0, e1, n1, fun p hp => ⟨hk p.1 p.2 (fun q => hS (q ▸ List.mem_map_of_mem (f := (·.1)) hp)) (N p hp).1, (N p hp).2⟩, i0, i1⟩

noncomputable def KpS (P : Ad) (frs : List Addr) (S : Addr) (h h' : Heap) : Prop := ∀ b o, h.get? b = some o → b ∉ [P.lex, P.ld, P.sio, P.sd] → b ≠ S →
  (b ∉ frs → h'.get? b = some o) ∧ ((∀ vs, o.data ≠ .fields vs) → ∃ sl, h'.get? b = some { o with slots := sl })

section
variable {KK : World → Frag} [KF KK] {w : World} {P : Ad} {g gb : Heap} {L S : Addr} {m : Str → Option Value} {outer : List Env}

theorem stop_sub : isSubtype (.type "StopIteration") (.type "StopIteration") = pure true := owsi_facts.sub

theorem ext_end {b : Str} {st : AV} {p p' ln : Int} {st' : AV} {A : Around} {s : Shared} {R : Result → Shared → Prop} {items : Array Value} {c : Nat} (hQ : ∀ g, Gd (KK w) P g → TQ prg w P g) (ho : ROut b st p .none st' p') (hal : ∀ c ∈ b.cps.toList, inAl c = true) (hz : b.length + 1 ≤ sizeLine)
    (hA : okA 11 A) (kin : (KK w).In g) (G : Gd (KK w) P gb) (kb : ∀ b o, gb.get? b = some o → s.heap.get? b = some o) (nb : ∀ a ∈ [P.lex, P.ld, P.sio, P.sd], gb.get? a = none) (FO' : FO P g L m (lexF st (.txt (ofL [])) ln) (s1Of b p) s.heap) (hfr : A.frames = some outer) (hff : s.heap.FunFrames g outer) (hdj : ∀ a ∈ [P.lex, P.ld, P.sio, P.sd], a ∉ outer.filterMap (·.frame))
    (hS : s.heap.get? S = some (lstO items c)) (hSl : S ∉ [P.lex, P.ld, P.sio, P.sd]) (hSf : S ∉ outer.filterMap (·.frame))
    (hq : ∀ h' t', Fr g L h' m → KpS P (outer.filterMap (·.frame)) S s.heap h' → h'.get? S = some (lstO items c) → R (.ok (.ret .none)) { s with heap := h', toks := t' }) :
    codeAny (model prg w) A (.builtin "list.extend.loop" ⟨[.ref S, .ref P.lex, .none], []⟩) R s := by
  refine codeAny_builtin F.entry_extend_loop ?_
  rw [Around.under_plainId F.plain_extend_loop _]
  show wpAny _ A.in1 (pyNext (.ref P.lex) >>= _) _ _ s
  obtain ⟨e0, n0, I, _⟩ := FO'.inst0
  have nf := KF.next (KK := KK) w
  simp only [Prod.mk.injEq] at nf
  refine wpAny_bind (owit_next FO'.1 kin I nf.1 nf.2.1 (wpAny_call (nx_stop hQ ho hal hz hA.in1 G kb nb FO' hfr hff hdj ?_)))
  intro e ob ln' h' t' FO'' kp he hc
  unfold OwitStop
  refine wpAny_isInstance (show ∃ o, h'.get? e = some o ∧ o.cls = .type "StopIteration" from ⟨ob, he, hc⟩) stop_sub ?_
  rw [if_pos rfl]
  refine wpAny_pure (hq h' t' FO''.1 (fun b o e hb hbS => ⟨fun hf => kp.1 b o e hb hf, fun hn => kp.2 b o e hb hn⟩) (kp.1 S _ hS hSl hSf))

theorem ext_loop {b : Str} (hQ : ∀ g, Gd (KK w) P g → TQ prg w P g) (hal : ∀ c ∈ b.cps.toList, inAl c = true) (hz : b.length + 1 ≤ sizeLine) (kin : (KK w).In g) (G : Gd (KK w) P gb) (nb : ∀ a ∈ [P.lex, P.ld, P.sio, P.sd], gb.get? a = none) (hdj : ∀ a ∈ [P.lex, P.ld, P.sio, P.sd], a ∉ outer.filterMap (·.frame))
    (hSl : S ∉ [P.lex, P.ld, P.sio, P.sd]) (hSf : S ∉ outer.filterMap (·.frame)) (hSL : S ≠ L) (hSg : g.get? S = none) (hSb : gb.get? S = none) : ∀ (n : Nat) (pre r : List Nat) (ws : List (List Nat)), b = ofL (pre ++ r) → splitN n r = some ws → ∀ (A : Around) (s : Shared) (R : Result → Shared → Prop) (items : Array Value) (c : Nat) (done : List Str) (ln : Int),
    okA 11 A → (∀ b o, gb.get? b = some o → s.heap.get? b = some o) → A.frames = some outer → s.heap.FunFrames g outer → FO P g L m (lexF (.str (sg 32)) (.txt (ofL [])) ln) (s1Of b pre.length) s.heap → s.heap.get? S = some (lstO items c) → SV items.toList done → items.size ≤ pre.length →
    (∀ h' t' items' c', Fr g L h' m → KpS P (outer.filterMap (·.frame)) S s.heap h' → h'.get? S = some (lstO items' c') → SV items'.toList (done ++ ws.map ofL) → R (.ok (.ret .none)) { s with heap := h', toks := t' }) →
    codeAny (model prg w) A (.builtin "list.extend.loop" ⟨[.ref S, .ref P.lex, .none], []⟩) R s := by
  intro n
  induction n with
  | zero => intro pre r ws _ h; cases h
  | succ n ih =>
    intro pre r ws hb hs A s R items c done ln hA kb hfr hff FO' hS hv hsz hq
    have nf := KF.next (KK := KK) w
    simp only [Prod.mk.injEq] at nf
    have hlen : b.length = pre.length + r.length := by rw [hb, ofL_len]; simp
    unfold splitN at hs
    -- one token comes, and is laid behind the others
    have tok : ∀ (t : List Nat) (st' : AV) (p' : Int), ROut b (.str (sg 32)) pre.length (.txt (ofL t)) st' p' → 0 < r.length →
        (∀ s2 v ln' c', s2.gens = s.gens → s2.drawn = s.drawn → s2.os = s.os → FO P g L m (lexF st' (.txt (ofL [])) ln') (s1Of b p') s2.heap → s2.heap.get? S = some (lstO (items.push v) c') → (∃ k, v = .str (ofL t) k) → s2.heap.FunFrames g outer → (∀ b o, gb.get? b = some o → s2.heap.get? b = some o) →
          (∀ b o, s.heap.get? b = some o → b ∉ [P.lex, P.ld, P.sio, P.sd] → b ≠ S → s2.heap.get? b = some o) → codeAny (model prg w) A (.builtin "list.extend.loop" ⟨[.ref S, .ref P.lex, .none], []⟩) R s2) →
        codeAny (model prg w) A (.builtin "list.extend.loop" ⟨[.ref S, .ref P.lex, .none], []⟩) R s := by
      intro t st' p' ho hpos hgo
      refine codeAny_builtin F.entry_extend_loop ?_
      rw [Around.under_plainId F.plain_extend_loop _]
      show wpAny _ A.in1 (pyNext (.ref P.lex) >>= _) _ _ s
      obtain ⟨e0, n0, I, _⟩ := FO'.inst0
      refine wpAny_bind (owit_next FO'.1 kin I nf.1 nf.2.1 (wpAny_call (nx_tok hQ ho hal hz hA.in1 G kb nb FO' ?_)))
      intro v ln' h' t' FO'' kp hi
      have hS' : h'.get? S = some (lstO items c) := kp S _ hS hSl
      have hsz1 : items.size + 1 ≤ sizeLine := by omega
      show wpAny _ A.in1 (updateSeq S (·.push v) >>= _) _ _ _
      refine wpAny_bind (wpAny_updateSeq hS' rfl (wpAny_pure ⟨plainId_quiet F.plain_extend_loop _, ?_⟩) (by omega) (by show (items.push v).size ≤ sizeLine + 1; rw [Array.size_push]; omega))
      have oth : ∀ b o, b ≠ S → h'.get? b = some o → (h'.update S (Obj.mapSeq (·.push v))).get? b = some o := fun b o hb e => (Heap.get?_update_other _ _ (Ne.symm hb)).trans e
      refine hgo _ v ln' _ rfl rfl rfl (FO''.other hSL hSl hSg oth) (Heap.get?_update_self _ hS' rfl) hi.2 ?_ ?_ ?_
      · refine fun_frames_up hff fun a ha o e => ⟨o.slots, oth a o (fun q => hSf (q ▸ ha)) (kp a o e fun q => hdj a q ha)⟩
      · exact fun b o e => oth b o (fun q => by rw [q, hSb] at e; cases e) (kp b o (kb b o e) fun q => by rw [nb b q] at e; cases e)
      · exact fun b o e hb hbS => oth b o hbS (kp b o e hb)
    cases hrt : rt .sp false [] r with
    | none => rw [hrt] at hs; cases hs
    | some out =>
      rw [hrt] at hs
      cases out with
      | eof =>
        cases hs
        refine ext_end (st' := .none) (p' := b.length) hQ (.eof hb hrt) hal hz hA kin G kb nb FO' hfr hff hdj hS hSl hSf fun h' t' F' kp hS' => ?_
        exact hq h' t' items c F' kp hS' (by simpa using hv)
      | last t =>
        cases hs
        have hpos : 0 < r.length := by
          cases r with
          | nil => simp [rt] at hrt
          | cons _ _ => simp
        refine tok t .none b.length (.last hb hrt) hpos ?_
        rintro s2 v ln' c' g1 d1 o1 FO2 hS2 ⟨k, rfl⟩ ff2 kb2 kp2
        refine ext_end (st' := .none) (p' := b.length) hQ .done hal hz hA kin G kb2 nb FO2 hfr ff2 hdj hS2 hSl hSf fun h' t' F' kp hS' => ?_
        have e2 : ({ s2 with heap := h', toks := t' } : Shared) = { s with heap := h', toks := t' } := by rw [g1, d1, o1]
        rw [e2]
        refine hq h' t' _ _ F' (fun b o e hb hbS => kp b o (kp2 b o e hb hbS) hb hbS) hS' ?_
        rw [Array.toList_push]
        exact hv.app ⟨⟨k, rfl⟩, trivial⟩
      | word t r' =>
        have hs' : (splitN n r').map (t :: ·) = some ws := hs
        cases hr' : splitN n r' with
        | none => rw [hr'] at hs'; cases hs'
        | some ws' =>
          rw [hr'] at hs'
          cases hs'
          obtain ⟨u, hu, hune⟩ := rt_suffix r _ _ _ hrt
          have hul : 0 < u.length := by cases u with | nil => exact absurd rfl hune | cons _ _ => simp
          have hrl : r.length = u.length + r'.length := by rw [hu]; simp
          refine tok t (.str (sg 32)) (b.length - r'.length) (.word hb hrt) (by omega) ?_
          rintro s2 v ln' c' g1 d1 o1 FO2 hS2 ⟨k, rfl⟩ ff2 kb2 kp2
          have hp : ((b.length : Int) - r'.length) = ((pre ++ u).length : Nat) := by simp; omega
          rw [hp] at FO2
          refine ih (pre ++ u) r' ws' (by rw [hb, hu]; simp) hr' A s2 R _ _ (done ++ [ofL t]) ln' hA kb2 hfr ff2 FO2 hS2 (by rw [Array.toList_push]; exact hv.app ⟨⟨k, rfl⟩, trivial⟩) (by rw [Array.size_push]; simp; omega) ?_
          intro h' t' items' c'' F' kp hS' hv'
          have e2 : ({ s2 with heap := h', toks := t' } : Shared) = { s with heap := h', toks := t' } := by rw [g1, d1, o1]
          rw [e2]
          exact hq h' t' items' c'' F' (fun b o e hb hbS => kp b o (kp2 b o e hb hbS) hb hbS) hS' (by simpa using hv')
end
end Mine
end
section
open PySem PySem.W PySem.Calls PyProof.Rows
namespace Mine

noncomputable def XI : Cx := { X0 with sc := itB.2 }
theorem it_vc (f0 f1 : Fs) (K : AV → Fs → Fs → Prop) : (ev XI 40).ss itB.1 ⟨[("self", .lex)], f0, f1⟩ (backA K) = K .lex f0 f1 := by kernel_rfl

section
variable {KK : World → Frag} [KF KK] {w : World} {P : Ad} {g gb : Heap} {L S : Addr} {m : Str → Option Value} {outer : List Env}

theorem it_self {f0 f1 : Fs} {A : Around} {s : Shared} {R : Result → Shared → Prop} (hQ : ∀ g, Gd (KK w) P g → TQ prg w P g)
    (hA : okA 10 A) (G : Gd (KK w) P gb) (kb : ∀ b o, gb.get? b = some o → s.heap.get? b = some o) (nb : ∀ a ∈ [P.lex, P.ld, P.sio, P.sd], gb.get? a = none) (FO' : FO P g L m f0 f1 s.heap)
    (hq : ∀ h' t', FO P g L m f0 f1 h' → Kp P s.heap h' → R (.ok (.ret (.ref P.lex))) { s with heap := h', toks := t' }) :
    codeAny (model prg w) A (.call (.ref 736) ⟨[.ref P.lex], []⟩) R s := by
  refine fn_snd0 (n := 8) (X := XI) (args := [.lex]) (kk := fun a f0' f1' => a = .lex ∧ f0' = f0 ∧ f1' = f1) (KF.f736 w) (KL.kx (X := XI) (kl_of (kl_ok w))) (fun _ _ _ _ _ h => h.elim) (fun _ _ _ _ _ _ _ _ _ _ _ h => h.elim) G kb nb (hQ gb G) FO' hA ⟨rfl, trivial⟩ rfl 40 ?_ ?_
  · show (ev XI 40).ss itB.1 ⟨[("self", .lex)], f0, f1⟩ _
    rw [it_vc]
    exact ⟨rfl, rfl, rfl⟩
  · rintro v a f0' f1' h' t' FO'' kp hi ⟨rfl, rfl, rfl⟩
    obtain rfl : v = .ref P.lex := hi
    exact hq h' t' FO'' kp

theorem list_lex {b : Str} {n : Nat} {r : List Nat} {ws : List (List Nat)} {A : Around} {s : Shared} {Q : Value → Shared → Prop} {E : Value → Shared → Prop} {ln : Int} (hQ : ∀ g, Gd (KK w) P g → TQ prg w P g) (hal : ∀ c ∈ b.cps.toList, inAl c = true) (hz : b.length + 1 ≤ sizeLine) (kin : (KK w).In g) (G : Gd (KK w) P gb) (kb : ∀ b o, gb.get? b = some o → s.heap.get? b = some o) (nb : ∀ a ∈ [P.lex, P.ld, P.sio, P.sd], gb.get? a = none) (hdj : ∀ a ∈ [P.lex, P.ld, P.sio, P.sd], a ∉ outer.filterMap (·.frame))
    (hb : b = ofL r) (hs : splitN n r = some ws) (hA : okA 14 A) (hfr : A.frames = some outer) (hff : s.heap.FunFrames g outer) (FO' : FO P g L m (lexF (.str (sg 32)) (.txt (ofL [])) ln) (s1Of b 0) s.heap)
    (hq : ∀ h' t' items c S, s.heap.get? S = none → Fr g L h' m → KpS P (outer.filterMap (·.frame)) S s.heap h' → h'.get? S = some (lstO items c) → SV items.toList (ws.map ofL) → Q (.ref S) { s with heap := h', toks := t' }) :
    wpAny (model prg w) A (call (.type "list") [.ref P.lex]) Q E s := by
  have hno : s.heap.get? s.heap.objs.size = none := Heap.get?_none_of_le (Nat.le_refl _)
  have hSl : s.heap.objs.size ∉ [P.lex, P.ld, P.sio, P.sd] := fun q => by
    obtain ⟨_, e0, n0, e1, n1, N, _⟩ := FO'
    rw [← led_addr e0 n0 e1 n1] at q
    obtain ⟨p, hp, hpe⟩ := List.mem_map.mp q
    have := (N p hp).1
    rw [hpe, hno] at this; cases this
  have hSf : s.heap.objs.size ∉ outer.filterMap (·.frame) := fun q => by
    obtain ⟨o, e, _⟩ := fun_frames_at hff _ q
    rw [hno] at e; cases e
  have hSL : s.heap.objs.size ≠ L := fun q => by
    obtain ⟨oL, es, ep, hLL, _⟩ := FO'.1.ns
    rw [← q, hno] at hLL; cases hLL
  have hSg : g.get? s.heap.objs.size = none := by
    cases e : g.get? s.heap.objs.size with
    | none => rfl
    | some o => have := FO'.1.keep _ _ e; rw [hno] at this; cases this
  have hSb : gb.get? s.heap.objs.size = none := by
    cases e : gb.get? s.heap.objs.size with
    | none => rfl
    | some o => have := kb _ _ e; rw [hno] at this; cases this
  have nf := KF.next (KK := KK) w
  simp only [Prod.mk.injEq] at nf
  refine callType_codes (Q₁ := fun obj s₁ => obj = .ref s.heap.objs.size ∧ s₁ = { s with heap := s.heap.push { cls := .type "list", data := .seq #[] } }) F.called_list (F.typeCall_list_1 _) F.entry_list_init
    (code_list_new _ ⟨rfl, rfl⟩) fun obj s₁ h₁ => ?_
  obtain ⟨rfl, rfl⟩ := h₁
  have hS : (s.heap.push { cls := .type "list", data := .seq #[] }).get? s.heap.objs.size = some { cls := .type "list", data := .seq #[] } := Heap.get?_push_size _ rfl
  refine ⟨⟨_, hS, rfl⟩, F.args_list_init_2 _ _, ?_⟩
  generalize hSS : s.heap.objs.size = S at *
  have st1 : ∀ b o, s.heap.get? b = some o → (s.heap.push { cls := .type "list", data := .seq #[] }).get? b = some o := fun b o e => Heap.get?_push_of_some _ e
  generalize s.heap.push { cls := .type "list", data := .seq #[] } = h1 at *
  show wpAny _ A.in1.in1 (do let old ← Builtin.List.listItems (.ref S); Builtin.List.listUpdate (.ref S) (fun _ => #[]); letGo old.toList.reverse; Builtin.List.listExtendWith (.ref S) (.ref P.lex) .none) _ _ _
  refine wpAny_bind ?_
  unfold Builtin.List.listItems
  refine wpAny_bind (wpAny_seqItems hS rfl (wpAny_pure ?_))
  show wpAny _ A.in1.in1 (updateSeq S (fun _ => #[]) >>= fun _ => letGo (#[] : Array Value).toList.reverse >>= fun _ => Builtin.List.listExtendWith (.ref S) (.ref P.lex) .none) _ _ _
  refine wpAny_bind (wpAny_updateSeq hS rfl ?_)
  have hS2 := Heap.get?_update_self (Obj.mapSeq (fun _ => (#[] : Array Value))) hS rfl
  have oth : ∀ b o, b ≠ S → h1.get? b = some o → (h1.update S (Obj.mapSeq (fun _ => (#[] : Array Value)))).get? b = some o :=
    fun b o hb e => (Heap.get?_update_other _ _ (Ne.symm hb)).trans e
  refine wpAny_bind (wpAny_letGo ?_)
  have st2 : ∀ b o, b ≠ S → s.heap.get? b = some o → (h1.update S (Obj.mapSeq (fun _ => (#[] : Array Value)))).get? b = some o := fun b o hb e => oth b o hb (st1 b o e)
  generalize h1.update S (Obj.mapSeq (fun _ => (#[] : Array Value))) = h2 at *
  have FO2 : FO P g L m (lexF (.str (sg 32)) (.txt (ofL [])) ln) (s1Of b 0) h2 := FO'.other hSL hSl hSg st2
  have kb2 : ∀ b o, gb.get? b = some o → h2.get? b = some o := fun b o e => st2 b o (fun q => by rw [q, hSb] at e; cases e) (kb b o e)
  unfold Builtin.List.listExtendWith
  obtain ⟨e0, n0, I, _⟩ := FO2.inst0
  refine wpAny_bind (I.type.here ?_)
  have q1 : Builtin.List.listSameRef (.ref S) (.ref P.lex) = false := by
    have : S ≠ P.lex := fun q => hSl (by simp [q])
    simp [Builtin.List.listSameRef, this]
  have q2 : (Value.ref 746 == Value.type "list") = false := by decide
  have q3 : (Value.ref 746 == Value.type "tuple") = false := by decide
  simp only [q1, q2, q3, Bool.or_false, Bool.false_eq_true, if_false]
  refine wpAny_bind (owit_iter FO2.1 kin I nf.2.2.1 nf.2.2.2.1 (wpAny_call (it_self hQ (okA.le (okA.in1 (n := 12) (okA.in1 (n := 13) hA)) (by omega)) G kb2 nb FO2 ?_)))
  intro h3 t3 FO3 kp3
  obtain ⟨e3, n3, I3, _⟩ := FO3.inst0
  refine owit_it FO3.1 kin I3 nf.1 ?_
  refine wpAny_bind (wpAny_holding ?_)
  unfold Builtin.List.listLengthHint
  refine wpAny_bind ?_
  unfold specialOf
  refine wpAny_bind (I3.type.here ((looks_findIn (kin.keeps FO3.1.keep) nf.2.2.2.2.1).here ?_))
  show wpAny _ _ (specialOf (Value.ref P.lex) (Str.ofString "__length_hint__") >>= _) _ _ _
  refine wpAny_bind ?_
  unfold specialOf
  refine wpAny_bind (I3.type.here ((looks_findIn (kin.keeps FO3.1.keep) nf.2.2.2.2.2).here ?_))
  refine wpAny_pure ?_
  show wpAny _ _ (rule "list.extend.makes-room" >>= fun _ => Builtin.List.listTouch (.ref S) >>= fun _ =>
    again (.builtin "list.extend.loop" ⟨[.ref S, .ref P.lex, .none], []⟩)) _ _ _
  refine wpAny_bind (wpAny_rule ?_)
  refine wpAny_bind ?_
  show wpAny _ _ (updateSeq S (·.push .none) >>= fun _ => updateSeq S (·.pop)) _ _ _
  have hS3 := kp3 S _ hS2 hSl
  refine wpAny_bind (wpAny_updateSeq hS3 rfl ?_)
  have hS4 := Heap.get?_update_self (Obj.mapSeq (·.push Value.none)) hS3 rfl
  refine wpAny_updateSeq (hz := by seq_fits) hS4 rfl ?_
  have hS5 := Heap.get?_update_self (Obj.mapSeq (·.pop)) hS4 rfl
  have oth5 : ∀ b o, b ≠ S → h3.get? b = some o → ((h3.update S (Obj.mapSeq (·.push Value.none))).update S (Obj.mapSeq (·.pop))).get? b = some o :=
    fun b o hb e => (Heap.get?_update_other _ _ (Ne.symm hb)).trans ((Heap.get?_update_other _ _ (Ne.symm hb)).trans e)
  have st5 : ∀ b o, b ≠ S → b ∉ [P.lex, P.ld, P.sio, P.sd] → s.heap.get? b = some o → ((h3.update S (Obj.mapSeq (·.push Value.none))).update S (Obj.mapSeq (·.pop))).get? b = some o :=
    fun b o hb hl e => oth5 b o hb (kp3 b o (st2 b o hb e) hl)
  have FO5 := FO3.other hSL hSl hSg oth5
  refine wpAny_pure ⟨plainId_quiet F.plain_extend_loop _, ?_⟩
  refine ext_loop hQ hal hz kin G nb hdj hSl hSf hSL hSg hSb n [] r ws hb hs _ _ _ _ _ [] ln (okA.le (okA.in1 (n := 13) hA) (by omega)) (fun b o e => st5 b o (fun q => by rw [q, hSb] at e; cases e) (fun q => by rw [nb b q] at e; cases e) (kb b o e)) hfr ?_ FO5 hS5 trivial (Nat.le_refl _) ?_
  · exact fun_frames_up hff fun a ha o e => ⟨o.slots, st5 a o (fun q => hSf (q ▸ ha)) (fun q => hdj a q ha) e⟩
  · intro h' t' items' c' F' kp hS' hv'
    exact ⟨rfl, hq h' t' items' c' S hno F' (fun b o e hb hbS => kp b o (st5 b o hbS hb e) hb hbS) hS' hv'⟩
end
end Mine
end
section
open PySem PySem.W PySem.Calls PyProof.Rows
namespace Mine
noncomputable def spB : List Stmt × List (Str × NameKind) := defOf "split" pwB
noncomputable def p0 : Stmt := nthS 0 spB.1
noncomputable def p1 : Stmt := nthS 1 spB.1
noncomputable def spM : List Stmt := (spB.1.drop 2).take 2
noncomputable def p4 : Stmt := nthS 4 spB.1
theorem sp_eq : spB.1 = p0 :: p1 :: (spM ++ [p4]) := by kernel_rfl
noncomputable def p0T (q : List Pos) (n : Nat) (b : List Stmt) : Stmt := .If (.Compare (.Name "s" (q.getD 0 noP)) [.Is] [.Constant .none n (q.getD 1 noP)] (q.getD 2 noP)) b [] (q.getD 3 noP)
noncomputable def p0S (st : Stmt) : Prop := ∃ q n b, st = p0T q n b
noncomputable def p0P : Stmt → List Pos × Nat × List Stmt
  | .If (.Compare (.Name _ q0) _ [.Constant _ n q1] q2) b _ q3 => ([q0, q1, q2, q3], n, b)
  | _ => ([], 0, [])
noncomputable def p1T (q : List Pos) : Stmt := .Assign [.Name "lex" (q.getD 0 noP)] (.Call (.Name "shlex" (q.getD 1 noP)) [.Name "s" (q.getD 2 noP)] [⟨some "posix", .Name "posix" (q.getD 3 noP), q.getD 4 noP⟩] (q.getD 5 noP)) (q.getD 6 noP)
noncomputable def p1S (st : Stmt) : Prop := ∃ q, st = p1T q
noncomputable def p1P : Stmt → List Pos
  | .Assign [.Name _ q0] (.Call (.Name _ q1) [.Name _ q2] [⟨_, .Name _ q3, q4⟩] q5) q6 => [q0, q1, q2, q3, q4, q5, q6]
  | _ => []
noncomputable def p4T (q : List Pos) : Stmt := .Return (some (.Call (.Name "list" (q.getD 0 noP)) [.Name "lex" (q.getD 1 noP)] [] (q.getD 2 noP))) (q.getD 3 noP)
noncomputable def p4S (st : Stmt) : Prop := ∃ q, st = p4T q
noncomputable def p4P : Stmt → List Pos
  | .Return (some (.Call (.Name _ q0) [.Name _ q1] _ q2)) q3 => [q0, q1, q2, q3]
  | _ => []
theorem p0_ok : p0S p0 := ⟨(p0P p0).1, (p0P p0).2.1, (p0P p0).2.2, by kernel_rfl⟩
theorem p1_ok : p1S p1 := ⟨p1P p1, by kernel_rfl⟩
theorem p4_ok : p4S p4 := ⟨p4P p4, by kernel_rfl⟩
theorem sp_sc : (spB.2.lookup (Str.ofString "s"), spB.2.lookup (Str.ofString "posix"), spB.2.lookup (Str.ofString "lex"), spB.2.lookup (Str.ofString "shlex"), spB.2.lookup (Str.ofString "list")) = (some NameKind.local, some NameKind.local, some NameKind.local, some NameKind.globalImplicit, some NameKind.globalImplicit) := by kernel_rfl
noncomputable def XSp : Cx := { X0 with sc := spB.2 }
noncomputable def loS : Fs := [("lex", .lex), ("comments", .bool false)]
noncomputable def fS (p q : AV) : Fs := [("instream", .sio), ("infile", .none), ("posix", .bool true), ("eof", .none), ("commenters", .str ""), ("wordchars", .txt (w1 ++ w2)), ("whitespace", .str " \t\r\n"), ("whitespace_split", .bool true), ("quotes", .str "'\""), ("escape", .str "\\"), ("escapedquotes", .str "\""), ("state", .str " "), ("pushback", p), ("lineno", .int 1), ("debug", .int 0), ("token", .str ""), ("filestack", q), ("source", .none), ("_punctuation_chars", .str "")]
theorem vcS (p q : AV) (f1 : Fs) (k : AFl → LS → Prop) : (ev XSp 40).ss spM ⟨loS, fZ p q, f1⟩ k = k .next ⟨loS, fS p q, f1⟩ := by kernel_rfl
theorem wc_eq : w1 ++ w2 = wc := by decide +kernel
theorem sp_eq' : (Str.ofString " ") = sg 32 := by decide +kernel
theorem tk_eq : (Str.ofString "") = ofL [] := by decide +kernel

theorem sim_Zr {P : Ad} : FsSim2 P { P with qs := false } (fZ .q1 .q2) (fZ (.val (.ref P.q1)) (.val (.ref P.q2))) :=
  ⟨rfl, fun _ h => h, rfl, fun _ h => h, rfl, fun _ h => h, rfl, fun _ h => h, rfl, fun _ h => h, rfl, fun _ h => h, rfl, fun _ h => h, rfl, fun _ h => h, rfl, fun _ h => h, rfl, fun _ h => h, rfl, fun _ h => h, rfl, fun _ h => h, rfl, fun _ h => h.2, rfl, fun _ h => h, rfl, fun _ h => h, rfl, fun _ h => h, rfl, fun _ h => h.2, rfl, fun _ h => h, rfl, fun _ h => h, trivial⟩
theorem sim_F {P : Ad} (hq : P.qs = true) : FsSim2 { P with qs := false } P (fS (.val (.ref P.q1)) (.val (.ref P.q2))) (lexF (.str (sg 32)) (.txt (ofL [])) 1) :=
  ⟨rfl, fun _ h => h, rfl, fun _ h => h, rfl, fun _ h => h, rfl, fun _ h => h, rfl, fun _ h => h, rfl, fun _ h => wc_eq ▸ h, rfl, fun _ h => h, rfl, fun _ h => h, rfl, fun _ h => h, rfl, fun _ h => h, rfl, fun _ h => h, rfl, fun _ h => sp_eq' ▸ h, rfl, fun _ h => ⟨hq, h⟩, rfl, fun _ h => h, rfl, fun _ h => h, rfl, fun _ h => tk_eq ▸ h, rfl, fun _ h => ⟨hq, h⟩, rfl, fun _ h => h, rfl, fun _ h => h, trivial⟩

section
variable {w : World} {A : Around} {s : Shared} {E : Value → Shared → Prop} {L : Addr} {m : Str → Option Value} {g : Heap} {env : Env} {KK : World → Frag} [KH KK] [KF KK] [KI KK]
theorem callWith_KBW {M : Model} {K : Frag} {pos : Pos} {f : Value} {first : List Value} {Q : Value → Shared → Prop} {e : Expr} {rest : List Expr} {kws : List Keyword} (hk : keepB K f = true) (hall : (backToKw pos (keywordEach kws env)).all (·.1.isSome) = true)
    (h : wpAny M A (spliced (backTo pos (starEach (e :: rest) env))) (fun vs s₁ => wpAny M A (evalAll ((backToKw pos (keywordEach kws env)).map (·.2)))
      (fun ks s₂ => K.In s₂.heap ∧ wpAny M A (call f (first ++ vs) (((backToKw pos (keywordEach kws env)).filterMap (·.1)).zip ks)) Q E s₂) E s₁) E s)
    (hplain : ((backTo pos (starEach (e :: rest) env)).any (·.1) || (backToKw pos (keywordEach kws env)).any (·.1.isNone)) = false := by rfl) (he : starEach (e :: rest) env = (false, eval e env) :: starEach rest env := by rfl) :
    wpAny M A (callWith pos f first (backTo pos (starEach (e :: rest) env)) (backToKw pos (keywordEach kws env))) Q E s :=
  callWith_of hplain (keeps_B hk) (evalArgs_kw2 hall h he)
theorem Call_kw {M : Model} {func : Expr} {args : List Expr} {kws : List Keyword} {pos : Pos} {Q : Value → Shared → Prop}
    (h : wpAny M A (eval func env) (fun f s₁ => wpAny M A (callWith pos f [] (backTo pos (starEach args env)) (backToKw pos (keywordEach kws env))) Q E s₁) E s)
    (he : eval (.Call func args kws pos) env = (do callWith pos (← eval func env) [] (backTo pos (starEach args env)) (backToKw pos (keywordEach kws env))) := by rfl) :
    wpAny M A (eval (.Call func args kws pos) env) Q E s := by
  rw [he]; exact wpAny_bind h
theorem p0_run {st : Stmt} {x : Str} {t : Tok} {Q : Flow → Shared → Prop} (h : p0S st) (hE : EnvOk env spB.2 L) (hn : s.heap.Ns L m) (hm : m (Str.ofString "s") = some (.str x t)) (hq : Q .next s) : wpAny (model prg w) A (exec st env) Q E s := by
  have c := sp_sc
  simp only [Prod.mk.injEq] at c
  obtain ⟨c1, c2, c3, c4, c5⟩ := c
  · obtain ⟨q, n, b, rfl⟩ := h
    unfold p0T
    refine wpAny_If (wpAny_isTrue_Compare1 (loc_ev hE c1 hn hm rfl ?_) rfl)
    have ec : ∀ u p (Q : Value → Shared → Prop), Q .none s → wpAny (model prg w) A (eval (.Constant .none u p) env) Q E s := fun _ _ _ h _ _ _ => h
    refine ec _ _ _ ?_
    refine wpAny_is_plain rfl (wpAny_truthy_bool ?_)
    exact wpAny_execs_nil hq
theorem p1_run {st : Stmt} {x : Str} {t : Tok} {Q : Flow → Shared → Prop} (h : p1S st) (hE : EnvOk env spB.2 L) (hA : okA 11 A) (S : StK (KK w) s.heap) (hn : s.heap.Ns L m) (hm : m (Str.ofString "s") = some (.str x t)) (hm' : m (Str.ofString "posix") = some (.bool true)) (hx : x.length ≤ sizeLine)
    (hq : ∀ (P : Ad) h1 h' t', Ready P s.heap h1 x (fZ .q1 .q2) → h'.Ns L (fun y => if y = Str.ofString "lex" then some (.ref P.lex) else m y) → (∀ b o, b ≠ L → h1.get? b = some o → h'.get? b = some o) → Q .next { s with heap := h', toks := t' }) : wpAny (model prg w) A (exec st env) Q E s := by
  have c := sp_sc
  simp only [Prod.mk.injEq] at c
  obtain ⟨c1, c2, c3, c4, c5⟩ := c
  have gg : ∀ x v, (x, v) ∈ gl3 → GlobOk (KK w) x v := fun x v e => globB_ok (List.all_eq_true.mp (KH.gl w) _ e)
  have g6 := gg _ (.ref 746) (List.mem_of_getElem? (i := 6) rfl)
  · obtain ⟨q, rfl⟩ := h
    unfold p1T
    refine wpAny_Assign_Name (Call_kw (glob_ev S hE c4 g6 rfl (callWith_KBW (g6.2 746 rfl) rfl (args_cons (loc_ev hE c1 hn hm rfl (args_nil (wpAny_evalAll_cons ?_))) rfl)))) (swaps_no rfl)
    refine wpAny_bind (m := eval (.Name (Str.ofString "posix") _) env) (loc_ev (x := Str.ofString "posix") hE c2 hn hm' rfl ?_)
    refine wpAny_bind (wpAny_standAt (wpAny_pure ?_))
    refine wpAny_evalAll_nil ?_
    refine ⟨S.kin, wpAny_call (ctor hA S hx ?_)⟩
    intro P h1 t1 Rd
    refine wpAny_storeName_local (m := m) (by unfold Env.kindOf; rw [hE.sc]; exact c3) (by rw [hE.loc]; exact hn.keeps Rd.le) (fun h2 hn2 hs => ?_) ?_
    · rw [hE.loc] at hn2 hs
      exact hq P h1 h2 _ Rd hn2 fun b o hb e => hs.extBut b o hb e
    · rw [hE.kind]; rfl

theorem ffs {g h : Heap} {L : Addr} {oL : Obj} {fx : List (Addr × Obj)} (hL : h.get? L = some oL) (hd : ∀ vs, oL.data ≠ .fields vs) (gL : g.get? L = none) (hf : ∀ p ∈ fx, h.get? p.1 = some p.2 ∧ g.get? p.1 = none ∧ ∀ vs, p.2.data ≠ .fields vs) :
    ∀ (outer : List Env), (∀ e ∈ outer, e.scope.kind ≠ .module ∧ ∃ a, e.frame = some a ∧ (a = L ∨ a ∈ fx.map (·.1))) → h.FunFrames g outer
  | [], _ => trivial
  | e :: r, k => by
    obtain ⟨h1, a, h2, h3⟩ := k e (.head _)
    refine ⟨h1, ?_, ffs hL hd gL hf r fun e' he => k e' (.tail _ he)⟩
    rcases h3 with rfl | h3
    · exact ⟨a, oL, h2, gL, hL, hd⟩
    · obtain ⟨p, hp, rfl⟩ := List.mem_map.mp h3
      exact ⟨p.1, p.2, h2, (hf p hp).2.1, (hf p hp).1, (hf p hp).2.2⟩
theorem sp_snd {P : AdX} (hqs : P.qs = false) (G : Gd (KK w) P g) (hE : EnvOk env spB.2 L) : SS prg w P g L env 2 (ev XSp 40).s :=
  (ev_snd (X := XSp) (KL.kx (X := XSp) (kl_of (kl_ok w))) G hE (fun e => by rw [show P.qs = false from hqs] at e; cases e) (fun _ _ _ _ _ h => h.elim) (fun _ _ _ _ _ h => h.elim) 40).2.2

theorem sp_body {r : List Nat} {t : Tok} {n : Nat} {ws : List (List Nat)} {outer : List Env} {fx : List (Addr × Obj)} {Q : Flow → Shared → Prop} (hE : EnvOk env spB.2 L) (hA : okA 14 A) (S : StK (KK w) g) (F : Fr g L s.heap m) (hm : m (Str.ofString "s") = some (.str (ofL r) t)) (hm' : m (Str.ofString "posix") = some (.bool true)) (hm2 : m (Str.ofString "comments") = some (.bool false))
    (hfr : A.frames = some outer) (hfo : ∀ e ∈ outer, e.scope.kind ≠ .module ∧ ∃ a, e.frame = some a ∧ (a = L ∨ a ∈ fx.map (·.1))) (FX : ∀ p ∈ fx, s.heap.get? p.1 = some p.2 ∧ p.1 ≠ L ∧ g.get? p.1 = none ∧ ∀ vs, p.2.data ≠ .fields vs)
    (hal : ∀ c ∈ r, inAl c = true) (hz : r.length + 1 ≤ sizeLine) (hs : splitN n r = some ws)
    (hq : ∀ h' t' m' S items c, g.get? S = none → S ≠ L → S ∉ fx.map (·.1) → Fr g L h' m' → (∀ p ∈ fx, ∃ sl, h'.get? p.1 = some { p.2 with slots := sl }) → h'.get? S = some (lstO items c) → SV items.toList (ws.map ofL) → Q (.ret (.ref S)) { s with heap := h', toks := t' }) :
    wpAny (model prg w) A (execs spB.1 env) Q E s := by
  have c := sp_sc
  simp only [Prod.mk.injEq] at c
  obtain ⟨c1, c2, c3, c4, c5⟩ := c
  have lenr : (ofL r).length = r.length := ofL_len r
  have hx : (ofL r).length ≤ sizeLine := by rw [lenr]; omega
  have gL : g.get? L = none := Heap.get?_none_of_le F.above
  obtain ⟨oL, es, ep, hLL, hL2⟩ := F.ns
  have nx : ∀ b c o, s.heap.get? b = none → s.heap.get? c = some o → b ≠ c := fun b c o e1 e2 q => by rw [q, e2] at e1; cases e1
  rw [sp_eq]
  refine wpAny_execs_cons (p0_run p0_ok hE F.ns hm ?_)
  refine wpAny_execs_cons (p1_run p1_ok hE (hA.le (by omega)) (S.up F.keep) F.ns hm hm' hx ?_)
  intro P h1 h2 t2 Rd hn2 hk
  obtain ⟨e0, n0, e1, n1, O, i0, i1⟩ := Rd.obj
  have D := Rd.dst
  have F2 : Fr g L h2 (fun y => if y = Str.ofString "lex" then some (.ref P.lex) else m y) := ⟨hn2, fun b o e => hk b o (fun q => by rw [q, gL] at e; cases e) (Rd.le b o (F.keep b o e)), F.above⟩
  have N2 : News g L h2 (led ⟨{ P with qs := false }, (P.q2, dqO) :: (P.q1, dqO) :: fx⟩ e0 n0 e1 n1) := by
    intro p hp
    have old : p ∈ led P e0 n0 e1 n1 → h2.get? p.1 = some p.2 ∧ p.1 ≠ L ∧ g.get? p.1 = none := fun q => ⟨hk _ _ (nx _ _ _ (O p q).2 hLL) (O p q).1, nx _ _ _ (O p q).2 hLL, fresh_of_le F.keep (O p q).2⟩
    simp only [led, List.mem_cons, List.not_mem_nil, or_false] at hp old
    rcases hp with q | q | q | q | rfl | rfl | q
    · exact old (.inl q)
    · exact old (.inr (.inl q))
    · exact old (.inr (.inr (.inl q)))
    · exact old (.inr (.inr (.inr q)))
    · exact ⟨hk _ _ (nx _ _ _ Rd.n2 hLL) Rd.q2, nx _ _ _ Rd.n2 hLL, fresh_of_le F.keep Rd.n2⟩
    · exact ⟨hk _ _ (nx _ _ _ Rd.n1 hLL) Rd.q1, nx _ _ _ Rd.n1 hLL, fresh_of_le F.keep Rd.n1⟩
    · obtain ⟨f1, f2, f3, _⟩ := FX p q
      exact ⟨hk _ _ f2 (Rd.le _ _ f1), f2, f3⟩
  have oq : ∀ q a es n, h1.get? q = some dqO → h1.get? a = some (dictOf es n) → q ≠ a := fun q a es n e1 e2 e => by rw [e, e2] at e1; simp [dqO] at e1
  have ol : h1.get? P.ld = some (dictOf e0 n0) := (O (P.ld, _) (.tail _ (.head _))).1
  have os : h1.get? P.sd = some (dictOf e1 n1) := (O (P.sd, _) (.tail _ (.tail _ (.tail _ (.head _))))).1
  have ngo : ∀ p ∈ led P e0 n0 e1 n1, s.heap.get? p.1 = none := fun p hp => (O p hp).2
  have G2 : Gd (KK w) ⟨{ P with qs := false }, (P.q2, dqO) :: (P.q1, dqO) :: fx⟩ g := ⟨S.kin, S.nl, S.mg, S.mb, ⟨D.a, D.b, D.c, D.d, D.e, fun p hp => by
    rcases List.mem_cons.mp hp with rfl | hp
    · exact ⟨oq _ _ _ _ Rd.q2 ol, oq _ _ _ _ Rd.q2 os⟩
    · rcases List.mem_cons.mp hp with rfl | hp
      · exact ⟨oq _ _ _ _ Rd.q1 ol, oq _ _ _ _ Rd.q1 os⟩
      · have f1 := (FX p hp).1
        exact ⟨(nx _ _ _ (ngo (P.ld, _) (.tail _ (.head _))) f1).symm, (nx _ _ _ (ngo (P.sd, _) (.tail _ (.tail _ (.tail _ (.head _))))) f1).symm⟩⟩, fun e => (nomatch e), fun e => (nomatch e)⟩
  have lo : LocIs { P with qs := false } (fun y => if y = Str.ofString "lex" then some (.ref P.lex) else m y) loS := by
    intro y a e
    unfold loS at e
    rw [aget_cons, aget_cons] at e
    by_cases q : Str.ofString "lex" = y
    · subst q; rw [if_pos rfl] at e; cases e; exact ⟨_, if_pos rfl, rfl⟩
    · rw [if_neg q] at e
      by_cases q' : Str.ofString "comments" = y
      · subst q'; rw [if_pos rfl] at e; cases e; exact ⟨_, (if_neg fun e => q e.symm).trans hm2, rfl⟩
      · rw [if_neg q'] at e; cases e
  refine ss_app (sp_snd (P := ⟨{ P with qs := false }, (P.q2, dqO) :: (P.q1, dqO) :: fx⟩) rfl G2 hE) spM ⟨loS, fZ (.val (.ref P.q1)) (.val (.ref P.q2)), s1Of (ofL r) 0⟩ (fun σ => σ = ⟨loS, fS (.val (.ref P.q1)) (.val (.ref P.q2)), s1Of (ofL r) 0⟩) (by rw [vcS]; exact ⟨rfl, rfl⟩) A _ Q E (hA.le (by omega)) ⟨_, ⟨F2, e0, n0, e1, n1, N2, i0.sim2 sim_Zr, i1.sim2 sim_1⟩, lo⟩ ?_
  rintro σ3 h3 t3 R3 rfl
  obtain ⟨m3, ⟨F3, e0', n0', e1', n1', N3, i0', i1'⟩, lo3⟩ := R3
  have m4 : p4S p4 := p4_ok
  have gg : ∀ x v, (x, v) ∈ gl3 → GlobOk (KK w) x v := fun x v e => globB_ok (List.all_eq_true.mp (KH.gl w) _ e)
  obtain ⟨vl, hvl, rfl⟩ := lo3 (Str.ofString "lex") .lex (by kernel_rfl)
  generalize p4 = st at m4
  · obtain ⟨q, rfl⟩ := m4
    unfold p4T
    refine wpAny_execs_cons (wpAny_Return_some (Call_ (glob_ev (s := { s with heap := h3, toks := t3 }) (S.up F3.keep) hE c5 (gg _ (.type "list") (List.mem_of_getElem? (i := 7) rfl)) rfl (PyProof.Rows.callWith_type1 (args_cons (loc_ev (s := { s with heap := h3, toks := t3 }) hE c3 F3.ns hvl rfl (args_nil ?_)) rfl)))))
    have sub : ∀ p ∈ led P e0' n0' e1' n1', p ∈ led ⟨{ P with qs := false }, (P.q2, dqO) :: (P.q1, dqO) :: fx⟩ e0' n0' e1' n1' := by
      intro p hp
      simp only [led, List.mem_cons, List.not_mem_nil, or_false] at hp ⊢
      rcases hp with q | q | q | q
      · exact .inl q
      · exact .inr (.inl q)
      · exact .inr (.inr (.inl q))
      · exact .inr (.inr (.inr (.inl q)))
    have FO3 : FO P g L m3 (lexF (.str (sg 32)) (.txt (ofL [])) 1) (s1Of (ofL r) 0) h3 := ⟨F3, e0', n0', e1', n1', fun p hp => N3 p (sub p hp), i0'.sim2 (sim_F Rd.qs), i1'.sim2 sim_1⟩
    have l4 : ∀ a ∈ [P.lex, P.ld, P.sio, P.sd], s.heap.get? a = none ∧ g.get? a = none ∧ ∃ o, h3.get? a = some o ∧ o ≠ dqO := by
      intro a ha
      simp only [List.mem_cons, List.not_mem_nil, or_false] at ha
      rcases ha with rfl | rfl | rfl | rfl
      · exact ⟨ngo (P.lex, _) (.head _), (N3 _ (sub (P.lex, _) (.head _))).2.2, _, (N3 _ (sub (P.lex, _) (.head _))).1, fun e => by simp [dqO] at e⟩
      · exact ⟨ngo (P.ld, _) (.tail _ (.head _)), (N3 _ (sub (P.ld, _) (.tail _ (.head _)))).2.2, _, (N3 _ (sub (P.ld, _) (.tail _ (.head _)))).1, fun e => by simp [dqO] at e⟩
      · exact ⟨ngo (P.sio, _) (.tail _ (.tail _ (.head _))), (N3 _ (sub (P.sio, _) (.tail _ (.tail _ (.head _))))).2.2, _, (N3 _ (sub (P.sio, _) (.tail _ (.tail _ (.head _))))).1, fun e => by simp [dqO] at e⟩
      · exact ⟨ngo (P.sd, _) (.tail _ (.tail _ (.tail _ (.head _)))), (N3 _ (sub (P.sd, _) (.tail _ (.tail _ (.tail _ (.head _)))))).2.2, _, (N3 _ (sub (P.sd, _) (.tail _ (.tail _ (.tail _ (.head _)))))).1, fun e => by simp [dqO] at e⟩
    have leb : Le g (hideAll h3 [P.lex, P.ld, P.sio, P.sd]) := fun b o e => hideAll_get _ (F3.keep b o e) fun q => by rw [(l4 b q).2.1] at e; cases e
    have hq1 : h3.get? P.q1 = some dqO := (N3 (P.q1, dqO) (by simp [led])).1
    have hq2 : h3.get? P.q2 = some dqO := (N3 (P.q2, dqO) (by simp [led])).1
    have nq : ∀ q, h3.get? q = some dqO → q ∉ [P.lex, P.ld, P.sio, P.sd] := fun q e hm => by
      obtain ⟨_, _, o, h1, h2⟩ := l4 q hm
      rw [e] at h1; cases h1; exact h2 rfl
    have Gb : Gd (KK w) P (hideAll h3 [P.lex, P.ld, P.sio, P.sd]) := ⟨S.kin.keeps leb, S.nl.keeps leb, let ⟨a, b⟩ := S.mg; ⟨a, b.keeps leb⟩, let ⟨a, b⟩ := S.mb; ⟨a, b.keeps leb⟩, D, fun _ => hideAll_get _ hq1 (nq _ hq1), fun _ => hideAll_get _ hq2 (nq _ hq2)⟩
    have fxn : ∀ p ∈ fx, p ∈ led ⟨{ P with qs := false }, (P.q2, dqO) :: (P.q1, dqO) :: fx⟩ e0' n0' e1' n1' := fun p hp => .tail _ (.tail _ (.tail _ (.tail _ (.tail _ (.tail _ hp)))))
    obtain ⟨oL3, es3, ep3, hL3, hL4, hL5⟩ := F3.ns
    have hff : h3.FunFrames g outer := ffs hL3 (fun vs e => by rw [hL4] at e; cases e) gL (fun p hp => ⟨(N3 p (fxn p hp)).1, (FX p hp).2.2.1, (FX p hp).2.2.2⟩) outer hfo
    have inf : ∀ a ∈ outer.filterMap (·.frame), a = L ∨ a ∈ fx.map (·.1) := by
      intro a ha
      obtain ⟨e, he, hf⟩ := List.mem_filterMap.mp ha
      obtain ⟨_, b, hb, hc⟩ := hfo e he
      rw [hf] at hb; cases hb; exact hc
    have ins : ∀ a, (a = L ∨ a ∈ fx.map (·.1)) → s.heap.get? a ≠ none ∧ h3.get? a ≠ none := by
      rintro a (rfl | ha)
      · exact ⟨by rw [hLL]; exact nofun, by rw [hL3]; exact nofun⟩
      · obtain ⟨p, hp, rfl⟩ := List.mem_map.mp ha
        exact ⟨by rw [(FX p hp).1]; exact nofun, by rw [(N3 p (fxn p hp)).1]; exact nofun⟩
    refine list_lex (P := P) (gb := hideAll h3 [P.lex, P.ld, P.sio, P.sd]) (n := n) (r := r) (ws := ws) (outer := outer) (s := { s with heap := h3, toks := t3 }) tq_all (by intro c hc; exact hal c (by simpa [ofL] using hc)) (by rw [lenr]; exact hz) S.kin Gb (fun b o e => of_hideAll _ e) (fun a ha => hideAll_none _ ha) (fun a ha q => (ins a (inf a q)).1 (l4 a ha).1) rfl hs hA hfr hff FO3 ?_
    intro h' t' items c S' hS F' kp hS' hv
    refine hq h' t' m3 S' items c (fresh_of_le F3.keep hS) (fun q => (ins S' (.inl q)).2 hS) (fun q => (ins S' (.inr q)).2 hS) F' (fun p hp => ?_) hS' hv
    have mp : p.1 ∈ fx.map (·.1) := List.mem_map_of_mem hp
    exact (kp p.1 p.2 (N3 p (fxn p hp)).1 (fun q => (ins p.1 (.inr mp)).1 (l4 p.1 q).1) (fun q => (ins p.1 (.inr mp)).2 (q ▸ hS))).2 (FX p hp).2.2.2
end
end Mine
end
section
open PySem PySem.W PySem.Calls PyProof.Rows
namespace Mine
class KS (KK : World → Frag) : Prop where
  r758 : ∀ w, fnRow (KK w) 758 (objAt (KK w) 758) (fnAt (KK w) 758) = (some (objAt (KK w) 758), .func (fnAt (KK w) 758), .stmts spB.1, true, spB.2, .function, false, false, mainGlobals, builtinsNs)
  b758 : ∀ w a, rdK (KK w) 200 (bindArgs (fnAt (KK w) 758) ⟨[a], []⟩) = some [(Str.ofString "s", a), (Str.ofString "comments", Value.bool false), (Str.ofString "posix", Value.bool true)]
noncomputable def spPs : List Str := ["s", "comments", "posix"]
theorem sp_loc : ((spB.2.all fun x => decide (x.2 ≠ .cell)) && (spPs.all fun x => spB.2.lookup x == some .local)) = true := by kernel_rfl
noncomputable def vals3 (a : Value) : List Value := [a, .bool false, .bool true]
theorem z1 (a : Value) : (spPs.zip (vals3 a)).reverse.lookup (Str.ofString "s") = some a := by kernel_rfl
theorem z2 (a : Value) : (spPs.zip (vals3 a)).reverse.lookup (Str.ofString "posix") = some (.bool true) := by kernel_rfl
theorem z3 (a : Value) : (spPs.zip (vals3 a)).reverse.lookup (Str.ofString "comments") = some (.bool false) := by kernel_rfl
section
variable {w : World} {g : Heap} {KK : World → Frag} [KH KK] [KF KK] [KI KK] [KS KK]
theorem sp_ct {r : List Nat} {t : Tok} {n : Nat} {ws : List (List Nat)} (hal : ∀ c ∈ r, inAl c = true) (hz : r.length + 1 ≤ sizeLine) (hs : splitN n r = some ws) :
    Ct prg w (KK w) 15 (.ref 758) [.str (ofL r) t] g fun g' v => ∃ S items, v = .ref S ∧ g.get? S = none ∧ SV items (ws.map ofL) ∧ g'.IsList S items.toArray := by
  intro A s fb R hA hF h1 S hR
  have rr := KS.r758 (KK := KK) w
  simp only [fnRow, Prod.mk.injEq] at rr
  obtain ⟨r1, r2, r3, r4, r5, r6, r7, r8, r9, r10⟩ := rr
  obtain ⟨l1, l2⟩ := Bool.and_eq_true_iff.mp sp_loc
  have kin := S.kin.keeps S.keep
  have nfb : ∀ b o, g.get? b = some o → b ∉ fb.map (·.1) := fun b o e q => by
    obtain ⟨p, hp, rfl⟩ := List.mem_map.mp q
    rw [(S.fb p hp).1] at e; cases e
  have leg : Le g (hideAll s.heap (fb.map (·.1))) := fun b o e => hideAll_get _ (S.keep b o e) (nfb b o e)
  have ST : StK (KK w) (hideAll s.heap (fb.map (·.1))) := ⟨S.kin.keeps leg, S.nl.keeps leg, let ⟨a, b⟩ := S.mg; ⟨a, b.keeps leg⟩, let ⟨a, b⟩ := S.mb; ⟨a, b.keeps leg⟩⟩
  refine codeAny_mono (codeAny_toks_of (n := 1) h1 (R := fun r s' => 1 ≤ s'.toks → R r s') ?_) (fun r s' x => x.2 x.1)
  refine codeAny_call_def (fd := fnAt (KK w) 758) (body := spB.1) (binds := spPs.zip (vals3 (.str (ofL r) t))) (by have := hA.2.1; omega) (kin _ _ r1) r2 (S.nl.keeps S.keep) (codeRec_of kin r4) r3 (fun _ _ _ _ hq => rdK_snd kin (KS.b758 w _) hq) ?_ ?_ ?_ r7 r8 r6
  · intro x hx
    exact of_decide_eq_true (List.all_eq_true.mp l1 x (r5 ▸ hx))
  · intro x hx
    rw [r5]
    exact beq_iff_eq.mp (List.all_eq_true.mp l2 x.1 (List.of_mem_zip (a := x.1) (b := x.2) hx).1)
  · intro h₁ hns hk₁
    have hE : EnvOk (callEnv (fnAt (KK w) 758) s.heap.objs.size 758) spB.2 s.heap.objs.size := ⟨r6, rfl, r9, r10, r5⟩
    have hfrm : (callEnv (fnAt (KK w) 758) s.heap.objs.size 758).frame = some s.heap.objs.size := rfl
    have hA' : okA 14 (A.deeper (callEnv (fnAt (KK w) 758) s.heap.objs.size 758)) := ⟨hA.1, by have := hA.2.1; show A.depth + 1 + 14 < _; omega, by have := hA.2.2; show A.units + 3 + 8 * 14 < _; omega⟩
    obtain ⟨frs, e1, e2⟩ := hF
    have hfr : (A.deeper (callEnv (fnAt (KK w) 758) s.heap.objs.size 758)).frames = some (callEnv (fnAt (KK w) 758) s.heap.objs.size 758 :: frs) := by show A.frames.map _ = _; rw [e1]; rfl
    generalize callEnv (fnAt (KK w) 758) s.heap.objs.size 758 = env at hE hA' hfrm hfr
    have hno : s.heap.get? s.heap.objs.size = none := Heap.get?_none_of_le (Nat.le_refl _)
    obtain ⟨nfL, ngL⟩ := S.fresh hno
    have F : Fr (hideAll s.heap (fb.map (·.1))) s.heap.objs.size h₁ (fun x => (spPs.zip (vals3 (.str (ofL r) t))).reverse.lookup x) := ⟨hns, fun b o e => hk₁ b o (of_hideAll _ e), Nat.le_of_eq (hideAll_size _ _)⟩
    refine sp_body (KK := KK) (s := { s with heap := h₁, toks := s.toks + _ }) (fx := fb.map fun p => (p.1, (s.heap.get? p.1).getD default)) (outer := env :: frs) hE hA' ST F (z1 _) (z2 _) (z3 _) hfr ?_ ?_ hal hz hs ?_
    · intro e he
      rcases List.mem_cons.mp he with rfl | he
      · exact ⟨by rw [hE.kind]; decide, _, hfrm, .inl rfl⟩
      · obtain ⟨a1, a, a2, a3⟩ := e2 e he
        refine ⟨a1, a, a2, .inr ?_⟩
        rw [List.map_map]; exact a3
    · intro p hp
      obtain ⟨q, hq, rfl⟩ := List.mem_map.mp hp
      obtain ⟨f1, f2, sl, f3⟩ := S.fb q hq
      have mq : q.1 ∈ fb.map (·.1) := List.mem_map_of_mem hq
      refine ⟨hk₁ _ _ ?_, fun e => nfL (e ▸ mq), hideAll_none _ mq, ?_⟩
      · dsimp only; rw [f3]; rfl
      · dsimp only; rw [f3]; exact f2
    · intro h' t' m' S' items c n1 n2 n3 F' fx' hS' hv ht'
      rw [List.map_map] at n3
      have B : Bd (KK w) (hideAll s.heap (fb.map (·.1))) fb [] s.heap.objs.size m' h' := by
        refine ⟨⟨ST.kin, ST.nl, ST.mg, ST.mb, F'.keep, fun p hp => ?_⟩, nfL, F'.ns, Heap.get?_none_of_le (Nat.le_of_eq (hideAll_size _ _)), fun p hp => (nomatch hp), List.nodup_nil⟩
        obtain ⟨f1, f2, sl, f3⟩ := S.fb p hp
        obtain ⟨sl', e⟩ := fx' _ (List.mem_map_of_mem hp)
        dsimp only at e
        rw [f3] at e
        exact ⟨hideAll_none _ (List.mem_map_of_mem hp), f2, sl', e⟩
      refine hR (hideAll h' (hid fb [] s.heap.objs.size)) (.ref S') h' t' ht' (leg.trans B.le_max) B.max.sr ⟨S', items.toList, rfl, fresh_of_le leg n1, hv, _, hideAll_get _ hS' ?_, rfl, c, rfl⟩
      intro q
      rcases List.mem_cons.mp q with q | q
      · exact n2 q
      · rw [List.map_nil, List.append_nil] at q; exact n3 q
end
end Mine
end
section
open PySem PySem.W PySem.Calls PyProof.Rows
namespace Mine
noncomputable def lawB : List Stmt × List (Str × NameKind) := defOf "law" pwB
noncomputable def gl4 : List (Str × Value) := [("_law_words", .ref 773), ("split", .ref 758), ("make_quoted_pairs", .ref 51), ("_law_paired", .ref 778), ("quote_string", .ref 58), ("quote", .ref 766), ("range", .type "range"), ("len", .builtin "len")]
noncomputable def kps4 : List Addr := [773, 758, 51, 778, 58, 766]
class KW (KK : World → Frag) : Prop where
  gl : ∀ w, gl4.all (globB (KK w)) = true
  kp : ∀ w, (kps4.all fun f => keepB (KK w) (.ref f)) = true
  f773 : ∀ w, FnK (KK w) 773 lwB ["numbers"]
  f778 : ∀ w, FnK (KK w) 778 lpB ["text"]
  f783 : ∀ w, FnK (KK w) 783 lawB ["script"]
noncomputable def oneR (as : List U) (p : Addr → Prop) : Prop := match as with
  | [.ref a] => p a
  | _ => False
noncomputable def oneS (as : List U) (p : Str → Prop) : Prop := match as with
  | [.str x] => p x
  | _ => False
theorem oneR_of {as : List U} {p : Addr → Prop} (h : oneR as p) : ∃ a, as = [.ref a] ∧ p a := by
  cases as with
  | nil => exact False.elim h
  | cons u r =>
    cases r with
    | cons _ _ => cases u <;> exact False.elim h
    | nil => cases u <;> first | exact ⟨_, rfl, h⟩ | exact False.elim h
theorem oneS_of {as : List U} {p : Str → Prop} (h : oneS as p) : ∃ a, as = [.str a] ∧ p a := by
  cases as with
  | nil => exact False.elim h
  | cons u r =>
    cases r with
    | cons _ _ => cases u <;> exact False.elim h
    | nil => cases u <;> first | exact ⟨_, rfl, h⟩ | exact False.elim h
noncomputable def cL (f : Addr) (as : List U) (g : Heap) (k : U → Heap → Prop) : Prop := match Nat.beq f 773 with
  | true => oneR as fun a => ∃ vs ns, g.IsList a (List.toArray vs) ∧ IntsAre vs ns ∧ ns.length ≤ 1000 ∧ ∀ g' W bs, Le g g' → g'.IsList W (bs.map Value.ref).toArray → InnerG g' bs (lw ns) → k (.ref W) g'
  | false => (match Nat.beq f 758 with
    | true => oneS as fun x => ∃ r n ws, x = ofL r ∧ (∀ c ∈ r, inAl c = true) ∧ r.length ≤ 100000 ∧ splitN n r = some ws ∧ ∀ g' S items, Le g g' → SV items (ws.map ofL) → g'.IsList S items.toArray → k (.ref S) g'
    | false => (match Nat.beq f 51 with
      | true => oneS as fun x => ∃ p, x = ofL p ∧ p.length ≤ 100000 ∧ ∀ g', Le g g' → k (.str (ofL (pairs p))) g'
      | false => (match Nat.beq f 58 with
        | true => oneS as fun x => ∃ p, x = ofL p ∧ p.length ≤ 100000 ∧ ∀ g', Le g g' → k (.str (ofL (qs p))) g'
        | false => (match Nat.beq f 766 with
          | true => oneS as fun x => ∃ p, x = ofL p ∧ p.length ≤ 100000 ∧ (∀ c ∈ p, inAl c = true) ∧ ∀ g', Le g g' → k (.str (ofL (qt p))) g'
          | false => (match Nat.beq f 778 with
            | true => oneS as fun x => ∃ p, x = ofL p ∧ p.length ≤ 100000 ∧ (∀ c ∈ p, inAl c = true) ∧ ∀ g', Le g g' → k (.str (ofL (pairs p))) g'
            | false => False)))))

section
variable {w : World} {KK : World → Frag} [KG KK] [KH KK] [KF KK] [KI KK] [KS KK] [KW KK]
theorem Ct.mono {prog : Program} {K : Frag} {n m : Nat} {f : Value} {vals : List Value} {g : Heap} {P P' : Heap → Value → Prop} (h : Ct prog w K n f vals g P) (hm : n ≤ m) (k : ∀ g' v, Le g g' → P g' v → P' g' v) : Ct prog w K m f vals g P' :=
  fun A s fb R hA hF h1 S hR => h A s fb R (hA.le hm) hF h1 S fun g' v h' t' ht le S' hv => hR g' v h' t' ht le S' (k g' v le hv)
theorem cL_snd : SndC2 prg w (KK w) 15 cL := by
  intro f as g k h g1 le vals hi
  unfold cL at h
  split at h
  · rename_i e
    obtain ⟨a, rfl, vs, ns, h1, h2, h3, h4⟩ := oneR_of h
    rw [Nat.eq_of_beq_eq_true e]
    obtain ⟨v, rfl, hv⟩ := isAllU_one hi
    cases hv
    have hl : g1.IsList _ vs.toArray := let ⟨o, e, r⟩ := h1; ⟨o, le _ _ e, r⟩
    refine (lw_ct (n := 14) (KW.f773 w) hl h2 h3).mono (Nat.le_refl _) fun g' v le' hw => ?_
    obtain ⟨W, bs, rfl, h5, h6⟩ := hw
    exact ⟨.ref W, rfl, h4 g' W bs (le.trans le') h5 h6⟩
  · split at h
    · rename_i e
      obtain ⟨x, rfl, r, n, ws, rfl, h1, h2, h3, h4⟩ := oneS_of h
      rw [Nat.eq_of_beq_eq_true e]
      obtain ⟨v, rfl, _, t, rfl⟩ := isAllU_one hi
      refine (sp_ct h1 (Nat.le_trans (Nat.succ_le_succ h2) (by decide)) h3).mono (Nat.le_refl _) fun g' v le' hw => ?_
      obtain ⟨S, items, rfl, _, h5, h6⟩ := hw
      exact ⟨.ref S, rfl, h4 g' S items (le.trans le') h5 h6⟩
    · split at h
      · rename_i e
        obtain ⟨x, rfl, p, rfl, h1, h2⟩ := oneS_of h
        rw [Nat.eq_of_beq_eq_true e]
        obtain ⟨v, rfl, _, t, rfl⟩ := isAllU_one hi
        refine (mq_ct (n := 14) h1).mono (Nat.le_refl _) fun g' v le' hw => ⟨.str (ofL (pairs p)), ⟨fit_ofL (Nat.le_trans (pairs_len p) (by omega)), hw⟩, h2 g' (le.trans le')⟩
      · split at h
        · rename_i e
          obtain ⟨x, rfl, p, rfl, h1, h2⟩ := oneS_of h
          rw [Nat.eq_of_beq_eq_true e]
          obtain ⟨v, rfl, _, t, rfl⟩ := isAllU_one hi
          exact (qs_ct (n := 13) h1).mono (Nat.le_refl _) fun g' v le' hw => ⟨_, hw, h2 g' (le.trans le')⟩
        · split at h
          · rename_i e
            obtain ⟨x, rfl, p, rfl, h1, h2, h3⟩ := oneS_of h
            rw [Nat.eq_of_beq_eq_true e]
            obtain ⟨v, rfl, _, t, rfl⟩ := isAllU_one hi
            exact (qt_ct (n := 12) h1 h2).mono (Nat.le_refl _) fun g' v le' hw => ⟨_, hw, h3 g' (le.trans le')⟩
          · split at h
            · rename_i e
              obtain ⟨x, rfl, p, rfl, h1, h2, h3⟩ := oneS_of h
              rw [Nat.eq_of_beq_eq_true e]
              obtain ⟨v, rfl, _, t, rfl⟩ := isAllU_one hi
              exact (lp_ct (n := 14) (KW.f778 w) h1 h2).mono (Nat.le_refl _) fun g' v le' hw => ⟨_, hw, h3 g' (le.trans le')⟩
            · exact h.elim
end

noncomputable def stJoinArg : Stmt → Expr
  | .Assign _ (.Call _ [c] _ _) _ => c
  | .Assign _ c _ => c
  | _ => noE
noncomputable def oL : LC := lcOf (stJoinArg (nthS 1 lawB.1))
noncomputable def iL : LC := lcOf (match oL.elt with
  | .Call _ [c] _ _ => c
  | _ => noE)
noncomputable def pL : LC := lcOf (stJoinArg (nthS 2 lawB.1))
noncomputable def oN : List (Str × NameKind) := [(".0", .local), ("word", .cell), ("range", .globalImplicit), ("len", .globalImplicit)]
noncomputable def iN : List (Str × NameKind) := [(".0", .local), ("k", .local), ("quote", .globalImplicit), ("quote_string", .globalImplicit), ("word", .cell)]
noncomputable def iNf : List (Str × NameKind) := [(".0", .local), ("k", .local), ("quote", .globalImplicit), ("quote_string", .globalImplicit), ("word", .free)]
noncomputable def pN : List (Str × NameKind) := [(".0", .local), ("word", .local)]
theorem oL_sc : (oL.sc.names, oL.sc.kind) = (oN, .function) := by kernel_rfl
theorem iL_sc : (iL.sc.names, iL.sc.kind) = (iNf, .function) := by kernel_rfl
theorem pL_sc : (pL.sc.names, pL.sc.kind) = (pN, .function) := by kernel_rfl
noncomputable def XB (sc : List (Str × NameKind)) : C2 := { sc := sc, gl := fun x => lkS x gl4, cell := fun _ => none, own := false, kp := kpF kps4, hint := fun _ _ => some true, c := cL, lc := fun _ _ _ => False, fr := fun _ _ _ => False, eq := fun _ _ _ _ => False }
noncomputable def cellW (c : Addr) (x : Str) : Option Addr := match decide (x = ("word" : Str)) with
  | true => some c
  | false => none
noncomputable def XI2 (c : Addr) : C2 := { XB iN with cell := cellW c }
noncomputable def wkE : Expr := match iL.elt with
  | .Call _ [a] _ _ => a
  | _ => noE
noncomputable def wkV (c : Addr) (i : Int) (g : Heap) (f : Addr) (K : U → S2 → Prop) : Prop := ∃ v u, g.IsCell c (some v) ∧ U.Is u v ∧ subU (XI2 c) wkE u (.int i) ⟨[("k", .int i)], g, []⟩ fun u' σ' => σ'.ow = [] ∧ cL f [u'] σ'.g fun r g' => K r { σ' with g := g' }
theorem ie_vc (c : Addr) (i : Int) (g : Heap) (K : U → S2 → Prop) : (ev2 (XI2 c) 30).e iL.elt ⟨[("k", .int i)], g, []⟩ K =
    (0 ≤ i.fmod 2 ∧ i.fmod 2 < ((2 : Nat) : Int) ∧ ((i.fmod 2 = ((0 : Nat) : Int) → wkV c i g 766 K) ∧ ((i.fmod 2 = ((1 : Nat) : Int) → wkV c i g 58 K) ∧ True))) := by kernel_rfl
end Mine
end
section
open PySem PySem.W PySem.Calls PyProof.Rows
namespace Mine
noncomputable def handsL (b : Bool) : List (List Nat) → List (List Nat)
  | [] => []
  | p :: r => hand b p :: handsL (!b) r
theorem handsL_len (b : Bool) (ps : List (List Nat)) : (handsL b ps).length = ps.length := by
  induction ps generalizing b with
  | nil => rfl
  | cons p r ih => simp [handsL, ih]
theorem handsL_flat (b : Bool) (ps : List (List Nat)) : (handsL b ps).flatten = write b ps := by
  induction ps generalizing b with
  | nil => rfl
  | cons p r ih => simp [handsL, write, ih]
theorem handsL_get {ps : List (List Nat)} : ∀ {b : Bool} {i : Nat} {p : List Nat}, ps[i]? = some p → (handsL b ps)[i]? = some (hand (b != decide (i % 2 = 1)) p) := by
  induction ps with
  | nil => intro b i p e; simp at e
  | cons q r ih =>
    intro b i p e
    cases i with
    | zero => simp at e; subst e; simp [handsL]
    | succ i =>
      have := ih (b := !b) (by simpa using e)
      simp only [handsL, List.getElem?_cons_succ, this]
      congr 2
      cases b <;> by_cases h : i % 2 = 1
      · have : ¬ (i + 1) % 2 = 1 := by omega
        simp [h, this]
      · have : (i + 1) % 2 = 1 := by omega
        simp [h, this]
      · have : ¬ (i + 1) % 2 = 1 := by omega
        simp [h, this]
      · have : (i + 1) % 2 = 1 := by omega
        simp [h, this]
noncomputable def Pcs (ps : List (List Nat)) : Prop := ps.length ≤ 24 ∧ ∀ p ∈ ps, p.length ≤ 23 ∧ ∀ c ∈ p, inAl c = true
noncomputable def lcI (c : Addr) (e : Expr) (σ : S2) (k : U → S2 → Prop) : Prop := e = iL.ex "k" ∧ ∃ a vs ps, σ.g.IsCell c (some (.ref a)) ∧ σ.g.IsList a (List.toArray vs) ∧ StrsAre vs (ps.map ofL) ∧ Pcs ps ∧ ∀ g' b ys, Le σ.g g' → g'.IsList b (List.toArray ys) → StrsAre ys ((handsL false ps).map ofL) → k (.ref b) { σ with g := g' }
noncomputable def XO (c : Addr) : C2 := { XB oN with cell := cellW c, lc := lcI c }
noncomputable def riT (q : List Pos) : Expr := .Call (.Name "range" (q.getD 0 noPos)) [.Call (.Name "len" (q.getD 1 noPos)) [.Name "word" (q.getD 2 noPos)] [] (q.getD 3 noPos)] [] (q.getD 4 noPos)
noncomputable def riS (e : Expr) : Prop := ∃ q, e = riT q
noncomputable def riP : Expr → List Pos
  | .Call (.Name _ q0) [.Call (.Name _ q1) [.Name _ q2] _ q3] _ q4 => [q0, q1, q2, q3, q4]
  | _ => []
theorem ri_ok : riS iL.it := ⟨riP iL.it, by kernel_rfl⟩
theorem clos_w {scope : Scope} {env : Env} {c : Addr} (h : scope.names = iNf) (hc : env.cells.lookup (Str.ofString "word") = some c) : closureFor scope env = pure [(Str.ofString "word", c)] := by
  unfold closureFor
  rw [h]
  simp only [iNf, List.forIn_cons, List.forIn_nil, cellOf, hc]
  rfl
theorem cell_w (c : Addr) : cellW c ("word" : Str) = some c := by kernel_rfl
theorem cell_of {c : Addr} {x : Str} {d : Addr} (h : cellW c x = some d) : x = Str.ofString "word" ∧ d = c := by
  unfold cellW at h
  split at h
  · rename_i e; cases h; exact ⟨of_decide_eq_true e, rfl⟩
  · cases h
theorem strsAre_get {vs : List Value} {ys : List Str} (h : StrsAre vs ys) : ∀ {i : Nat} {y : Str}, ys[i]? = some y → ∃ t, vs[i]? = some (.str y t) := by
  induction h with
  | nil => intro i y e; simp at e
  | cons y t _ ih =>
    intro i z e
    cases i with
    | zero => simp at e; subst e; exact ⟨t, rfl⟩
    | succ i => simpa using ih (by simpa using e)
theorem wkE_root : rootE wkE = some (Str.ofString "word", 1) := by kernel_rfl
theorem len_vc (c : Addr) (p q r : Pos) (loc : Ls) (g : Heap) (ow : Ow) (k : U → S2 → Prop) : (ev2 { XB oN with cell := cellW c } 10).e (.Call (.Name "len" p) [.Name "word" q] [] r) ⟨loc, g, ow⟩ k = (∃ v u, g.IsCell c (some v) ∧ U.Is u v ∧ bltU "len" [u] ⟨loc, g, ow⟩ fun r => k r ⟨loc, g, ow⟩) := by kernel_rfl
theorem blt_len (a : Addr) (σ : S2) (k : U → Prop) : bltU "len" [.ref a] σ k = (∃ vs, LstIn σ a vs ∧ vs.length ≤ sizeLine ∧ k (.int vs.length)) := by kernel_rfl
theorem sub_w (X : C2) (e : Expr) (hr : rootE e = some (Str.ofString "word", 1)) (hh : X.hint = fun _ _ => some true) (a : Addr) (i : Int) (σ : S2) (k : U → S2 → Prop) : subU X e (.ref a) (.int i) σ k = (∃ vs y t, LstIn σ a vs ∧ at_ vs i = some (.str y t) ∧ y.length ≤ sizeLine ∧ i < 2 ^ 63 ∧ -(2 ^ 63) ≤ i ∧ k (.str y) σ) := by
  unfold subU
  simp only [hr, hh]
section
variable {w : World} {KK : World → Frag} [KG KK] [KH KK] [KF KK] [KI KK] [KS KK] [KW KK] {fb : List (Addr × Obj)} {L : Addr} {env : Env} {A : Around}
theorem snd_XB {sc : List (Str × NameKind)} {X : C2} (hgl : X.gl = fun x => lkS x gl4) (hkp : X.kp = kpF kps4) (hc : X.c = cL) (hE : Env2 env X L) (hA : okA 15 A) (hF : FrOk A L fb)
    (hlc : ∀ e σ k, X.lc e σ k → ∀ s Q E, 1 ≤ s.toks → Rep2 (KK w) fb L σ s.heap → (∀ v u σ' h' t', 1 ≤ t' → Rep2 (KK w) fb L σ' h' → U.Is u v → k u σ' → Q v { s with heap := h', toks := t' }) → wpAny (model prg w) A (eval e env) Q E s) (h2 : X.fr = fun _ _ _ => False) (h3 : X.eq = fun _ _ _ _ => False) : Snd2 prg w (KK w) X fb L env 15 A :=
  let _ := sc
  ⟨by rw [hgl]; exact gl_of (KW.gl w), by rw [hkp]; exact kp_of (KW.kp w), hE, hA, hF, by rw [hc]; exact cL_snd, hlc, fun e σ k h => by rw [h2] at h; exact h.elim, fun a b g k h => by rw [h3] at h; exact h.elim, fun a b g k h => by rw [h3] at h; exact h.elim⟩

theorem lcI_snd {c : Addr} (hE : Env2 env (XO c) L) (hcl : env.cells.lookup (Str.ofString "word") = some c) (hkc : env.kindOf (Str.ofString "word") = some .cell) (hA : okA 15 A) (hF : FrOk A L fb) : ∀ e σ k, lcI c e σ k → ∀ s Q E, 1 ≤ s.toks → Rep2 (KK w) fb L σ s.heap → (∀ v u σ' h' t', 1 ≤ t' → Rep2 (KK w) fb L σ' h' → U.Is u v → k u σ' → Q v { s with heap := h', toks := t' }) → wpAny (model prg w) A (eval e env) Q E s := by
  rintro e σ k ⟨rfl, a, vs, ps, hcell, hlist, hstr, hP, hk⟩ s Q E h1 R hq
  have sc := iL_sc
  simp only [Prod.mk.injEq] at sc
  have hpl : vs.length = ps.length := by have := strsAre_toks hstr; simpa using this
  have hrel : (relabel iL.sc env).names = iN := by
    unfold relabel
    dsimp only
    rw [sc.1]
    have : (env.scope.kind == ScopeKind.function) = true := by rw [hE.ok.kind]; rfl
    simp only [iNf, iN, List.map_cons, List.map_nil, this, hkc]
    rfl
  have hs : riS iL.it := ri_ok
  show wpAny _ _ (eval (.ListComp iL.elt [⟨.Name "k" iL.px, iL.it, [], 0⟩] iL.sc iL.pos) env) _ _ _
  generalize iL.it = it at hs ⊢
  · obtain ⟨q, rfl⟩ := hs
    unfold riT
    refine lc_plain (K := KK w) (σ := σ) (XE := XI2 c) (n := 15) 30 hF (clos_w sc.1 hcl) sc.2 (by rw [sc.1]; decide) (by rw [sc.1]; decide) (by rw [sc.1]; decide) (fun _ => rfl) (fun C fb' hF' => ?_) ?_
    · refine snd_XB (sc := iN) rfl rfl rfl ⟨⟨?_, rfl, hE.ok.glo, hE.ok.blt, hrel⟩, fun x d e => ?_⟩ hA hF' (fun _ _ _ h => h.elim) rfl rfl
      · exact sc.2
      · obtain ⟨rfl, rfl⟩ := cell_of e
        rfl
    · have H0 : Snd2 prg w (KK w) { XB oN with cell := cellW c } fb L env 15 A := snd_XB (sc := oN) rfl rfl rfl ⟨hE.ok, hE.cell⟩ hA hF (fun _ _ _ h => h.elim) rfl rfl
      have hn : nameU { XB oN with cell := cellW c } "range" σ (fun u => u = .val (.type "range")) := by
        unfold nameU
        rfl
      refine Call_ (name2 H0.gl H0.en R hn fun v u hu e => ?_)
      subst e
      obtain rfl : v = .type "range" := hu
      have hz : ps.length ≤ sizeLine := Nat.le_trans hP.1 (by decide)
      have hv : (∃ v u, σ.g.IsCell c (some v) ∧ U.Is u v ∧ bltU "len" [u] ⟨σ.loc, σ.g, σ.ow⟩ fun r => r = .int ps.length ∧ (⟨σ.loc, σ.g, σ.ow⟩ : S2) = σ) := by
        refine ⟨.ref a, .ref a, hcell, rfl, ?_⟩
        rw [blt_len]
        exact ⟨vs, .inr hlist, by rw [hpl]; exact hz, by rw [hpl], rfl⟩
      refine PyProof.Rows.callWith_type1 (args_cons ((ev2_snd H0 10).1 _ ⟨σ.loc, σ.g, σ.ow⟩ _ ((len_vc c _ _ _ σ.loc σ.g σ.ow (fun u σ' => u = .int ps.length ∧ σ' = σ)).mpr hv) s _ _ h1 R fun v u σ' h' t' ht' R' hu hk' => ?_) rfl)
      obtain ⟨rfl, eσ⟩ := hk'
      have eσ' := eσ.symm
      subst eσ'
      obtain ⟨tn, rfl⟩ := hu
      refine args_nil (call_range_1 ?_)
      have le1 : ∀ o : Obj, Le h' (h'.push o) := fun o b o' e => Heap.get?_push_of_some _ e
      have hsz : Builtin.Range.rangeSize 0 (ps.length : Int) 1 = (ps.length : Int) := by rw [rangeSize_one]; split <;> omega
      refine wpAny_pyIter_range (IsRange.new ..) (small_one (by decide) (by decide) (by omega) (by have := hP.1; omega)) ?_
      rw [hsz]
      obtain ⟨R2, T⟩ := it_range (prog := prg) (w := w) (A := A) (s := { s with heap := h'.push { cls := .type "range", data := .fields #[.int 0 t', .int ps.length tn, .int 1 (t' + 1)] }, toks := t' + 1 + 1 }) (r := h'.objs.size) (N := ps.length) hA.1 (R'.more (le1 _)) hz (by rw [Heap.get?_push_size _ rfl]; exact nofun)
      refine ⟨_, _, _, ps.length, _, _, fun i v => ∃ p t, ps[i]? = some p ∧ v = .str (ofL (hand (decide (i % 2 = 1)) p)) t, rfl, by show 1 ≤ t' + 1 + 1; omega, R2, T, fun i v hi hP' => ?_, fun D h'' tk ys hD htk R'' hpl' hlen hG' => ?_⟩
      · obtain ⟨t, rfl⟩ := hP'
        have hi' : i < ps.length := hi
        refine ⟨.int i, ⟨t, rfl⟩, fun g1 le1' => ?_⟩
        rw [ie_vc]
        have ep : ps[i]? = some ps[i] := List.getElem?_eq_getElem hi'
        have hp := hP.2 ps[i] (List.getElem_mem hi')
        have hm2 : (i : Int).fmod 2 = ((i % 2 : Nat) : Int) := by rw [Int.fmod_eq_emod_of_nonneg _ (by decide)]; omega
        have arg : ∀ (f : Addr) (K : U → S2 → Prop), (cL f [.str (ofL ps[i])] g1 fun r g' => K r ⟨[("k", .int i)], g', []⟩) → wkV c i g1 f K := by
          intro f K h
          obtain ⟨oc, ec, rc⟩ := hcell
          obtain ⟨ol, el, rl⟩ := hlist
          obtain ⟨ty, ety⟩ := strsAre_get hstr (i := i) (y := ofL ps[i]) (by rw [List.getElem?_map, ep]; rfl)
          refine ⟨.ref a, .ref a, ⟨oc, le1' _ _ ec, rc⟩, rfl, ?_⟩
          rw [sub_w (XI2 c) wkE wkE_root rfl]
          refine ⟨vs, ofL ps[i], ty, .inr ⟨ol, le1' _ _ el, rl⟩, ?_, fit_ofL (by omega), by have := hP.1; omega, by omega, rfl, h⟩
          unfold at_
          rw [if_pos (by omega)]
          simpa using ety
        refine ⟨by rw [hm2]; omega, by rw [hm2]; omega, fun h0 => arg _ _ ?_, fun h1' => arg _ _ ?_, trivial⟩
        · have e0 : i % 2 = 0 := by rw [hm2] at h0; omega
          refine ⟨ps[i], rfl, by omega, hp.2, fun g' le' => ⟨le', rfl, fun y hy => ?_⟩⟩
          obtain ⟨_, t', rfl⟩ := hy
          exact ⟨ps[i], t', ep, by simp [e0, hand]⟩
        · have e1 : i % 2 = 1 := by rw [hm2] at h1'; omega
          refine ⟨ps[i], rfl, by omega, fun g' le' => ⟨le', rfl, fun y hy => ?_⟩⟩
          obtain ⟨_, t', rfl⟩ := hy
          exact ⟨ps[i], t', ep, by simp [e1, hand]⟩
      · obtain ⟨m, B, hloc⟩ := R''
        obtain ⟨o', e', r'⟩ := hpl'.isList
        have fD := fresh4 R2 hD
        refine hq _ (.ref D) { σ with g := hideAll h'' (hid fb σ.ow L) } h'' tk htk ⟨m, B.max, hloc⟩ rfl (hk _ D ys B.le_max ⟨o', hideAll_get _ e' fun q => ?_, r'⟩ ?_)
        · rcases List.mem_cons.mp q with q | q
          · exact fD.2.1 q
          · rcases List.mem_append.mp q with q | q
            · exact fD.2.2.1 q
            · exact fD.2.2.2 q
        · refine strsAre_of (by simp [hlen, handsL_len]) fun i v e => ?_
          obtain ⟨p, t, ec, rfl⟩ := hG' i v e
          refine ⟨ofL (hand (decide (i % 2 = 1)) p), t, ?_, rfl⟩
          rw [List.getElem?_map, handsL_get (b := false) ec]
          simp
end
end Mine
end
section
open PySem PySem.W PySem.Calls PyProof.Rows
namespace Mine
theorem hand_len (b : Bool) (p : List Nat) : (hand b p).length ≤ 5 * p.length + 2 := by
  have h1 := pairs_len p
  have h2 := sqz_len p
  unfold hand qs qt
  repeat' split
  all_goals simp
  all_goals omega
theorem hands_sum {ps : List (List Nat)} (h : ∀ p ∈ ps, p.length ≤ 23) : ∀ b, (((handsL b ps).map ofL).map (·.length)).sum ≤ 117 * ps.length := by
  induction ps with
  | nil => intro b; simp [handsL]
  | cons p r ih =>
    intro b
    have := ih (fun q hq => h q (.tail _ hq)) (!b)
    have h1 := hand_len b p
    have h2 := h p (.head _)
    simp only [handsL, List.map_cons, List.sum_cons, List.length_cons]
    have : (ofL (hand b p)).length = (hand b p).length := ofL_len _
    omega
theorem write_len {ps : List (List Nat)} (h : Pcs ps) (b : Bool) : (write b ps).length ≤ 2808 := by
  have key : ∀ (ps : List (List Nat)), (∀ p ∈ ps, p.length ≤ 23) → ∀ b, (write b ps).length ≤ 117 * ps.length := by
    intro ps
    induction ps with
    | nil => intro _ b; simp [write]
    | cons p r ih =>
      intro h b
      have := ih (fun q hq => h q (.tail _ hq)) (!b)
      have h1 := hand_len b p
      have h2 := h p (.head _)
      simp only [write, List.length_append, List.length_cons]
      omega
  have := key ps (fun p hp => (h.2 p hp).1) b
  have := h.1
  omega
theorem oe_vc (c : Addr) (g : Heap) (K : U → S2 → Prop) : (ev2 (XO c) 30).e oL.elt ⟨[], g, []⟩ K = lcI c (iL.ex "k") ⟨[], g, []⟩ fun u σ' => joinU "" u σ' K := by kernel_rfl
theorem InnerG.get {g : Heap} : ∀ {as : List Addr} {ws : List (List (List Nat))}, InnerG g as ws → ∀ {i : Nat} {a : Addr}, as[i]? = some a → ∃ ps, ∃ c : List Value, ws[i]? = some ps ∧ g.IsList a c.toArray ∧ StrsAre c (ps.map ofL)
  | [], [], _, i, a, e => by simp at e
  | b :: r, v :: t, ⟨⟨c, h1, h2⟩, h3⟩, i, a, e => by
    cases i with
    | zero => simp at e; subst e; exact ⟨v, c, rfl, h1, h2⟩
    | succ i => simpa using InnerG.get h3 (i := i) (a := a) (by simpa using e)
  | [], _ :: _, h, _, _, _ => h.elim
  | _ :: _, [], h, _, _, _ => h.elim
theorem InnerG.len {g : Heap} : ∀ {as : List Addr} {ws : List (List (List Nat))}, InnerG g as ws → as.length = ws.length
  | [], [], _ => rfl
  | _ :: _, _ :: _, h => by simp [InnerG.len h.2]
  | [], _ :: _, h => h.elim
  | _ :: _, [], h => h.elim
noncomputable def Wds (ws : List (List (List Nat))) : Prop := ws.length ≤ 24 ∧ ∀ v ∈ ws, v ≠ [] ∧ Pcs v
noncomputable def lcO (ws : List (List (List Nat))) (e : Expr) (σ : S2) (k : U → S2 → Prop) : Prop := e = oL.ex "word" ∧ ∃ W bs, lkS ("words" : Str) σ.loc = some (.ref W) ∧ σ.g.IsList W (List.toArray (List.map Value.ref bs)) ∧ InnerG σ.g bs ws ∧ Wds ws ∧ ∀ g' b ys, Le σ.g g' → g'.IsList b (List.toArray ys) → StrsAre ys (ws.map fun v => ofL (write false v)) → k (.ref b) { σ with g := g' }
noncomputable def nmS (e : Expr) : Prop := ∃ q, e = .Name "words" q
theorem oit_ok : nmS oL.it := ⟨itP oL.it, by kernel_rfl⟩
theorem pit_ok : nmS pL.it := ⟨itP pL.it, by kernel_rfl⟩
theorem law_words : lawB.2.lookup (Str.ofString "words") = some .local := by kernel_rfl
section
variable {w : World} {KK : World → Frag} [KG KK] [KH KK] [KF KK] [KI KK] [KS KK] [KW KK] {fb : List (Addr × Obj)} {L : Addr} {env : Env} {A : Around}

theorem oelt_ok {σ : S2} {ws : List (List (List Nat))} {bs : List Addr} {C : Addr} (hE : Env2 env (XB lawB.2) L) (hA : okA 15 A) (hG : InnerG σ.g bs ws) (hW : Wds ws) :
    EltOk prg w (KK w) A oL.elt (compEnvC oL.sc [("word", C + 1)] C env) σ C bs.length (fun i v => (bs.map Value.ref)[i]? = some v) (fun v h => h.IsCell (C + 1) (some v)) [C + 1] (fun i y fp _ => fp = [] ∧ ∃ ps t, ws[i]? = some ps ∧ y = .str (ofL (write false ps)) t) := by
  intro s₃ fb' g1 m₃ i v hi hP B hv hvw hin le hF h1 Q E hq
  have sc := oL_sc
  simp only [Prod.mk.injEq] at sc
  have nofree : ∀ y ∈ oL.sc.names, y.2 ≠ .free := by rw [sc.1]; decide
  have hrel : (relabel oL.sc env).names = oN := (relabel_names nofree).trans sc.1
  have hE2 : Env2 (compEnvC oL.sc [("word", C + 1)] C env) (XO (C + 1)) C := ⟨⟨sc.2, rfl, hE.ok.glo, hE.ok.blt, hrel⟩, fun x d e => by obtain ⟨rfl, rfl⟩ := cell_of e; rfl⟩
  have hkc : (compEnvC oL.sc [("word", C + 1)] C env).kindOf (Str.ofString "word") = some .cell := by
    show (relabel oL.sc env).names.lookup _ = _
    rw [hrel]; decide
  have H : Snd2 prg w (KK w) (XO (C + 1)) fb' C (compEnvC oL.sc [("word", C + 1)] C env) 15 A := snd_XB (sc := oN) rfl rfl rfl hE2 hA hF (lcI_snd hE2 rfl hkc hA hF) rfl rfl
  obtain ⟨a, ea, rfl⟩ : ∃ a, bs[i]? = some a ∧ v = .ref a := by
    rw [List.getElem?_map] at hP
    cases q : bs[i]? with
    | none => rw [q] at hP; cases hP
    | some a => rw [q] at hP; cases hP; exact ⟨a, rfl, rfl⟩
  obtain ⟨ps, c, ep, hl, hst⟩ := hG.get ea
  have hpw := hW.2 ps (List.mem_of_getElem? ep)
  obtain ⟨oc, ec, rc⟩ := hv
  have cell1 : g1.IsCell (C + 1) (some (.ref a)) := ⟨oc, hin _ _ (Nat.succ_ne_self _) (hvw _ (.head _)) ec, rc⟩
  have list1 : g1.IsList a c.toArray := let ⟨o, e, r⟩ := hl; ⟨o, le _ _ e, r⟩
  refine (ev2_snd H 30).1 oL.elt ⟨[], g1, []⟩ (fun r σ' => Le g1 σ'.g ∧ σ'.ow = [] ∧ r = .str (ofL (write false ps))) ?_ s₃ Q E h1 ⟨m₃, B, fun x u e => by cases e⟩ fun y r σ' h' t' ht' R' hy hk => ?_
  · rw [oe_vc]
    refine ⟨rfl, a, c, ps, cell1, list1, hst, hpw.2, fun g' b ys le' hl' hys => ⟨ys, _, .inr hl', hys, ?_, le', rfl, ?_⟩⟩
    · have h1 := hands_sum (fun p hp => (hpw.2.2 p hp).1) false
      have h2 := hpw.2.1
      have e0 : (Str.ofString "").length = 0 := by rw [Str.length, ← Array.length_toList, nil_cps2]; rfl
      rw [e0]
      omega
    · rw [join_nil_ofL, handsL_flat]
  · obtain ⟨l1, l2, rfl⟩ := hk
    obtain ⟨m', B', _⟩ := R'
    obtain ⟨_, t, rfl⟩ := hy
    exact hq _ h' t' σ'.g m' ht' l1 (by rw [l2] at B'; exact B') ⟨[], fun b hb => (nomatch hb), rfl, ps, t, ep, rfl⟩

theorem lcO_snd {ws : List (List (List Nat))} (hE : Env2 env (XB lawB.2) L) (hA : okA 15 A) (hF : FrOk A L fb) : ∀ e σ k, lcO ws e σ k → ∀ s Q E, 1 ≤ s.toks → Rep2 (KK w) fb L σ s.heap → (∀ v u σ' h' t', 1 ≤ t' → Rep2 (KK w) fb L σ' h' → U.Is u v → k u σ' → Q v { s with heap := h', toks := t' }) → wpAny (model prg w) A (eval e env) Q E s := by
  rintro e σ k ⟨rfl, W, bs, hlk, hlist, hG, hW, hk⟩ s Q E h1 R hq
  have sc := oL_sc
  simp only [Prod.mk.injEq] at sc
  have nofree : ∀ y ∈ oL.sc.names, y.2 ≠ .free := by rw [sc.1]; decide
  have hrel : (relabel oL.sc env).names = oN := (relabel_names nofree).trans sc.1
  have hs : nmS oL.it := oit_ok
  show wpAny _ _ (eval (.ListComp oL.elt [⟨.Name "word" oL.px, oL.it, [], 0⟩] oL.sc oL.pos) env) _ _ _
  generalize oL.it = it at hs ⊢
  · obtain ⟨q, rfl⟩ := hs
    rw [eval_ListComp]
    have hn : nameU (XB lawB.2) "words" σ (fun u => u = .ref W) := name_loc (by decide) law_words hlk rfl
    refine wpAny_comprehension_free (use := none) rfl (fun _ => rfl) (closureFor_none nofree) sc.2 (by rw [sc.1]; decide) (name2 (gl_of (KW.gl w)) hE R hn fun v u hu e => ?_)
    subst e
    obtain rfl : v = .ref W := hu
    have hbl : (bs.map Value.ref).length = bs.length := by simp
    have hlen := hG.len
    have hz : (bs.map Value.ref).length ≤ sizeLine := by rw [hbl, hlen]; exact Nat.le_trans hW.1 (by decide)
    have hlist' : s.heap.IsList W (bs.map Value.ref).toArray := by obtain ⟨m, B, _⟩ := R; obtain ⟨o, e, r⟩ := hlist; exact ⟨o, B.sr.keep _ _ e, r⟩
    refine wpAny_pyIter_list hlist' ?_
    obtain ⟨R2, T⟩ := it_list (prog := prg) (w := w) (A := A) hA.1 R hlist hz
    rw [hbl] at T
    refine comp_cell (K := KK w) (σ := σ) (F := fun i y fp _ => fp = [] ∧ ∃ ps t, ws[i]? = some ps ∧ y = .str (ofL (write false ps)) t) sc.2 (fun n => by rw [sc.1]; rfl) (fun h => by rw [sc.1]; rfl) (by rw [hrel]; decide) h1 R2 hF T (fun _ _ _ _ _ q _ => q) (.inl fun _ _ _ _ q => q.1) (fun C => oelt_ok hE hA hG hW) ?_
    intro D C h' tk ys hD htk R' hpl hlen' hM
    obtain ⟨m, B, hloc⟩ := R'
    obtain ⟨o', e', r'⟩ := hpl.isList
    have fD := fresh4 R2 hD
    refine hq _ (.ref D) { σ with g := hideAll h' (hid fb σ.ow L) } h' tk htk ⟨m, B.max, hloc⟩ rfl (hk _ D ys B.le_max ⟨o', hideAll_get _ e' fun q => ?_, r'⟩ ?_)
    · rcases List.mem_cons.mp q with q | q
      · exact fD.2.1 q
      · rcases List.mem_append.mp q with q | q
        · exact fD.2.2.1 q
        · exact fD.2.2.2 q
    · refine strsAre_of (by simp [hlen', hlen]) fun i v e => ?_
      obtain ⟨fp, _, _, ps, t, ep, rfl⟩ := hM i v e
      exact ⟨ofL (write false ps), t, by rw [List.getElem?_map, ep]; rfl, rfl⟩
end
end Mine
end
section
open PySem PySem.W PySem.Calls PyProof.Rows
namespace Mine
noncomputable def plT (q1 q2 : Pos) : Stmt := .Assign [.Name "plain" q1] (pL.ex "word") q2
noncomputable def plS (st : Stmt) : Prop := ∃ q1 q2, st = plT q1 q2 ∧ (q1.line == pL.pos.line) = true
noncomputable def plP : Stmt → Pos × Pos
  | .Assign [.Name _ q1] _ q2 => (q1, q2)
  | _ => (noPos, noPos)
theorem pl_ok : plS (nthS 2 lawB.1) := ⟨(plP (nthS 2 lawB.1)).1, (plP (nthS 2 lawB.1)).2, by kernel_rfl, by kernel_rfl⟩
theorem pe_vc (u : U) (g : Heap) (K : U → S2 → Prop) : (ev2 (XB pN) 30).e pL.elt ⟨[("word", u)], g, []⟩ K = joinU "" u ⟨[("word", u)], g, []⟩ K := by kernel_rfl
noncomputable def frP (ws : List (List (List Nat))) (e : Stmt) (σ : S2) (k : UF → S2 → Prop) : Prop := plS e ∧ ∃ W bs, lkS ("words" : Str) σ.loc = some (.ref W) ∧ σ.g.IsList W (List.toArray (List.map Value.ref bs)) ∧ InnerG σ.g bs ws ∧ Wds ws ∧ ∀ g' b ys, Le σ.g g' → g'.IsList b (List.toArray ys) → StrsAre ys (ws.map fun v => ofL v.flatten) → k .next { σ with g := g', loc := uput "plain" (.ref b) σ.loc }
theorem law_plain : lawB.2.lookup (Str.ofString "plain") = some .local := by kernel_rfl
theorem flat_sum {ps : List (List Nat)} (h : Pcs ps) : ((ps.map ofL).map (·.length)).sum ≤ 552 := by
  have key : ∀ (ps : List (List Nat)), (∀ p ∈ ps, p.length ≤ 23) → ((ps.map ofL).map (·.length)).sum ≤ 23 * ps.length := by
    intro ps
    induction ps with
    | nil => intro _; simp
    | cons p r ih =>
      intro h
      have := ih fun q hq => h q (.tail _ hq)
      have h2 := h p (.head _)
      have h3 : (ofL p).length = p.length := ofL_len _
      simp only [List.map_cons, List.sum_cons, List.length_cons]
      omega
  have := key ps fun p hp => (h.2 p hp).1
  have := h.1
  omega
section
variable {w : World} {KK : World → Frag} [KG KK] [KH KK] [KF KK] [KI KK] [KS KK] [KW KK] {fb : List (Addr × Obj)} {L : Addr} {env : Env} {A : Around}
theorem pelt_ok {σ : S2} {ws : List (List (List Nat))} {bs : List Addr} {C : Addr} (hE : Env2 env (XB lawB.2) L) (hA : okA 15 A) (hG : InnerG σ.g bs ws) (hW : Wds ws) :
    EltOk prg w (KK w) A pL.elt (compEnvC pL.sc [] C env) σ C bs.length (fun i v => (bs.map Value.ref)[i]? = some v) (fun v h => ∃ m, h.Ns C m ∧ m "word" = some v) [C] (fun i y fp _ => fp = [] ∧ ∃ ps t, ws[i]? = some ps ∧ y = .str (ofL ps.flatten) t) := by
  have sc := pL_sc
  simp only [Prod.mk.injEq] at sc
  have nofree : ∀ y ∈ pL.sc.names, y.2 ≠ .free := by rw [sc.1]; decide
  have hrel : (relabel pL.sc env).names = pN := (relabel_names nofree).trans sc.1
  refine elt_ev (n := 15) (XE := XB pN) 30 _ (fun _ u _ => [("word", u)]) (fun fb' hF' => snd_XB (sc := pN) rfl rfl rfl ⟨⟨sc.2, rfl, hE.ok.glo, hE.ok.blt, hrel⟩, fun x d e => by cases e⟩ hA hF' (fun _ _ _ h => h.elim) rfl rfl) (fun v u h g1 m fb' hv hu B _ => ?_) fun i v hi hP => ?_
  · obtain ⟨m', hm', e⟩ := hv
    refine ⟨m, B, fun y b hb => ?_⟩
    have hb' : (match decide (Str.ofString "word" = y) with | true => some u | false => none) = some b := hb
    by_cases q : Str.ofString "word" = y
    · subst q
      simp only [decide_true] at hb'
      cases hb'
      exact ⟨v, (ns_fun B.ns hm' _).trans e, hu⟩
    · simp [q] at hb'
  · obtain ⟨a, ea, rfl⟩ : ∃ a, bs[i]? = some a ∧ v = .ref a := by
      rw [List.getElem?_map] at hP
      cases q : bs[i]? with
      | none => rw [q] at hP; cases hP
      | some a => rw [q] at hP; cases hP; exact ⟨a, rfl, rfl⟩
    obtain ⟨ps, c, ep, hl, hst⟩ := hG.get ea
    have hpw := hW.2 ps (List.mem_of_getElem? ep)
    refine ⟨.ref a, rfl, fun g1 h le _ _ => ?_⟩
    rw [pe_vc]
    have list1 : g1.IsList a c.toArray := let ⟨o, e, r⟩ := hl; ⟨o, le _ _ e, r⟩
    refine ⟨c, _, .inr list1, hst, ?_, Le.rfl, rfl, fun y hy => ?_⟩
    · have h1 := flat_sum hpw.2
      have e0 : (Str.ofString "").length = 0 := by rw [Str.length, ← Array.length_toList, nil_cps2]; rfl
      rw [e0]
      omega
    · obtain ⟨_, t, rfl⟩ := hy
      exact ⟨ps, t, ep, by rw [join_nil_ofL]⟩

theorem frP_snd {ws : List (List (List Nat))} (hE : Env2 env (XB lawB.2) L) (hA : okA 15 A) (hF : FrOk A L fb) : ∀ e σ k, frP ws e σ k → ∀ s Q E, 1 ≤ s.toks → Rep2 (KK w) fb L σ s.heap → (∀ f b σ' h' t', 1 ≤ t' → Rep2 (KK w) fb L σ' h' → FlU b f → k b σ' → Q f { s with heap := h', toks := t' }) → wpAny (model prg w) A (exec e env) Q E s := by
  rintro e σ k ⟨hst, W, bs, hlk, hlist, hG, hW, hk⟩ s Q E h1 R hq
  have sc := pL_sc
  simp only [Prod.mk.injEq] at sc
  have nofree : ∀ y ∈ pL.sc.names, y.2 ≠ .free := by rw [sc.1]; decide
  have hs : nmS pL.it := pit_ok
  · obtain ⟨py, spos, rfl, hline⟩ := hst
    have hsw : ∀ it, swapsWith (.ListComp pL.elt [⟨.Name "word" pL.px, it, [], 0⟩] pL.sc pL.pos) (some (.Name "plain" py)) spos.line env = pure true := by
      intro it
      show (pure (env.blockKind == .function && env.kindOf (Str.ofString "plain") == some .local && py.line == pL.pos.line && !(pL.sc.names.any fun (n, k) => n == Str.ofString "plain" && (k == .local || k == .cell))) : Sem Bool) = pure true
      have b1 : env.blockKind = .function := by unfold Env.blockKind; rw [hE.ok.kind]; rfl
      have b2 : env.kindOf (Str.ofString "plain") = some .local := by unfold Env.kindOf; rw [hE.ok.sc]; exact law_plain
      rw [b1, b2, hline, sc.1]
      rfl
    show wpAny _ _ (exec (.Assign [.Name "plain" py] (.ListComp pL.elt [⟨.Name "word" pL.px, pL.it, [], 0⟩] pL.sc pL.pos) spos) env) _ _ _
    generalize pL.it = it at hs ⊢
    · obtain ⟨q, rfl⟩ := hs
      rw [exec_Assign_Name_used _ _ _ _ (hsw _)]
      refine wpAny_bind (wpAny_standAt (wpAny_bind ?_))
      have hn : nameU (XB lawB.2) "words" σ (fun u => u = .ref W) := name_loc (by decide) law_words hlk rfl
      refine wpAny_bind (wpAny_mono (wpAny_comprehension_free (use := some (assign (.Name "plain" py) env)) (Q := fun _ s' => Q .next s') rfl (fun _ => rfl) (closureFor_none nofree) sc.2 (by rw [sc.1]; decide) (name2 (gl_of (KW.gl w)) hE R hn fun v u hu e => ?_)) (fun _ s' hq => wpAny_pure (wpAny_pure hq)) fun _ _ e => e)
      subst e
      obtain rfl : v = .ref W := hu
      have hbl : (bs.map Value.ref).length = bs.length := by simp
      have hlen := hG.len
      have hz : (bs.map Value.ref).length ≤ sizeLine := by rw [hbl, hlen]; exact Nat.le_trans hW.1 (by decide)
      have hlist' : s.heap.IsList W (bs.map Value.ref).toArray := by obtain ⟨m, B, _⟩ := R; obtain ⟨o, e, r⟩ := hlist; exact ⟨o, B.sr.keep _ _ e, r⟩
      refine wpAny_pyIter_list hlist' ?_
      obtain ⟨R2, T⟩ := it_list (prog := prg) (w := w) (A := A) hA.1 R hlist hz
      rw [hbl] at T
      refine comp_locG (K := KK w) (σ := σ) (F := fun i y fp _ => fp = [] ∧ ∃ ps t, ws[i]? = some ps ∧ y = .str (ofL ps.flatten) t) (RR := fun acc C => compPost (model prg w) A E (some (assign (.Name "plain" py) env)) (fun _ s' => Q .next s') acc C) sc.2 (by rw [sc.1]; decide) (by rw [sc.1]; decide) h1 R2 hF T (fun _ _ _ _ _ q _ => q) (.inl fun _ _ _ _ q => q.1) (fun C => pelt_ok hE hA hG hW) ?_
      intro D C h' tk ys hD hC hDC htk R' hns hpl hlen' hM
      obtain ⟨mC, hnC⟩ := hns
      have fC := fresh4 R2 hC
      have fD := fresh4 R2 hD
      show wpAny _ A (assign (.Name "plain" py) env (.ref D)) _ _ _
      refine wpAny_assign_Name (store2 (s := { s with heap := h', toks := tk }) (u := .ref D) hE law_plain R' rfl fun h2 hk2 R3 => ?_)
      refine ⟨mC, let ⟨o, es, ep, e, r⟩ := hnC; ⟨o, es, ep, hk2 _ _ fC.2.1 e, r⟩, fun h3 hs3 => ?_⟩
      have kp : ∀ b o, b ∉ [C] → h2.get? b = some o → h3.get? b = some o := fun b o hb e => hs3.extBut b o (fun q => hb (q ▸ .head _)) e
      have R4 : Rep2 (KK w) fb L { σ with loc := uput "plain" (.ref D) σ.loc } h3 := R3.away kp fun b hb => by
        rcases List.mem_cons.mp hb with rfl | hb
        · exact fC
        · cases hb
      have nDC : D ∉ [C] := fun q => by rcases List.mem_cons.mp q with q | q; exact hDC q; cases q
      obtain ⟨m, B, hloc⟩ := R4
      obtain ⟨o', e', r'⟩ := hpl.isList
      have e3 := kp _ _ nDC (hk2 _ _ fD.2.1 e')
      refine hq .next .next { σ with loc := uput "plain" (.ref D) σ.loc, g := hideAll h3 (hid fb σ.ow L) } h3 (tk + 1) (Nat.le_succ_of_le htk) ⟨m, B.max, hloc⟩ rfl (hk _ D ys B.le_max ⟨o', hideAll_get _ e3 fun q => ?_, r'⟩ ?_)
      · rcases List.mem_cons.mp q with q | q
        · exact fD.2.1 q
        · rcases List.mem_append.mp q with q | q
          · exact fD.2.2.1 q
          · exact fD.2.2.2 q
      · refine strsAre_of (by simp [hlen', hlen]) fun i v e => ?_
        obtain ⟨fp, _, _, ps, t, ep, rfl⟩ := hM i v e
        exact ⟨ofL ps.flatten, t, by rw [List.getElem?_map, ep]; rfl, rfl⟩
end
end Mine
end
section
open PySem PySem.W PySem.Calls PyProof.Rows PyProof.V PySem.Spec PySem.SeqAt
namespace Mine
theorem readsAll_of_strs {h : Heap} : ∀ {vs : List Value} {ns : List Str}, StrsAre vs ns → ReadsAll h vs (ns.map PyData.str) []
  | _, _, .nil => .nil
  | _, _, .cons k t r => by
    have := ReadsAll.cons (Reads.str (h := h) k t) (readsAll_of_strs (h := h) r)
    simpa using this
theorem reads_of_strs {h : Heap} {a : Addr} {vs : List Value} {ns : List Str} (hl : h.IsList a vs.toArray) (hi : StrsAre vs ns) : Reads h (.ref a) (.list (ns.map PyData.str)) [a] := by
  obtain ⟨o, ho, hc, n, hd⟩ := hl
  exact Reads.list ho hc hd (by simpa using readsAll_of_strs hi)
theorem canLay_strs : ∀ ns : List Str, (∀ y ∈ ns, PyData.strOk y = true) → PyData.canLayAll0 (ns.map PyData.str) = true
  | [], _ => by simp [PyData.canLayAll0]
  | n :: r, h => by simp [PyData.canLayAll0, PyData.canLay0, canLay_strs r (fun y hy => h y (.tail _ hy)), h n (.head _)]
theorem depth_strs : ∀ ns : List Str, PyData.depthAll (ns.map PyData.str) ≤ 1
  | [] => by simp [PyData.depthAll]
  | n :: r => by
    have := depth_strs r
    simp only [List.map_cons, PyData.depthAll, PyData.depth]
    omega
theorem shaped_strs (ns : List Str) (hs : ∀ y ∈ ns, PyData.strOk y = true) : shaped (.list (ns.map PyData.str)) = true := by
  have h1 := depth_strs ns
  have h2 : PyData.depth (.list (ns.map PyData.str)) ≤ 64 := by simp only [PyData.depth]; omega
  show (PyData.canLay0 (.list (ns.map PyData.str)) && decide (PyData.depth (.list (ns.map PyData.str)) ≤ 64)) = true
  rw [Bool.and_eq_true]
  exact ⟨by simp only [PyData.canLay0]; exact canLay_strs ns hs, decide_eq_true h2⟩
theorem noMix_strs : ∀ ns ms : List Str, noMixAll (ns.map PyData.str) (ms.map PyData.str) = true
  | [], [] => by simp [noMixAll]
  | [], _ :: _ => by simp [noMixAll]
  | _ :: _, [] => by simp [noMixAll]
  | _ :: r, _ :: q => by simp [noMixAll, noMix, noMix_strs r q]
theorem same_strs : ∀ ns : List Str, PySem.Spec.sameAll (ns.map PyData.str) (ns.map PyData.str) = true
  | [] => by simp [PySem.Spec.sameAll]
  | n :: r => by
    simp only [List.map_cons, PySem.Spec.sameAll, PySem.Spec.same, same_strs r]
    simp
noncomputable def eqS (a b : Addr) (g : Heap) (k : Bool → Prop) : Prop := ∃ vs us ys, g.IsList a (List.toArray vs) ∧ StrsAre vs ys ∧ g.IsList b (List.toArray us) ∧ StrsAre us ys ∧ (∀ y ∈ ys, PyData.strOk y = true) ∧ k true
section
variable {prog : Program} {w : World} {A : Around}
theorem eqS_eq (hA : okA 15 A) : ∀ a b g k, eqS a b g k → ∀ s : Shared, Le g s.heap → ∀ Q E, (∀ r t', k r → Q (.bool r) { s with toks := t' }) → wpAny (model prog w) A (compareOp .Eq (.ref a) (.ref b)) Q E s := by
  rintro a b g k ⟨vs, us, ys, ⟨o1, e1, r1⟩, h2, ⟨o2, e2, r2⟩, h4, hs, hk⟩ s le Q E hq
  refine eq_dataH_same (reads_of_strs ⟨o1, le _ _ e1, r1⟩ h2) (reads_of_strs ⟨o2, le _ _ e2, r2⟩ h4) (shaped_strs ys hs) (shaped_strs ys hs) (by have := hA.2.2; omega) (by simp only [noMix]; exact noMix_strs ys ys) ?_
  simp only [PySem.Spec.same]
  rw [same_strs]
  exact hq true s.toks hk
theorem eqS_ne (hA : okA 15 A) : ∀ a b g k, eqS a b g k → ∀ s : Shared, Le g s.heap → ∀ Q E, (∀ r t', k r → Q (.bool (!r)) { s with toks := t' }) → wpAny (model prog w) A (compareOp .NotEq (.ref a) (.ref b)) Q E s := by
  rintro a b g k ⟨vs, us, ys, ⟨o1, e1, r1⟩, h2, ⟨o2, e2, r2⟩, h4, hs, hk⟩ s le Q E hq
  refine ne_dataH_same (reads_of_strs ⟨o1, le _ _ e1, r1⟩ h2) (reads_of_strs ⟨o2, le _ _ e2, r2⟩ h4) (shaped_strs ys hs) (shaped_strs ys hs) (by have := hA.2.2; omega) (by simp only [noMix]; exact noMix_strs ys ys) ?_
  simp only [PySem.Spec.same]
  rw [same_strs]
  exact hq true s.toks hk
end
end Mine
end
section
open PySem PySem.W PySem.Calls PyProof.Rows
namespace Mine
noncomputable def XL (ws : List (List (List Nat))) : C2 := { XB lawB.2 with lc := lcO ws, fr := frP ws, eq := eqS }
noncomputable def tailU : List U := [.int 3, .int 1, .int 2, .int 1, .int 4, .int 0, .int 3, .int 2, .int 5, .int 0, .int 1]
theorem s0_vc (ws : List (List (List Nat))) (a : Addr) (g : Heap) (K : UF → S2 → Prop) : (ev2 (XL ws) 40).s (nthS 0 lawB.1) ⟨[("script", .ref a)], g, []⟩ K =
    (∃ vs, LstIn ⟨[("script", .ref a)], g, []⟩ a vs ∧ vs.length ≤ sizeLine ∧ newU (XL ws) (slicePick vs.toArray none (some 12) none).toList ⟨[("script", .ref a)], g, []⟩ fun u1 σ1 => ∀ vs2, IsAllU tailU vs2 → newU (XL ws) vs2 σ1 fun u2 σ2 => binU (XL ws) .Add u1 u2 σ2 fun u3 σ3 => (σ3.ow = [] ∧ cL 773 [u3] σ3.g fun u g' => K .next { σ3 with g := g', loc := uput "words" u σ3.loc })) := by kernel_rfl
theorem s1_vc (ws : List (List (List Nat))) (loc : Ls) (g : Heap) (K : UF → S2 → Prop) : (ev2 (XL ws) 40).s (nthS 1 lawB.1) ⟨loc, g, []⟩ K =
    lcO ws (oL.ex "word") ⟨loc, g, []⟩ fun u σ' => joinU " " u σ' fun a σ'' => K .next { σ'' with loc := uput "line" a σ''.loc } := by kernel_rfl
theorem s2_vc (ws : List (List (List Nat))) (loc : Ls) (g : Heap) (K : UF → S2 → Prop) : (ev2 (XL ws) 40).s (nthS 2 lawB.1) ⟨loc, g, []⟩ K = frP ws (nthS 2 lawB.1) ⟨loc, g, []⟩ K := by kernel_rfl
noncomputable def loL (a W b : Addr) (x : Str) : Ls := [("script", .ref a), ("words", .ref W), ("line", .str x), ("plain", .ref b)]
noncomputable def loW (a W b : Addr) (x y : Str) : Ls := [("script", .ref a), ("words", .ref W), ("line", .str x), ("plain", .ref b), ("word", .str y)]
theorem s3_vc (ws : List (List (List Nat))) (a W b : Addr) (x : Str) (g : Heap) (K : UF → S2 → Prop) : (ev2 (XL ws) 40).s (nthS 3 lawB.1) ⟨loL a W b x, g, []⟩ K =
    (([] : Ow) = [] ∧ cL 758 [.str x] g fun u g' => cmpU (XL ws) .NotEq u (.ref b) ⟨loL a W b x, g', []⟩ fun t => match t with
      | true => K (.ret (.bool false)) ⟨loL a W b x, g', []⟩
      | false => K .next ⟨loL a W b x, g', []⟩) := by kernel_rfl
set_option genInjectivity false in
structure FP where
  px : Pos
  ip : Pos
  body : List Stmt
  pos : Pos
noncomputable def fpOf : Stmt → FP
  | .For (.Name _ px) (.Name _ ip) b _ p => ⟨px, ip, b, p⟩
  | _ => ⟨noPos, noPos, [], noPos⟩
noncomputable def lF : FP := fpOf (nthS 4 lawB.1)
theorem s4_eq : nthS 4 lawB.1 = .For (.Name "word" lF.px) (.Name "plain" lF.ip) lF.body [] lF.pos := by kernel_rfl
theorem law_eq : lawB.1 = [nthS 0 lawB.1, nthS 1 lawB.1, nthS 2 lawB.1, nthS 3 lawB.1, nthS 4 lawB.1, nthS 5 lawB.1] := by kernel_rfl
theorem s5_vc (ws : List (List (List Nat))) (loc : Ls) (g : Heap) (K : UF → S2 → Prop) : (ev2 (XL ws) 40).s (nthS 5 lawB.1) ⟨loc, g, []⟩ K = K (.ret (.bool true)) ⟨loc, g, []⟩ := by kernel_rfl
noncomputable def T1 (X : C2) (loc : Ls) (y : Str) (g : Heap) (k : Bool → S2 → Prop) : Prop := ([] : Ow) = [] ∧ cL 51 [.str y] g fun u1 g1 => (([] : Ow) = [] ∧ cL 778 [.str y] g1 fun u2 g2 => cmpU X .NotEq u1 u2 ⟨loc, g2, []⟩ fun t => k t ⟨loc, g2, []⟩)
noncomputable def T2 (X : C2) (loc : Ls) (y : Str) (g : Heap) (k : Bool → S2 → Prop) : Prop := ([] : Ow) = [] ∧ cL 58 [.str y] g fun u1 g1 => (([] : Ow) = [] ∧ cL 778 [.str y] g1 fun u2 g2 => binU X .Add (.str ⟨#[34]⟩) u2 ⟨loc, g2, []⟩ fun u3 σ3 => binU X .Add u3 (.str ⟨#[34]⟩) σ3 fun u4 σ4 => cmpU X .NotEq u1 u4 σ4 fun t => k t σ4)
noncomputable def b0 : Stmt := nthS 0 lF.body
noncomputable def b1 : Stmt := nthS 1 lF.body
theorem body_eq : lF.body = [b0, b1] := by kernel_rfl
theorem b0_vc (ws : List (List (List Nat))) (a W b : Addr) (x y : Str) (g : Heap) (K : UF → S2 → Prop) : (ev2 (XL ws) 39).s b0 ⟨loW a W b x y, g, []⟩ K =
    T1 (XL ws) (loW a W b x y) y g fun t σ => match t with
      | true => K (.ret (.bool false)) σ
      | false => (ev2 (XL ws) 37).or ((match b0 with | .If (.BoolOp _ [_, e] _) _ _ _ => [e] | _ => [])) σ fun t σ' => match t with
        | true => K (.ret (.bool false)) σ'
        | false => K .next σ' := by kernel_rfl
noncomputable def orS (st : Stmt) : List Expr := match st with
  | .If (.BoolOp _ es _) _ _ _ => es
  | _ => []
noncomputable def tl1 : List Expr → List Expr
  | _ :: r => r
  | [] => []
theorem b0_or (ws : List (List (List Nat))) (a W b : Addr) (x y : Str) (g : Heap) (k : Bool → S2 → Prop) : (ev2 (XL ws) 37).or (match b0 with | .If (.BoolOp _ [_, e] _) _ _ _ => [e] | _ => []) ⟨loW a W b x y, g, []⟩ k =
    T2 (XL ws) (loW a W b x y) y g fun t σ => match t with
      | true => k true σ
      | false => k false σ := by kernel_rfl
noncomputable def sbE (l : List Expr) : Expr := match l with
  | .Compare (.Call _ [e] _ _) _ _ _ :: _ => e
  | _ => noE
noncomputable def T3 (X : C2) (loc : Ls) (f1 f2 : Addr) (e : Expr) (y : Str) (g : Heap) (k : Bool → S2 → Prop) : Prop := ([] : Ow) = [] ∧ cL f1 [.str y] g fun u1 g1 => (([] : Ow) = [] ∧ cL f2 [u1] g1 fun u2 g2 => (([] : Ow) = [] ∧ cL 758 [u2] g2 fun u3 g3 => subU X e u3 (.int 0) ⟨loc, g3, []⟩ fun u4 σ4 => (σ4.ow = [] ∧ cL 758 [u4] σ4.g fun u5 g5 =>
  ∀ vs, IsAllU [.str y] vs → newU X vs { σ4 with g := g5 } fun u6 σ6 => cmpU X .NotEq u5 u6 σ6 fun t => k t σ6)))
theorem b1_vc (ws : List (List (List Nat))) (a W b : Addr) (x y : Str) (g : Heap) (K : UF → S2 → Prop) : (ev2 (XL ws) 39).s b1 ⟨loW a W b x y, g, []⟩ K =
    T3 (XL ws) (loW a W b x y) 58 766 (sbE (orS b1)) y g fun t σ => match t with
      | true => K (.ret (.bool false)) σ
      | false => (ev2 (XL ws) 37).or (tl1 (orS b1)) σ fun t σ' => match t with
        | true => K (.ret (.bool false)) σ'
        | false => K .next σ' := by kernel_rfl
theorem b1_or (ws : List (List (List Nat))) (a W b : Addr) (x y : Str) (g : Heap) (k : Bool → S2 → Prop) : (ev2 (XL ws) 37).or (tl1 (orS b1)) ⟨loW a W b x y, g, []⟩ k =
    T3 (XL ws) (loW a W b x y) 766 58 (sbE (tl1 (orS b1))) y g fun t σ => match t with
      | true => k true σ
      | false => k false σ := by kernel_rfl
theorem sb_root : (rootE (sbE (orS b1)), rootE (sbE (tl1 (orS b1)))) = (some (Str.ofString "", 1), some (Str.ofString "", 1)) := by kernel_rfl
end Mine
end
section
open PySem PySem.W PySem.Calls PyProof.Rows
namespace Mine
theorem prs_al {p : List Nat} (h : ∀ c ∈ p, inAl c = true) : ∀ c ∈ pairs p, inAl c = true := by
  intro c hc
  unfold pairs at hc
  obtain ⟨d, hd, he⟩ := List.mem_flatMap.mp hc
  have := h d hd
  split at he
  · simp at he; rcases he with rfl | rfl
    · rfl
    · exact this
  · simp at he; subst he; exact this
theorem sqz_al {p : List Nat} (h : ∀ c ∈ p, inAl c = true) : ∀ c ∈ sqz p, inAl c = true := by
  intro c hc
  unfold sqz at hc
  obtain ⟨d, hd, he⟩ := List.mem_flatMap.mp hc
  have := h d hd
  split at he
  · simp at he; rcases he with rfl | rfl | rfl | rfl | rfl <;> rfl
  · simp at he; subst he; exact this
theorem hand_al (b : Bool) {p : List Nat} (h : ∀ c ∈ p, inAl c = true) : ∀ c ∈ hand b p, inAl c = true := by
  intro c hc
  unfold hand at hc
  split at hc
  · unfold qs at hc
    simp at hc
    rcases hc with rfl | hc | rfl
    · rfl
    · exact prs_al h c hc
    · rfl
  · unfold qt at hc
    split at hc
    · simp at hc; subst hc; rfl
    · split at hc
      · exact h c hc
      · simp at hc
        rcases hc with rfl | hc | rfl
        · rfl
        · exact sqz_al h c hc
        · rfl
theorem T1_ok {X : C2} {loc : Ls} {p : List Nat} {g : Heap} {k : Bool → S2 → Prop} (hz : p.length ≤ 1000) (hal : ∀ c ∈ p, inAl c = true) (hk : ∀ g', Le g g' → k false ⟨loc, g', []⟩) : T1 X loc (ofL p) g k :=
  ⟨rfl, p, rfl, by omega, fun g1 le1 => ⟨rfl, p, rfl, by omega, hal, fun g2 le2 => ⟨fun _ => hk g2 (le1.trans le2), fun h => absurd rfl h⟩⟩⟩
theorem T2_ok {X : C2} {loc : Ls} {p : List Nat} {g : Heap} {k : Bool → S2 → Prop} (hz : p.length ≤ 1000) (hal : ∀ c ∈ p, inAl c = true) (hk : ∀ g', Le g g' → k false ⟨loc, g', []⟩) : T2 X loc (ofL p) g k := by
  have hp := pairs_len p
  have e1 : (⟨#[34]⟩ : Str) = ofL [34] := rfl
  refine ⟨rfl, p, rfl, by omega, fun g1 le1 => ⟨rfl, p, rfl, by omega, hal, fun g2 le2 => ?_⟩⟩
  rw [e1]
  refine ⟨?_, ?_, ?_⟩
  · rw [ofL_len, ofL_len]; exact Nat.le_trans (by simp; omega) (show 1000000 ≤ sizeLine by decide)
  · rw [ofL_append, ofL_len, ofL_len]; exact Nat.le_trans (by simp; omega) (show 1000000 ≤ sizeLine by decide)
  · rw [ofL_append, ofL_append]
    exact ⟨fun _ => hk g2 (le1.trans le2), fun h => absurd rfl h⟩
theorem sv_strs : ∀ {vs : List Value} {ys : List Str}, SV vs ys → StrsAre vs ys
  | [], [], _ => .nil
  | _ :: _, _ :: _, ⟨⟨k, rfl⟩, h⟩ => .cons _ _ (sv_strs h)
  | [], _ :: _, h => h.elim
  | _ :: _, [], h => h.elim
theorem al_ok {p : List Nat} (h : ∀ c ∈ p, inAl c = true) : PyData.strOk (ofL p) = true := by
  unfold PyData.strOk
  rw [← Array.all_toList, ofL_toList, List.all_eq_true]
  intro c hc
  rcases al_cases (h c hc) with rfl | rfl | rfl | rfl | rfl | rfl <;> rfl
theorem sub_e (X : C2) (e : Expr) (hr : rootE e = some (Str.ofString "", 1)) (hh : X.hint = fun _ _ => some true) (a : Addr) (i : Int) (σ : S2) (k : U → S2 → Prop) : subU X e (.ref a) (.int i) σ k = (∃ vs y t, LstIn σ a vs ∧ at_ vs i = some (.str y t) ∧ y.length ≤ sizeLine ∧ i < 2 ^ 63 ∧ -(2 ^ 63) ≤ i ∧ k (.str y) σ) := by
  unfold subU
  simp only [hr, hh]
theorem T3_ok {ws : List (List (List Nat))} {loc : Ls} {b1 b2 : Bool} {f1 f2 : Addr} {e : Expr} {p : List Nat} {g : Heap} {k : Bool → S2 → Prop} (hr : rootE e = some (Str.ofString "", 1)) (hz : p.length ≤ 1000) (hal : ∀ c ∈ p, inAl c = true)
    (h1 : ∀ q g K, q.length ≤ 100000 → (∀ c ∈ q, inAl c = true) → (∀ g', Le g g' → K (.str (ofL (hand b1 q))) g') → cL f1 [.str (ofL q)] g K) (h2 : ∀ q g K, q.length ≤ 100000 → (∀ c ∈ q, inAl c = true) → (∀ g', Le g g' → K (.str (ofL (hand b2 q))) g') → cL f2 [.str (ofL q)] g K)
    (hk : ∀ g', Le g g' → k false ⟨loc, g', []⟩) : T3 (XL ws) loc f1 f2 e (ofL p) g k := by
  have hl1 := hand_len b1 p
  have hl2 := hand_len b2 (hand b1 p)
  have a1 := hand_al b1 hal
  have a2 := hand_al b2 a1
  refine ⟨rfl, h1 p g _ (by omega) hal fun g1 le1 => ⟨rfl, h2 _ g1 _ (by omega) a1 fun g2 le2 => ⟨rfl, hand b2 (hand b1 p), 2, [hand b1 p], rfl, a2, by omega, split_one _ _ _ (by decide), fun g3 S items le3 hv hl => ?_⟩⟩⟩
  show subU (XL ws) e (.ref S) (.int 0) ⟨loc, g3, []⟩ _
  rw [sub_e (XL ws) e hr rfl]
  cases items with
  | nil => exact hv.elim
  | cons v0 r0 =>
    obtain ⟨⟨t0, rfl⟩, hr0⟩ := hv
    refine ⟨_, ofL (hand b1 p), t0, .inr hl, rfl, fit_ofL (by omega), by decide, by decide, rfl, hand b1 p, 2, [p], rfl, a1, by omega, split_one _ _ _ (by decide), fun g5 S5 it5 le5 hv5 hl5 vs hvs => ?_⟩
    obtain ⟨v, rfl, hx, t, rfl⟩ := isAllU_one hvs
    refine ⟨by show 1 ≤ sizeLine; decide, fun g6 a le6 _ hl6 => ?_⟩
    refine ⟨it5, [.str (ofL p) t], [ofL p], let ⟨o, e, r⟩ := hl5; ⟨o, le6 _ _ e, r⟩, sv_strs hv5, hl6, .cons _ _ .nil, fun y hy => ?_, hk g6 ((((le1.trans le2).trans le3).trans le5).trans le6)⟩
    simp at hy; subst hy; exact al_ok hal
end Mine
end
section
open PySem PySem.W PySem.Calls PyProof.Rows
namespace Mine
theorem sp_cps : (Str.ofString " ").cps.toList = [32] := by decide +kernel
theorem join_sp_ofL : ∀ (ls : List (List Nat)), Txt.join " " (ls.map ofL) = ofL (joinB ls) := by
  intro ls
  have key : ∀ ls : List (List Nat), (Str.join " " (ls.map ofL)).cps.toList = joinB ls := by
    intro ls
    induction ls with
    | nil => rfl
    | cons a r ih =>
      cases r with
      | nil => show (ofL a).cps.toList = _; rw [ofL_toList]; rfl
      | cons b r =>
        show (ofL a ++ " " ++ Str.join " " ((b :: r).map ofL)).cps.toList = _
        rw [Str.cps_append, Str.cps_append, Array.toList_append, Array.toList_append, ih, ofL_toList, sp_cps]
        simp [joinB]
  apply str_ext
  show (Builtin.Str.glued " " (ls.map ofL)).cps.toList = _
  rw [StrLaws.glued_eq_join, key, ofL_toList]
theorem wds_of {i : Nat} {ws : List (List (List Nat))} (h : Good i ws) (hi : i ≤ 23) : Wds ws := by
  refine ⟨by have := h.len; omega, fun v hv => ?_⟩
  obtain ⟨a, b, c⟩ := h.all v hv
  exact ⟨a, by omega, fun p hp => ⟨by have := (c p hp).1; omega, (c p hp).2⟩⟩
theorem joinB_len : ∀ {ls : List (List Nat)}, (∀ l ∈ ls, l.length ≤ 2808) → (joinB ls).length ≤ 2809 * ls.length
  | [], _ => by simp [joinB]
  | [a], h => by have := h a (.head _); simp [joinB]; omega
  | a :: b :: r, h => by
    have h1 := h a (.head _)
    have h2 := joinB_len (ls := b :: r) fun l hl => h l (.tail _ hl)
    simp only [joinB, List.length_append, List.length_cons] at h2 ⊢
    omega
theorem split_line {ws : List (List (List Nat))} (h : Wds ws) : splitN 25 (joinB (ws.map (write false))) = some (ws.map List.flatten) := by
  have := split_words (ws.map fun v => (false, v)) (by intro x hx; obtain ⟨v, hv, rfl⟩ := List.mem_map.mp hx; exact (h.2 v hv).1) 25 (by simp; have := h.1; omega)
  simpa [List.map_map, Function.comp_def] using this
end Mine
end
section
open PySem PySem.W PySem.Calls PyProof.Rows
namespace Mine
theorem law_lk : lawB.2.lookup (Str.ofString "word") = some .local := by kernel_rfl
noncomputable def loA (a W : Addr) : Ls := [("script", .ref a), ("words", .ref W)]
noncomputable def loB (a W : Addr) (x : Str) : Ls := [("script", .ref a), ("words", .ref W), ("line", .str x)]
noncomputable def loV (a W b : Addr) (x : Str) (u : U) : Ls := [("script", .ref a), ("words", .ref W), ("line", .str x), ("plain", .ref b), ("word", u)]
noncomputable def tailI : List Int := [3, 1, 2, 1, 4, 0, 3, 2, 5, 0, 1]
theorem ints_of : ∀ {us : List Int} {vs : List Value}, IsAllU (us.map U.int) vs → IntsAre vs us
  | [], [], _ => .nil
  | i :: r, v :: t, ⟨⟨k, e⟩, h⟩ => by subst e; exact .cons _ _ (ints_of h)
  | [], _ :: _, h => h.elim
  | _ :: _, [], h => h.elim
theorem ints_app {a b : List Value} {x y : List Int} (h : IntsAre a x) (h' : IntsAre b y) : IntsAre (a ++ b) (x ++ y) := by
  induction h with
  | nil => exact h'
  | cons y t _ ih => exact .cons y t ih
theorem tail_eq : tailU = tailI.map U.int := rfl
theorem flat_len {ps : List (List Nat)} (h : Pcs ps) : ps.flatten.length ≤ 552 := by
  have := flat_sum h
  have e : ((ps.map ofL).map (·.length)).sum = ps.flatten.length := by
    rw [List.length_flatten, List.map_map]
    congr 1
  omega
theorem flat_al {ps : List (List Nat)} (h : Pcs ps) : ∀ c ∈ ps.flatten, inAl c = true := by
  intro c hc
  obtain ⟨p, hp, hc⟩ := List.mem_flatten.mp hc
  exact (h.2 p hp).2 c hc
theorem write_al {ps : List (List Nat)} (h : ∀ p ∈ ps, ∀ c ∈ p, inAl c = true) : ∀ b, ∀ c ∈ write b ps, inAl c = true := by
  induction ps with
  | nil => intro b c hc; simp [write] at hc
  | cons p r ih =>
    intro b c hc
    simp only [write, List.mem_append] at hc
    rcases hc with hc | hc
    · exact hand_al b (h p (.head _)) c hc
    · exact ih (fun q hq => h q (.tail _ hq)) _ c hc
theorem joinB_al : ∀ {ls : List (List Nat)}, (∀ l ∈ ls, ∀ c ∈ l, inAl c = true) → ∀ c ∈ joinB ls, inAl c = true
  | [], _, c, hc => by simp [joinB] at hc
  | [a], h, c, hc => by simp [joinB] at hc; exact h a (.head _) c hc
  | a :: b :: r, h, c, hc => by
    simp only [joinB, List.mem_append, List.mem_cons] at hc
    rcases hc with hc | rfl | hc
    · exact h a (.head _) c hc
    · rfl
    · exact joinB_al (ls := b :: r) (fun l hl => h l (.tail _ hl)) c hc
theorem line_ok {ws : List (List (List Nat))} (h : Wds ws) : (joinB (ws.map (write false))).length ≤ 100000 ∧ ∀ c ∈ joinB (ws.map (write false)), inAl c = true := by
  refine ⟨?_, joinB_al fun l hl => ?_⟩
  · have := joinB_len (ls := ws.map (write false)) fun l hl => by obtain ⟨v, hv, rfl⟩ := List.mem_map.mp hl; exact write_len (h.2 v hv).2 false
    rw [List.length_map] at this
    have := h.1
    omega
  · obtain ⟨v, hv, rfl⟩ := List.mem_map.mp hl
    exact write_al (fun p hp => ((h.2 v hv).2.2 p hp).2) false
theorem write_sum : ∀ {ws : List (List (List Nat))}, (∀ v ∈ ws, Pcs v) → ((ws.map ((fun y : Str => y.length) ∘ fun v => ofL (write false v)))).sum ≤ 2808 * ws.length
  | [], _ => by simp
  | v :: r, hw2 => by
    have := write_sum (ws := r) (fun v hv => hw2 v (.tail _ hv))
    have q := write_len (hw2 v (.head _)) false
    simp only [List.map_cons, List.sum_cons, List.length_cons, Function.comp] at this ⊢
    have : (ofL (write false v)).length = (write false v).length := ofL_len _
    omega
section
variable {w : World} {KK : World → Frag} [KG KK] [KH KK] [KF KK] [KI KK] [KS KK] [KW KK] {g : Heap}
theorem law_turn {ws : List (List (List Nat))} {a W b : Addr} {x : Str} {p : List Nat} {g : Heap} {k : UF → S2 → Prop} (hz : p.length ≤ 1000) (hal : ∀ c ∈ p, inAl c = true) (hk : ∀ g', Le g g' → k .next ⟨loW a W b x (ofL p), g', []⟩) : (ev2 (XL ws) 39).ss lF.body ⟨loW a W b x (ofL p), g, []⟩ k := by
  rw [body_eq]
  have hs := sb_root
  simp only [Prod.mk.injEq] at hs
  show (ev2 (XL ws) 39).s b0 _ fun f σ' => _
  rw [b0_vc]
  refine T1_ok hz hal fun g1 le1 => ?_
  dsimp only
  rw [b0_or]
  refine T2_ok hz hal fun g2 le2 => ?_
  dsimp only
  show (ev2 (XL ws) 39).s b1 _ fun f σ' => _
  rw [b1_vc]
  refine T3_ok (b1 := true) (b2 := false) hs.1 hz hal (fun q g K hq _ hk => ⟨q, rfl, hq, hk⟩) (fun q g K hq ha hk => ⟨q, rfl, hq, ha, hk⟩) fun g3 le3 => ?_
  dsimp only
  rw [b1_or]
  refine T3_ok (b1 := false) (b2 := true) hs.2 hz hal (fun q g K hq ha hk => ⟨q, rfl, hq, ha, hk⟩) (fun q g K hq _ hk => ⟨q, rfl, hq, hk⟩) fun g4 le4 => ?_
  exact hk g4 (((le1.trans le2).trans le3).trans le4)

theorem law_ct {a : Addr} {vs : List Value} {ns : List Int} (hl : g.IsList a vs.toArray) (hi : IntsAre vs ns) (hz : ns.length ≤ 63) : ∀ A s fb R, okA 16 A → FrIn A fb → Sr (KK w) g fb s.heap → (∀ g' h' t', Le g g' → Sr (KK w) g' fb h' → R (.ok (.ret (.bool true))) { s with heap := h', toks := t' }) → codeAny (model prg w) A (.call (.ref 783) ⟨[.ref a], []⟩) R s := by
  have hvl : vs.length = ns.length := hi.length
  have h12 := kmk_upto (y := 12) hi (by decide)
  generalize hns : ns.take (12 : Int).toNat = n1 at h12
  have hn1 : n1.length ≤ 12 := by rw [← hns, List.length_take]; exact Nat.min_le_left _ _
  generalize hws : lw (n1 ++ tailI) = ws
  have hlen : (n1 ++ tailI).length ≤ 23 := by rw [List.length_append]; show _ + 11 ≤ 23; omega
  have hW : Wds ws := wds_of (hws ▸ lw_good (n1 ++ tailI)) hlen
  have key := enter2c (prog := prg) (w := w) (n := 15) (g := g) (args := [.ref a]) (vals := [.ref a]) (k := fun u _ => u = .bool true) (KW.f783 (KK := KK) w) ⟨rfl, trivial⟩ rfl ?_
  · intro A s fb R hA hF S hR
    refine key A s fb R hA hF (Nat.le_add_left _ _) S fun g' v h' t' ht le S' ⟨u, hu, e⟩ => ?_
    subst e
    obtain rfl : v = .bool true := hu
    exact hR g' h' t' le S'
  · intro A s fb L env hA hE hcl hF h1 R Q E hq
    have HE : Env2 env (XB lawB.2) L := ⟨hE, fun x c e => by cases e⟩
    have H : Snd2 prg w (KK w) (XL ws) fb L env 15 A := ⟨gl_of (KW.gl w), kp_of (KW.kp w), ⟨hE, fun x c e => by cases e⟩, hA, hF, cL_snd, lcO_snd HE hA hF, frP_snd HE hA hF, eqS_eq hA, eqS_ne hA⟩
    have SE := ev2_snd H 40
    rw [law_eq]
    -- words
    have vc0 : (ev2 (XL ws) 40).s (nthS 0 lawB.1) ⟨[("script", .ref a)], g, []⟩ fun f σ => f = .next ∧ ∃ W bs, σ.loc = loA a W ∧ σ.ow = [] ∧ Le g σ.g ∧ σ.g.IsList W (bs.map Value.ref).toArray ∧ InnerG σ.g bs ws := by
      rw [s0_vc]
      refine ⟨vs, .inr hl, by rw [hvl]; exact Nat.le_trans hz (by decide), ?_, fun g1 a1 le1 _ hl1 vs2 hv2 => ⟨?_, fun g2 a2 le2 _ hl2 => ⟨_, vs2, .inr (let ⟨o, e, r⟩ := hl1; ⟨o, le2 _ _ e, r⟩), .inr hl2, ?_, fun g3 a3 le3 _ hl3 => ⟨rfl, _, n1 ++ tailI, hl3, ints_app h12 (ints_of (tail_eq ▸ hv2)), by omega, fun g4 W bs le4 hW4 hI4 => ⟨rfl, W, bs, rfl, rfl, ((le1.trans le2).trans le3).trans le4, hW4, hws ▸ hI4⟩⟩⟩⟩⟩
      · rw [h12.length]; exact Nat.le_trans hn1 (by decide)
      · rw [isAllU_len hv2]; decide
      · rw [List.length_append, h12.length, isAllU_len hv2]; exact Nat.le_trans (Nat.add_le_add_right hn1 _) (by decide)
    refine wpAny_execs_cons (SE.2.2 _ _ _ vc0 s _ _ h1 R fun f bb σ h' t' ht' R' hf hk => ?_)
    obtain ⟨rfl, W, bs, e1, e2, le0, hWl, hI⟩ := hk
    obtain rfl : f = .next := hf
    obtain ⟨lo0, g0, ow0⟩ := σ
    dsimp only at e1 e2 le0 hWl hI
    subst e1
    subst e2
    -- line
    have vc1 : (ev2 (XL ws) 40).s (nthS 1 lawB.1) ⟨loA a W, g0, []⟩ fun f σ => f = .next ∧ σ.loc = loB a W (ofL (joinB (ws.map (write false)))) ∧ σ.ow = [] ∧ Le g0 σ.g := by
      rw [s1_vc]
      refine ⟨rfl, W, bs, rfl, hWl, hI, hW, fun g1 b ys le1 hb hys => ⟨ys, _, .inr hb, hys, ?_, rfl, ?_, rfl, le1⟩⟩
      · have e0 : (Str.ofString " ").length = 1 := by rw [Str.length, ← Array.length_toList, sp_cps]; rfl
        rw [e0, List.length_map, List.map_map]
        have : ((ws.map ((fun y : Str => y.length) ∘ fun v => ofL (write false v)))).sum ≤ 2808 * ws.length := write_sum fun v hv => (hW.2 v hv).2
        have := hW.1
        omega
      · have : (ws.map fun v => ofL (write false v)) = (ws.map (write false)).map ofL := by rw [List.map_map]; rfl
        rw [this, join_sp_ofL]
        rfl
    refine wpAny_execs_cons (SE.2.2 _ _ _ vc1 _ _ _ ht' R' fun f bb σ h' t' ht' R' hf hk => ?_)
    obtain ⟨rfl, e1, e2, le1⟩ := hk
    obtain rfl : f = .next := hf
    obtain ⟨lo1, g1, ow1⟩ := σ
    dsimp only at e1 e2 le1
    subst e1
    subst e2
    have hWl1 : g1.IsList W (bs.map Value.ref).toArray := let ⟨o, e, r⟩ := hWl; ⟨o, le1 _ _ e, r⟩
    have hI1 : InnerG g1 bs ws := hI.mono le1
    -- plain
    have vc2 : (ev2 (XL ws) 40).s (nthS 2 lawB.1) ⟨loB a W (ofL (joinB (ws.map (write false)))), g1, []⟩ fun f σ => f = .next ∧ ∃ b ys, σ.loc = loL a W b (ofL (joinB (ws.map (write false)))) ∧ σ.ow = [] ∧ Le g1 σ.g ∧ σ.g.IsList b (List.toArray ys) ∧ StrsAre ys (ws.map fun v => ofL v.flatten) := by
      rw [s2_vc]
      exact ⟨pl_ok, W, bs, rfl, hWl1, hI1, hW, fun g2 b ys le hb hys => ⟨rfl, b, ys, rfl, rfl, le, hb, hys⟩⟩
    refine wpAny_execs_cons (SE.2.2 _ _ _ vc2 _ _ _ ht' R' fun f bb σ h' t' ht' R' hf hk => ?_)
    obtain ⟨rfl, b, ys, e1, e2, le2, hb, hys⟩ := hk
    obtain rfl : f = .next := hf
    obtain ⟨lo2, g2, ow2⟩ := σ
    dsimp only at e1 e2 le2 hb
    subst e1
    subst e2
    generalize hr : joinB (ws.map (write false)) = r at *
    -- split(line) != plain
    have lk := line_ok hW
    rw [hr] at lk
    have sl := split_line hW
    rw [hr] at sl
    have vc3 : (ev2 (XL ws) 40).s (nthS 3 lawB.1) ⟨loL a W b (ofL r), g2, []⟩ fun f σ => f = .next ∧ σ.loc = loL a W b (ofL r) ∧ σ.ow = [] ∧ Le g2 σ.g := by
      rw [s3_vc]
      refine ⟨rfl, r, 25, ws.map List.flatten, rfl, lk.2, lk.1, sl, fun g3 S items le3 hv hS => ?_⟩
      refine ⟨items, ys, _, hS, sv_strs hv, let ⟨o, e, r⟩ := hb; ⟨o, le3 _ _ e, r⟩, by rw [List.map_map]; exact hys, fun y hy => ?_, rfl, rfl, rfl, le3⟩
      obtain ⟨q, hq, rfl⟩ := List.mem_map.mp hy
      obtain ⟨v, hv, rfl⟩ := List.mem_map.mp hq
      exact al_ok (flat_al (hW.2 v hv).2)
    refine wpAny_execs_cons (SE.2.2 _ _ _ vc3 _ _ _ ht' R' fun f bb σ h' t' ht' R' hf hk => ?_)
    obtain ⟨rfl, e1, e2, le3⟩ := hk
    obtain rfl : f = .next := hf
    obtain ⟨lo3, g3, ow3⟩ := σ
    dsimp only at e1 e2 le3
    subst e1
    subst e2
    have hb3 : g3.IsList b ys.toArray := let ⟨o, e, r⟩ := hb; ⟨o, le3 _ _ e, r⟩
    have hyl : ys.length = ws.length := by have := strsAre_toks hys; simpa using this
    -- the loop
    rw [s4_eq]
    let J : Nat → Ls → Ow → Prop := fun _ loc ow => ow = [] ∧ ∀ u, uput ("word" : Str) u loc = loV a W b (ofL r) u
    refine wpAny_execs_cons (for_gen (σ := ⟨loL a W b (ofL r), g3, []⟩) (k := fun f σ' => f = .next ∧ Le g3 σ'.g ∧ σ'.ow = []) 39 H law_lk (fun _ => rfl) J ?_ fun f bb σ' h'' t'' ht'' R'' hf hk => ?_)
    · have hn : nameU (XL ws) "plain" ⟨loL a W b (ofL r), g3, []⟩ (fun u => u = .ref b) := name_loc (by decide) law_plain rfl rfl
      refine name2 H.gl H.en R' hn fun v u hu e => ?_
      subst e
      obtain rfl : v = .ref b := hu
      have hlh : h'.IsList b ys.toArray := by
        obtain ⟨m, B, _⟩ := R'
        obtain ⟨o, e, r⟩ := hb3
        exact ⟨o, B.sr.keep _ _ e, r⟩
      refine wpAny_pyIter_list hlh ?_
      obtain ⟨R2, T⟩ := it_list (s := { s with heap := h', toks := t' }) (prog := prg) (w := w) hA.1 R' hb3 (by rw [hyl]; exact Nat.le_trans hW.1 (by decide))
      refine ⟨_, _, _, ys.length, _, _, _, t', rfl, rfl, ht', R2, T, fun b hb => ?_, ⟨rfl, fun u => rfl⟩, fun b hb q => (nomatch q), fun i h hst b hb => ?_, fun i v loc ow hi' hP hJ => ?_, fun g1 loc ow le hJ => ⟨rfl, le, hJ.1⟩⟩
      · rcases List.mem_cons.mp hb with rfl | hb
        · exact .head _
        · cases hb
      · rcases List.mem_cons.mp hb with rfl | hb
        · obtain ⟨o, e, _⟩ := hst.1; exact ⟨o, e⟩
        · rcases List.mem_cons.mp hb with rfl | hb
          · obtain ⟨o, e, _⟩ := hst.2; exact ⟨o, e⟩
          · cases hb
      · obtain ⟨j1, j2⟩ := hJ
        subst j1
        have hlt : i < ws.length := by rw [← hyl]; exact hi'
        obtain ⟨t, et⟩ := strsAre_get hys (i := i) (y := ofL (ws[i]).flatten) (by rw [List.getElem?_map, List.getElem?_eq_getElem hlt]; rfl)
        have hpc := (hW.2 ws[i] (List.getElem_mem hlt)).2
        have fl := flat_len hpc
        obtain rfl : v = .str (ofL (ws[i]).flatten) t := by
          have e : ys[i]? = some v := hP
          rw [et] at e; cases e; rfl
        refine ⟨.str (ofL (ws[i]).flatten), ⟨fit_ofL (by omega), t, rfl⟩, fun g1 le => ?_⟩
        rw [j2]
        exact law_turn (a := a) (W := W) (b := b) (x := ofL r) (by omega) (flat_al hpc) fun g' le' => ⟨le', rfl, fun u => rfl⟩
    · obtain ⟨rfl, le4, e2⟩ := hk
      obtain rfl : f = .next := hf
      obtain ⟨lo4, g4, ow4⟩ := σ'
      dsimp only at e2 le4
      subst e2
      refine ss2 SE.2.2 [nthS 5 lawB.1] _ (backU g _) ?_ _ _ _ ht'' R'' fun f b σ3 h3 t3 ht3 R3 hf hk => hq f b σ3 h3 t3 ht3 R3 hf hk
      show (ev2 (XL ws) 40).s (nthS 5 lawB.1) _ fun f σ' => _
      rw [s5_vc]
      exact ⟨(((le0.trans le1).trans le2).trans le3).trans le4, fun _ _ _ => rfl⟩
end
end Mine
end
section
open PySem PySem.W PySem.W.X PySem.Calls PyProof.Rows
namespace Mine
theorem bind3 {K : Frag} {fd : FuncData} {p q r : Str} (e : (fun v u x => rdK K 20 (bindArgs fd ⟨[v, u, x], []⟩)) = fun v u x => some [(p, v), (q, u), (r, x)]) : ∀ vals : List Value, vals.length = [p, q, r].length → rdK K 20 (bindArgs fd ⟨vals, []⟩) = some ([p, q, r].zip vals)
  | [v, u, x], _ => congrFun (congrFun (congrFun e v) u) x
  | [], h => by cases h
  | [_], h => by simp at h
  | [_, _], h => by simp at h
  | _ :: _ :: _ :: _ :: _, h => by simp at h
theorem ends_true {c : ClaimW} {cl : Str → Option Addr} {mean : ExcName → Option Value} {args : List WData} {s₁ : Shared} {h : Heap} {t : Nat}
    (D : Le s₁.heap h) (hr : ∀ cls, c.raises args cls = false) (hp : c.post args (.bool true) args = true) (hg : s₁.gens = #[]) :
    GoodWG c cl mean args s₁ (.ok (.ret (.bool true))) { s₁ with heap := h, toks := t } :=
  ⟨.inl ⟨_, _, [], rfl, hr, ReadsW.bool true, hp, fun _ => ⟨List.nodup_nil, fun _ hm => (nomatch hm)⟩⟩, OldK.of_keep D, rfl, .of_eq hg⟩
theorem law_end {H : Params → Frag} {w : World} {mg mb : Str → Option Value} {c : ClaimW} {cl : Str → Option Addr} {mean : ExcName → Option Value} {args : List WData} {s₁ : Shared} {a : Addr} {vs : List Value} {ns : List Int}
    (KX : (H w.params).In s₁.heap) (nl : s₁.heap.NoLimit) (g : s₁.heap.Ns mainGlobals mg) (b : s₁.heap.Ns builtinsNs mb) (hL : s₁.heap.IsList a vs.toArray) (hI : IntsAre vs ns) (hc : ns.length ≤ 63) (hg : s₁.gens = #[]) (hr : ∀ cls, c.raises args cls = false) (hp : c.post args (.bool true) args = true)
    (kf : KF fun w => H w.params) (kg : KG fun w => H w.params) (kh : KH fun w => H w.params) (ki : KI fun w => H w.params) (ks : KS fun w => H w.params) (kw : KW fun w => H w.params) :
    codeAny (model prg w) callerA (.call (.ref 783) ⟨[.ref a], []⟩) (GoodWG c cl mean args s₁) s₁ :=
  law_ct (w := w) (KK := fun w => H w.params) (g := s₁.heap) hL hI hc callerA s₁ [] _ ⟨rfl, by decide, by decide⟩ ⟨[], rfl, fun _ h => nomatch h⟩ ⟨KX, nl, ⟨_, g⟩, ⟨_, b⟩, Le.rfl, fun _ h => nomatch h⟩ fun g' h' t' le S' => ends_true (le.trans S'.keep) hr hp hg
end Mine
end
section
open PySem PySem.W PySem.W.X PySem.Calls PyProof.Rows
namespace Mine
theorem holds.tw13930406342236410909 : True := trivial
theorem holds.tw745502450542611697 : True := trivial
theorem holds.tw8564859838321607590 : True := trivial
theorem holds.tw14040500308302212198 : True := trivial
theorem holds.tw14374762386000251392 : True := trivial
theorem holds.tw4077311611012620791 : True := trivial
theorem holds.tw16281141667863336784 : True := trivial
theorem holds.tw298297018594106725 : True := trivial
theorem holds.tw6216033271563703469 : True := trivial
theorem holds.tw17096001632197288867 : True := trivial
theorem holds.tw12971255547343527473 : True := trivial
theorem holds.tw12337024466821633839 : True := trivial
theorem holds.tw7551591917499560916 : True := trivial
theorem holds.tw7516632072315021061 : True := trivial
theorem holds.tw11612728935029869629 : True := trivial
theorem holds.tw4905061745869718969 : True := trivial
theorem holds.tw5282283922864298156 : True := trivial
theorem holds.tw10973056549479156102 : True := trivial
theorem holds.tw9638990691586225099 : True := trivial
theorem holds.tw8102643725754146565 : True := trivial
theorem holds.tw11341941285841758863 : True := trivial
theorem holds.tw10894570999934473159 : True := trivial
theorem holds.tw9143120035062812437 : True := trivial
theorem holds.tw2160012875989923789 : True := trivial
theorem holds.tw4252685499439207924 : True := trivial
theorem holds.tw4753448620645791293 : True := trivial
theorem holds.tw5350216910946226995 : True := trivial
theorem holds.tw5619803957841784048 : True := trivial
theorem holds.tw11502601298335438083 : True := trivial
theorem holds.tw6735552807121987811 : True := trivial
theorem holds.tw7365562674294520451 : True := trivial
theorem holds.tw15659084048362614264 : True := trivial
theorem holds.tw16141144775947785660 : True := trivial
theorem holds.tw2167384251425162797 : True := trivial
theorem holds.tw12762722769849151566 : True := trivial
theorem holds.tw15462992800728643659 : True := trivial
theorem holds.tw10061326939861387809 : True := trivial
theorem holds.tw2277698456845511444 : True := trivial
theorem holds.tw6323047411617294506 : True := trivial
theorem holds.tw12808162357026388105 : True := trivial
theorem holds.tw4717937361131159733 : True := trivial
theorem holds.tw8943767207682116370 : True := trivial
theorem holds.tw9441326970708011783 : True := trivial
theorem holds.tw10824115321126796680 : True := trivial
theorem holds.tw4624323801304008105 : True := trivial
theorem holds.tw8868445881999480663 : True := trivial
theorem holds.tw5031978486770369989 : True := trivial
theorem holds.tw8393340031374782525 : True := trivial
theorem holds.tw5078402968320093544 : True := trivial
theorem holds.tw10698829266838348154 : True := trivial
theorem holds.tw14083834280242248106 : True := trivial
theorem holds.tw12467034654032377186 : True := trivial
theorem holds.tw1382383790286775375 : True := trivial
theorem holds.tw5857869478962280401 : True := trivial
theorem holds.tw15493915963290111440 : True := trivial
theorem holds.tw17779774989671706653 : True := trivial
theorem holds.tw10280545108713110612 : True := trivial
theorem holds.tw12633084752571091873 : True := trivial
theorem holds.tw5323918697378788693 : True := trivial
theorem holds.tw5878047611234877577 : True := trivial
theorem holds.tw11379536335273661636 : True := trivial
theorem holds.tw5498966250228494579 : True := trivial
theorem holds.tw12657093848384798476 : True := trivial
theorem holds.tw4485590747672999114 : True := trivial
theorem holds.tw6817751937963910627 : True := trivial
theorem holds.tw8115153917610635543 : True := trivial
theorem holds.tw3280128972450656526 : True := trivial
theorem holds.tw14456359579513077766 : True := trivial
theorem holds.tw4583756282420477746 : True := trivial
theorem holds.tw2936799095737714382 : True := trivial
theorem holds.tw10637851664137882224 : True := trivial
theorem holds.tw15228004617427520810 : True := trivial
theorem holds.tw3969078344035082030 : True := trivial
theorem holds.tw8324913547053779211 : True := trivial
theorem holds.tw15356600547250028879 : True := trivial
theorem holds.tw15860451898659625231 : True := trivial
theorem holds.tw13860560629476652642 : True := trivial
theorem holds.tw707885073954110949 : True := trivial
theorem holds.tw9458989268892848673 : True := trivial
theorem holds.tw6166532556598395850 : True := trivial
theorem holds.tw13651502964188933756 : True := trivial
theorem holds.tw15654153127513851752 : True := trivial
theorem holds.tw7122917452565745793 : True := trivial
theorem holds.tw16049930973857864354 : True := trivial
theorem holds.tw8323465864499181419 : True := trivial
theorem holds.tw1092734292537931370 : True := trivial
theorem holds.tw9321796208036801940 : True := trivial
theorem holds.tw3092724735428445279 : True := trivial
theorem holds.tw8868040359437915812 : True := trivial
theorem holds.tw12461706298059298081 : True := trivial
theorem holds.tw9318793605801568170 : True := trivial
theorem holds.tw6606875086121380550 : True := trivial
theorem holds.tw9518972631687950247 : True := trivial
theorem holds.tw17450472940649059298 : True := trivial
theorem holds.tw8944343764007091065 : True := trivial
theorem holds.tw1508545211966159021 : True := trivial
theorem holds.tw6460966521098074893 : True := trivial
theorem holds.tw13416111870119765123 : True := trivial
theorem holds.tw6424660084863691381 : True := trivial
theorem holds.tw14691085348537605332 : True := trivial
theorem holds.tw14062913937729191461 : True := trivial
theorem holds.tw13384883100587833847 : True := trivial
theorem holds.tw5225467491883748592 : True := trivial
theorem holds.tw9816476011544392670 : True := trivial
theorem holds.tw15203487316939043196 : True := trivial
theorem holds.tw142377125942736700 : True := trivial
theorem holds.tw7885888744534978006 : True := trivial
theorem holds.tw10705761992013847755 : True := trivial
theorem holds.tw17549760099613038055 : True := trivial
theorem holds.tw11569915684508697678 : True := trivial
theorem holds.tw1876284267304334591 : True := trivial
theorem holds.tw16725066886706607050 : True := trivial
theorem holds.tw15898015905275598053 : True := trivial
theorem holds.tw9157471666820141079 : True := trivial
theorem holds.tw7350330377624401328 : True := trivial
theorem holds.tw8903297777125119442 : True := trivial
theorem holds.tw7798976556582896058 : True := trivial
theorem holds.tw5531990279233569197 : True := trivial
theorem holds.tw9160933379109621080 : True := trivial
theorem holds.tw13334661261001831826 : True := trivial
theorem holds.tw17500814259130102135 : True := trivial
theorem holds.tw15043986215568586124 : True := trivial
theorem holds.tw15580662879708500073 : True := trivial
theorem holds.tw8070350036930755802 : True := trivial
theorem holds.tw4475622257904601326 : True := trivial
theorem holds.tw16898140867199733807 : True := trivial
theorem holds.tw6614922617581281305 : True := trivial
theorem holds.tw10828986214106111531 : True := trivial
theorem holds.tw2667925813562934949 : True := trivial
theorem holds.tw12774209864397607762 : True := trivial
theorem holds.tw9855210162650666830 : True := trivial
theorem holds.tw16497969686579978388 : True := trivial
theorem holds.tw9866653766423218390 : True := trivial
theorem holds.tw3093010850272755244 : True := trivial
theorem holds.tw12160635655254385198 : True := trivial
theorem holds.tw5588498093969417903 : True := trivial
theorem holds.tw15383290158734973844 : True := trivial
theorem holds.tw17822619038779606285 : True := trivial
theorem holds.tw2929439407932294337 : True := trivial
theorem holds.tw15573729904360925794 : True := trivial
theorem holds.tw12785930949177819822 : True := trivial
theorem holds.tw63030109126827207 : True := trivial
theorem holds.tw1974762919298152056 : True := trivial
theorem holds.tw3579776383272448420 : True := trivial
theorem holds.tw17647985033660283594 : True := trivial
theorem holds.tw17856180979147524769 : True := trivial
theorem holds.tw1389151227800987198 : True := trivial
theorem holds.tw13563289320671947111 : True := trivial
theorem holds.tw154871700347349385 : True := trivial
theorem holds.tw10645105620128953169 : True := trivial
theorem holds.tw14205006904943715905 : True := trivial
theorem holds.tw13002855754428957212 : True := trivial
theorem holds.tw6099975724469302500 : True := trivial
theorem holds.tw16887932952891968693 : True := trivial
theorem holds.tw3101148707280403237 : True := trivial
theorem holds.tw3081346186701454755 : True := trivial
theorem holds.tw11619669790576578751 : True := trivial
theorem holds.tw17180457848445815676 : True := trivial
theorem holds.tw2395109189467087578 : True := trivial
theorem holds.tw17631178891982236634 : True := trivial
theorem holds.tw17858152450515298520 : True := trivial
theorem holds.tw4043779546988386903 : True := trivial
theorem holds.tw187104208977503339 : True := trivial
theorem holds.tw9188266559522036927 : True := trivial
theorem holds.tw4659233104850659043 : True := trivial
theorem holds.tw14411328915609312922 : True := trivial
theorem holds.tw3937267528351423324 : True := trivial
theorem holds.tw1569810199879761147 : True := trivial
theorem holds.tw13945929957867325323 : True := trivial
theorem holds.tw6545324650690627985 : True := trivial
theorem holds.tw1095465085569150570 : True := trivial
theorem holds.tw2041457743892144894 : True := trivial
theorem holds.tw12354433232887552844 : True := trivial
theorem holds.tw4796666493748621973 : True := trivial
theorem holds.tw11566098377363298415 : True := trivial
theorem holds.tw576298715544257586 : True := trivial
theorem holds.tw13208604148985916543 : True := trivial
theorem holds.tw11775407622660791982 : True := trivial
theorem holds.tw11111472982789046935 : True := trivial
theorem holds.tw15733542881966949079 : True := trivial
theorem holds.tw4532548537324856634 : True := trivial
theorem holds.tw6896159741398044905 : True := trivial
theorem holds.tw5015485144833937494 : True := trivial
theorem holds.tw14314133134477209284 : True := trivial
theorem holds.tw7145057240379410032 : True := trivial
theorem holds.tw14856189802965030758 : True := trivial
theorem holds.tw11750193621415288269 : True := trivial
theorem holds.tw12698916279152862973 : True := trivial
theorem holds.tw7944191787301449481 : True := trivial
theorem holds.tw10520202591518659360 : True := trivial
theorem holds.tw6396523623945614605 : True := trivial
theorem holds.tw10859938921441162988 : True := trivial
theorem holds.tw14786066558164337950 : True := trivial
theorem holds.tw5932082505621288647 : True := trivial
theorem holds.tw12528141070781557109 : True := trivial
theorem holds.tw4952593789767209597 : True := trivial
theorem holds.tw13602253286356535353 : True := trivial
theorem holds.tw10595842591828190984 : True := trivial
theorem holds.tw8827755016177155863 : True := trivial
theorem holds.tw15785218014132313688 : True := trivial
theorem holds.tw14341210406198164329 : True := trivial
theorem holds.tw14012497318314112844 : True := trivial
theorem holds.tw16451975095625300501 : True := trivial
theorem holds.tw2003794701753356343 : True := trivial
theorem holds.tw17642598502550569490 : True := trivial
theorem holds.tw6674158366018852832 : True := trivial
theorem holds.tw15464432741802594518 : True := trivial
theorem holds.tw10531532615022067580 : True := trivial
theorem holds.tw17254660705983429885 : True := trivial
theorem holds.tw10705619171732726748 : True := trivial
theorem holds.tw13341946137322399123 : True := trivial
theorem holds.tw5747684920607356772 : True := trivial
theorem holds.tw14404905868111484630 : True := trivial
theorem holds.tw2781561513384061212 : True := trivial
theorem holds.tw3811385743445658432 : True := trivial
theorem holds.tw15814798929938293467 : True := trivial
theorem holds.tw1213666046027356511 : True := trivial
theorem holds.tw14432740918813763817 : True := trivial
theorem holds.tw5082999880386992228 : True := trivial
theorem holds.tw9370115536473471133 : True := trivial
theorem holds.tw8789113547377566482 : True := trivial
theorem holds.tw14085268106739128817 : True := trivial
theorem holds.tw15305512045591798990 : True := trivial
theorem holds.tw12056596633878991817 : True := trivial
theorem holds.tw5857794014393010482 : True := trivial
theorem holds.tw12733908048491186811 : True := trivial
theorem holds.tw10587580826675096554 : True := trivial
theorem holds.tw5959074840488112208 : True := trivial
theorem holds.tw5295917329084666069 : True := trivial
theorem holds.tw15296638952792297585 : True := trivial
theorem holds.tw3083665863380995925 : True := trivial
theorem holds.tw17597196502641442581 : True := trivial
theorem holds.tw11223116819087169764 : True := trivial
theorem holds.tw14438757958421221462 : True := trivial
theorem holds.tw9430090754398894584 : True := trivial
theorem holds.tw10240100896771907615 : True := trivial
theorem holds.tw18173914834931495973 : True := trivial
theorem holds.tw2682973687022302978 : True := trivial
theorem holds.tw11450275943994455990 : True := trivial
theorem holds.tw6159885450047824267 : True := trivial
theorem holds.tw6489310206099298910 : True := trivial
theorem holds.tw7442186320969616419 : True := trivial
theorem holds.tw1639197193820686003 : True := trivial
theorem holds.tw11968577826497805164 : True := trivial
theorem holds.tw4079574721724423606 : True := trivial
theorem holds.tw1032644102275906610 : True := trivial
theorem holds.tw13150661809386230508 : True := trivial
theorem holds.tw2084331650109322480 : True := trivial
theorem holds.tw8143335708233088440 : True := trivial
theorem holds.tw960582308587345451 : True := trivial
theorem holds.tw4065146272016792997 : True := trivial
theorem holds.tw341249449185904685 : True := trivial
theorem holds.tw12306811582311103309 : True := trivial
theorem holds.tw949623864930693503 : True := trivial
theorem holds.tw3378624336152846145 : True := trivial
theorem holds.tw8571184235532366510 : True := trivial
theorem holds.tw4197124852483764760 : True := trivial
theorem holds.tw16239030619513480838 : True := trivial
theorem holds.tw5274829272982666545 : True := trivial
theorem holds.tw4046193847619289583 : True := trivial
theorem holds.tw11311999394344832113 : True := trivial
theorem holds.tw11822188140940861840 : True := trivial
theorem holds.tw13758948915013449397 : True := trivial
theorem holds.tw7129523546110730894 : True := trivial
theorem holds.tw14977296931134136204 : True := trivial
theorem holds.tw1316056555746827224 : True := trivial
theorem holds.tw13942211991455542721 : True := trivial
theorem holds.tw13370180491053348 : True := trivial
theorem holds.tw14642846902033847964 : True := trivial
theorem holds.tw1446027475299390936 : True := trivial
theorem holds.tw4381757428849502282 : True := trivial
theorem holds.tw17294395744611713098 : True := trivial
theorem holds.tw17551835440721493442 : True := trivial
theorem holds.tw9327718836232418737 : True := trivial
theorem holds.tw16315053957116525436 : True := trivial
theorem holds.tw9245723823536211039 : True := trivial
theorem holds.tw759334954848157859 : True := trivial
theorem holds.tw9250495785965993271 : True := trivial
theorem holds.tw16740147826971877517 : True := trivial
theorem holds.tw4954732016240277505 : True := trivial
theorem holds.tw15663057623668237757 : True := trivial
theorem holds.tw3626213265524300766 : True := trivial
theorem holds.tw16260029586006496120 : True := trivial
theorem holds.tw1552857426587298226 : True := trivial
theorem holds.tw3117193011312037209 : True := trivial
theorem holds.tw4496467784121089108 : True := trivial
theorem holds.tw14054693376921006050 : True := trivial
theorem holds.tw1833173380454153921 : True := trivial
theorem holds.tw14777700561071354170 : True := trivial
theorem holds.tw18224010420261798391 : True := trivial
theorem holds.tw1882270145967814011 : True := trivial
theorem holds.tw13676757877788619591 : True := trivial
theorem holds.tw18145382148040430673 : True := trivial
theorem holds.tw16568243084613897719 : True := trivial
theorem holds.tw9408521175777228426 : True := trivial
theorem holds.tw10953125311028157021 : True := trivial
theorem holds.tw14786868411472786527 : True := trivial
theorem holds.tw16697607604324151607 : True := trivial
theorem holds.tw13306226422529918579 : True := trivial
theorem holds.tw16939745714101447976 : True := trivial
theorem holds.tw3381435865837020940 : True := trivial
theorem holds.tw10853043219271619230 : True := trivial
theorem holds.tw1357463484097335404 : True := trivial
theorem holds.tw10238092577321643331 : True := trivial
theorem holds.tw6816380694822836728 : True := trivial
theorem holds.tw5099458221760260784 : True := trivial
theorem holds.tw9140063382869304120 : True := trivial
theorem holds.tw244668840739839672 : True := trivial
theorem holds.tw14149781006570564392 : True := trivial
theorem holds.tw17476224472650253806 : True := trivial
theorem holds.tw4921510776622977656 : True := trivial
theorem holds.tw6654929391614583909 : True := trivial
theorem holds.tw8163853742193369449 : True := trivial
theorem holds.tw945861476033566700 : True := trivial
theorem holds.tw7366336091430424897 : True := trivial
theorem holds.tw14747351113905286367 : True := trivial
theorem holds.tw4374827463496512255 : True := trivial
theorem holds.tw3339025504875072537 : True := trivial
theorem holds.tw5252246860307943348 : True := trivial
theorem holds.tw10576265454180977796 : True := trivial
theorem holds.tw12468101337765408714 : True := trivial
theorem holds.tw2963349702327202441 : True := trivial
theorem holds.tw685634667276709000 : True := trivial
theorem holds.tw1477864382951527211 : True := trivial
theorem holds.tw13338651292558784369 : True := trivial
theorem holds.tw4529002996912422141 : True := trivial
theorem holds.tw7991519602905016326 : True := trivial
theorem holds.tw4772410448533662562 : True := trivial
theorem holds.tw5112738896828158680 : True := trivial
theorem holds.tw151567797773009622 : True := trivial
theorem holds.tw8413133151647880539 : True := trivial
theorem holds.tw3906943341852370832 : True := trivial
theorem holds.tw5599412692616142259 : True := trivial
theorem holds.tw17148229171239856432 : True := trivial
theorem holds.tw4132201380793018340 : True := trivial
theorem holds.tw185807328385624810 : True := trivial
theorem holds.tw13200177327426563521 : True := trivial
theorem holds.tw16307742377514257941 : True := trivial
theorem holds.tw6278366128872770721 : True := trivial
theorem holds.tw2422663375537807432 : True := trivial
theorem holds.tw8218819101457601776 : True := trivial
theorem holds.tw17094759248423572775 : True := trivial
theorem holds.tw13130249910395747862 : True := trivial
theorem holds.tw4702539438339769474 : True := trivial
theorem holds.tw8684541073956307770 : True := trivial
theorem holds.tw4998001990490953706 : True := trivial
theorem holds.tw2661161477798328453 : True := trivial
theorem holds.tw16034146489351607153 : True := trivial
theorem holds.tw8778671856527934898 : True := trivial
theorem holds.tw820627826665183454 : True := trivial
theorem holds.tw12941468149822085856 : True := trivial
theorem holds.tw12542415522573167287 : True := trivial
theorem holds.tw6330134614895140133 : True := trivial
theorem holds.tw9367411864662104596 : True := trivial
theorem holds.tw11210861575573996130 : True := trivial
theorem holds.tw1672651397029140864 : True := trivial
theorem holds.tw2490583276235294983 : True := trivial
theorem holds.tw16569799976186059295 : True := trivial
theorem holds.tw7058599786907716777 : True := trivial
theorem holds.tw9232459349045140238 : True := trivial
theorem holds.tw9486143321106344294 : True := trivial
theorem holds.tw4381346726385406224 : True := trivial
theorem holds.tw11413208387583891290 : True := trivial
theorem holds.tw12563481999192008768 : True := trivial
theorem holds.tw10274680400919065884 : True := trivial
theorem holds.tw8006095370074002437 : True := trivial
theorem holds.tw13356387430892511905 : True := trivial
theorem holds.tw7258431392514884226 : True := trivial
theorem holds.tw12540800736699631050 : True := trivial
theorem holds.tw13222035019132090745 : True := trivial
theorem holds.tw15326264675407861456 : True := trivial
theorem holds.tw10447927361281507451 : True := trivial
theorem holds.tw16532224993992427823 : True := trivial
theorem holds.tw9260842090827677427 : True := trivial
theorem holds.tw8253004272172430988 : True := trivial
theorem holds.tw1692041494862269998 : True := trivial
theorem holds.tw9930548314228155742 : True := trivial
theorem holds.tw13108245259352980691 : True := trivial
theorem holds.tw14387954076880322906 : True := trivial
theorem holds.tw2451063411067222376 : True := trivial
theorem holds.tw10677865647760817919 : True := trivial
theorem holds.tw8035951141280138642 : True := trivial
theorem holds.tw15421342739227911939 : True := trivial
theorem holds.tw9784731065822230439 : True := trivial
theorem holds.tw14947864908287233490 : True := trivial
theorem holds.tw4422276619278600727 : True := trivial
theorem holds.tw2156681307112010326 : True := trivial
theorem holds.tw15942494369296127945 : True := trivial
theorem holds.tw11021402016762074336 : True := trivial
theorem holds.tw5763553328388235881 : True := trivial
theorem holds.tw5791938023122869331 : True := trivial
theorem holds.tw11319453509113102234 : True := trivial
theorem holds.tw9072656965561520583 : True := trivial
theorem holds.tw13926404443759844560 : True := trivial
theorem holds.tw10009309266167291388 : True := trivial
theorem holds.tw303617358959260456 : True := trivial
theorem holds.tw5471403574791894133 : True := trivial
theorem holds.tw10726778698580467152 : True := trivial
theorem holds.tw99148262030102190 : True := trivial
theorem holds.tw2296293446034493066 : True := trivial
theorem holds.tw10981351503976158137 : True := trivial
theorem holds.tw9107170298555381705 : True := trivial
theorem holds.tw12870647732520690006 : True := trivial
theorem holds.tw16478504620199068264 : True := trivial
theorem holds.tw10491065262344570346 : True := trivial
theorem holds.tw9732041140710341944 : True := trivial
theorem holds.tw14571696787620697854 : True := trivial
theorem holds.tw10292701021901942622 : True := trivial
theorem holds.tw4636335402390110268 : True := trivial
theorem holds.tw2562329033357795767 : True := trivial
theorem holds.tw7877780744568003191 : True := trivial
theorem holds.tw2720468260678641542 : True := trivial
theorem holds.tw8664812251140827045 : True := trivial
theorem holds.tw14607219995997415800 : True := trivial
theorem holds.tw11037822914523747621 : True := trivial
theorem holds.tw17417429595627488627 : True := trivial
theorem holds.tw4302478151189881795 : True := trivial
theorem holds.tw14271935136423247726 : True := trivial
theorem holds.tw8351548024695214574 : True := trivial
theorem holds.tw5887078386916838634 : True := trivial
theorem holds.tw96072713605637463 : True := trivial
theorem holds.tw7221694943082674061 : True := trivial
theorem holds.tw10066566674380323332 : True := trivial
theorem holds.tw7840918076549728228 : True := trivial
theorem holds.tw16796854770986717008 : True := trivial
theorem holds.tw2395783193375807797 : True := trivial
theorem holds.tw7791430327242384495 : True := trivial
theorem holds.tw4695128735345963622 : True := trivial
theorem holds.tw10840139340582571922 : True := trivial
theorem holds.tw18078616723997116376 : True := trivial
theorem holds.tw11040456503202229835 : True := trivial
theorem holds.tw4397353207691548035 : True := trivial
theorem holds.tw12091882185175152326 : True := trivial
theorem holds.tw11866763835798034582 : True := trivial
theorem holds.tw18202751451028033538 : True := trivial
theorem holds.tw3393808461323943489 : True := trivial
theorem holds.tw5016061194280584464 : True := trivial
theorem holds.tw11899092608841805274 : True := trivial
theorem holds.tw18193256452927958525 : True := trivial
theorem holds.tw16500857126356320474 : True := trivial
theorem holds.tw14027143162585244968 : True := trivial
theorem holds.tw13757568721421367004 : True := trivial
theorem holds.tw14635519672683665818 : True := trivial
theorem holds.tw11818566221774970091 : True := trivial
theorem holds.tw15815842588268232306 : True := trivial
theorem holds.tw13219762378693318442 : True := trivial
theorem holds.tw6027180799015181879 : True := trivial
theorem holds.tw17027350548333183925 : True := trivial
theorem holds.tw3930379177928381544 : True := trivial
theorem holds.tw9309047703646887916 : True := trivial
theorem holds.tw12947342387834907416 : True := trivial
theorem holds.tw17714467908841036005 : True := trivial
theorem holds.tw6871585250140865760 : True := trivial
theorem holds.tw2976685253332725484 : True := trivial
theorem holds.tw5981487413272766262 : True := trivial
theorem holds.tw15773771547523477324 : True := trivial
theorem holds.tw5898628582698610718 : True := trivial
theorem holds.tw5565848844497943877 : True := trivial
theorem holds.tw11568272619759294016 : True := trivial
theorem holds.tw143733397751180983 : True := trivial
theorem holds.tw13899955331829678731 : True := trivial
theorem holds.tw915018914566706432 : True := trivial
theorem holds.tw7548614866355832645 : True := trivial
theorem holds.tw16617498834693519143 : True := trivial
theorem holds.tw9039863090174473464 : True := trivial
theorem holds.tw16955119412671694080 : True := trivial
theorem holds.tw7033360832409044607 : True := trivial
theorem holds.tw10634055019105834221 : True := trivial
theorem holds.tw2406459529592591507 : True := trivial
theorem holds.tw3522650409621224377 : True := trivial
theorem holds.tw7794074229983474189 : True := trivial
theorem holds.tw12929723366055764138 : True := trivial
theorem holds.tw6987649320729488474 : True := trivial
theorem holds.tw1118671588950128205 : True := trivial
theorem holds.tw12095597400677081514 : True := trivial
theorem holds.tw5006882278849481289 : True := trivial
theorem holds.tw14083959995102712966 : True := trivial
theorem holds.tw12004910477815969792 : True := trivial
theorem holds.tw6305404595935261976 : True := trivial
theorem holds.tw15477653585598255317 : True := trivial
theorem holds.tw1714096750540956960 : True := trivial
theorem holds.tw7154447938429058438 : True := trivial
theorem holds.tw1272921112123746405 : True := trivial
theorem holds.tw6118206324766035986 : True := trivial
theorem holds.tw9572302147950961757 : True := trivial
theorem holds.tw11937027079205856637 : True := trivial
theorem holds.tw16139409775219458943 : True := trivial
theorem holds.tw5923573193019433623 : True := trivial
theorem holds.tw16762735861678686087 : True := trivial
theorem holds.tw7459122314025714673 : True := trivial
theorem holds.tw11896979934692212325 : True := trivial
theorem holds.tw16286308178466712102 : True := trivial
theorem holds.tw5768289875352899849 : True := trivial
theorem holds.tw5948040445239067262 : True := trivial
theorem holds.tw3834328006691320696 : True := trivial
theorem holds.tw17629714610472425511 : True := trivial
theorem holds.tw2585008018627690749 : True := trivial
theorem holds.tw15919173128261314395 : True := trivial
theorem holds.tw2511256036297951264 : True := trivial
theorem holds.tw10843207457187830352 : True := trivial
theorem holds.tw8087273147054526846 : True := trivial
theorem holds.tw17274456146704370614 : True := trivial
theorem holds.tw12008902284401382014 : True := trivial
theorem holds.tw7235909688915465346 : True := trivial
theorem holds.tw1621136399060944247 : True := trivial
theorem holds.tw17076291190057227869 : True := trivial
theorem holds.tw15987345220168432620 : True := trivial
theorem holds.tw17144610094948777349 : True := trivial
theorem holds.tw15136828946037461428 : True := trivial
theorem holds.tw6072511530176384962 : True := trivial
theorem holds.tw9878063783549791415 : True := trivial
theorem holds.tw10679687220464918932 : True := trivial
theorem holds.tw4320952357017371039 : True := trivial
theorem holds.tw5990180441110522300 : True := trivial
theorem holds.tw11647182259668861994 : True := trivial
theorem holds.tw2980642449514264586 : True := trivial
theorem holds.tw9712817358965380444 : True := trivial
theorem holds.tw4837283352154931363 : True := trivial
theorem holds.tw4286360187039589740 : True := trivial
theorem holds.tw2180479604254433311 : True := trivial
theorem holds.tw12322914241283428633 : True := trivial
theorem holds.tw12098404996450287289 : True := trivial
theorem holds.tw11408340709373832527 : True := trivial
theorem holds.tw8454650750101055009 : True := trivial
theorem holds.tw1180276462324527112 : True := trivial
theorem holds.tw17129278960223170533 : True := trivial
theorem holds.tw98196739984318054 : True := trivial
theorem holds.tw1211747854080251252 : True := trivial
theorem holds.tw4989695622661515502 : True := trivial
theorem holds.tw5046306585264764695 : True := trivial
theorem holds.tw12370703938092414502 : True := trivial
theorem holds.tw11759793716441912868 : True := trivial
theorem holds.tw3521771025164786240 : True := trivial
theorem holds.tw10028576996824322293 : True := trivial
theorem holds.tw18374689057720224539 : True := trivial
theorem holds.tw9114018109745100730 : True := trivial
theorem holds.tw11394987932868277362 : True := trivial
theorem holds.tw15027879205694222834 : True := trivial
theorem holds.tw3964553439336064567 : True := trivial
theorem holds.tw5259053182002985842 : True := trivial
theorem holds.tw14375228850674640113 : True := trivial
theorem holds.tw4700713122064472571 : True := trivial
theorem holds.tw7119377499074729706 : True := trivial
theorem holds.tw12039203186867382747 : True := trivial
theorem holds.tw8403075241119356948 : True := trivial
theorem holds.tw8365977135183407358 : True := trivial
theorem holds.tw18263738317455877889 : True := trivial
theorem holds.tw14263331781698699780 : True := trivial
theorem holds.tw138917058343750897 : True := trivial
theorem holds.tw8583004682187828996 : True := trivial
theorem holds.tw3349518531870832243 : True := trivial
theorem holds.tw4698078265318845332 : True := trivial
theorem holds.tw1906216828905148153 : True := trivial
theorem holds.tw14545006242359850397 : True := trivial
theorem holds.tw3050561863661609479 : True := trivial
theorem holds.tw2448847960820234738 : True := trivial
theorem holds.tw6234259597661685125 : True := trivial
theorem holds.tw9462340624215136286 : True := trivial
theorem holds.tw10807475332292939257 : True := trivial
theorem holds.tw12584058235822683084 : True := trivial
theorem holds.tw17305823854243098232 : True := trivial
theorem holds.tw7398177500901678427 : True := trivial
theorem holds.tw5020977762268055686 : True := trivial
theorem holds.tw9890372494799421562 : True := trivial
theorem holds.tw16900590462404453081 : True := trivial
theorem holds.tw7943873644019274615 : True := trivial
theorem holds.tw17560821836578072369 : True := trivial
theorem holds.tw7998808928282977731 : True := trivial
theorem holds.tw16682935309838494251 : True := trivial
theorem holds.tw17301085495529702629 : True := trivial
theorem holds.tw3914980098763439061 : True := trivial
theorem holds.tw7118747031804142146 : True := trivial
theorem holds.tw1745271027643805418 : True := trivial
theorem holds.tw17516818768086975123 : True := trivial
theorem holds.tw18148179280279774915 : True := trivial
theorem holds.tw13934561362821362623 : True := trivial
theorem holds.tw1357696155403014326 : True := trivial
theorem holds.tw14145908162538725807 : True := trivial
theorem holds.tw2823412116039181319 : True := trivial
theorem holds.tw11284957654470035344 : True := trivial
theorem holds.tw3937861406571306486 : True := trivial
theorem holds.tw11378972443561828832 : True := trivial
theorem holds.tw9541374612494854641 : True := trivial
theorem holds.tw16920389981729717209 : True := trivial
theorem holds.tw628499413542001115 : True := trivial
theorem holds.tw9204624228502610083 : True := trivial
theorem holds.tw18366657443248667141 : True := trivial
theorem holds.tw15653146226815964750 : True := trivial
theorem holds.tw11252122248351282842 : True := trivial
theorem holds.tw1085116229181452980 : True := trivial
theorem holds.tw7960950308347656791 : True := trivial
theorem holds.tw13069951337775981229 : True := trivial
theorem holds.tw6786515118028813453 : True := trivial
theorem holds.tw18119562065370568691 : True := trivial
theorem holds.tw4990343992934813274 : True := trivial
theorem holds.tw14638587884836417943 : True := trivial
theorem holds.tw8370971151990252235 : True := trivial
theorem holds.tw6549915499844065949 : True := trivial
theorem holds.tw3765845486045053717 : True := trivial
theorem holds.tw15762835226273150572 : True := trivial
theorem holds.tw16438637452659292861 : True := trivial
theorem holds.tw4018041982718015684 : True := trivial
theorem holds.tw2090353487450580582 : True := trivial
theorem holds.tw5964785641998049897 : True := trivial
theorem holds.tw4157549862880800291 : True := trivial
theorem holds.tw8754180013910929173 : True := trivial
theorem holds.tw249549322783861432 : True := trivial
theorem holds.tw6987646167637998250 : True := trivial
theorem holds.tw17177450906650391178 : True := trivial
theorem holds.tw10540872416556608339 : True := trivial
theorem holds.tw4057953776094532316 : True := trivial
theorem holds.tw16275521931939539341 : True := trivial
theorem holds.tw7454310139219270035 : True := trivial
theorem holds.tw2693575011054576931 : True := trivial
theorem holds.tw8186637812631136355 : True := trivial
theorem holds.tw3912065897935574273 : True := trivial
theorem holds.tw6417658556168297412 : True := trivial
theorem holds.tw16338696359196860668 : True := trivial
theorem holds.tw10255086910947774711 : True := trivial
theorem holds.tw13606275585875862381 : True := trivial
theorem holds.tw8764645870556796587 : True := trivial
theorem holds.tw5300967816669126424 : True := trivial
theorem holds.tw17973240255108071979 : True := trivial
theorem holds.tw9870243511197969610 : True := trivial
theorem holds.tw2835070418663256649 : True := trivial
theorem holds.tw9573620641467853373 : True := trivial
theorem holds.tw17751544043737166181 : True := trivial
theorem holds.tw8995863869359571168 : True := trivial
theorem holds.tw2045681113551912190 : True := trivial
theorem holds.tw16509688237979914955 : True := trivial
theorem holds.tw8336353537208430648 : True := trivial
theorem holds.tw1859933618095552875 : True := trivial
theorem holds.tw17988741175759917587 : True := trivial
theorem holds.tw8276148420849259419 : True := trivial
theorem holds.tw6852311561904566080 : True := trivial
theorem holds.tw11251396491423821662 : True := trivial
theorem holds.tw722385531181317529 : True := trivial
theorem holds.tw9825822386377846996 : True := trivial
theorem holds.tw3886397583452890388 : True := trivial
theorem holds.tw3184581556216392744 : True := trivial
theorem holds.tw2669110664802000394 : True := trivial
theorem holds.tw2170955613840884034 : True := trivial
theorem holds.tw7255143783654795107 : True := trivial
theorem holds.tw14521024918404927360 : True := trivial
theorem holds.tw15433894429930974654 : True := trivial
theorem holds.tw13526204058760582534 : True := trivial
theorem holds.tw3594228041056560270 : True := trivial
theorem holds.tw15395134090581100920 : True := trivial
theorem holds.tw15044018224587446200 : True := trivial
theorem holds.tw14146095236536434788 : True := trivial
theorem holds.tw17410980318550716163 : True := trivial
theorem holds.tw6077952519532572301 : True := trivial
theorem holds.tw15172879773585053777 : True := trivial
theorem holds.tw13060694101666355058 : True := trivial
theorem holds.tw244612440521699123 : True := trivial
theorem holds.tw10846422607668537096 : True := trivial
theorem holds.tw7882509031788189477 : True := trivial
theorem holds.tw5606170894147618297 : True := trivial
theorem holds.tw8991559151991917937 : True := trivial
theorem holds.tw17698789649397450121 : True := trivial
theorem holds.tw18303498370074786342 : True := trivial
theorem holds.tw954759294903293345 : True := trivial
theorem holds.tw4837763867591130413 : True := trivial
theorem holds.tw15737458098272848843 : True := trivial
theorem holds.tw609593979267148766 : True := trivial
theorem holds.tw7766415108573184305 : True := trivial
theorem holds.tw1631988821682387397 : True := trivial
theorem holds.tw6270666701200070447 : True := trivial
theorem holds.tw3591643451295285226 : True := trivial
theorem holds.tw14015465597193498493 : True := trivial
theorem holds.tw16492970923048177823 : True := trivial
theorem holds.tw9179076619674111515 : True := trivial
theorem holds.tw7503737395920286060 : True := trivial
theorem holds.tw4648945120126745877 : True := trivial
theorem holds.tw13390067322875170909 : True := trivial
theorem holds.tw11237496202790982473 : True := trivial
theorem holds.tw11623250428353690138 : True := trivial
theorem holds.tw4071159065629566091 : True := trivial
theorem holds.tw1562249421467397710 : True := trivial
theorem holds.tw4247038368700228457 : True := trivial
theorem holds.tw17845740096274255462 : True := trivial
theorem holds.tw3198498235788789335 : True := trivial
theorem holds.tw16986704738630991174 : True := trivial
theorem holds.tw457036756085613805 : True := trivial
theorem holds.tw2108140421711172253 : True := trivial
theorem holds.tw8501281891715751146 : True := trivial
theorem holds.tw8664197181124272861 : True := trivial
theorem holds.tw14666957617077880877 : True := trivial
theorem holds.tw10178290135220734976 : True := trivial
theorem holds.tw7072470231402172264 : True := trivial
theorem holds.tw18137404814466565647 : True := trivial
theorem holds.tw1577146010547175755 : True := trivial
theorem holds.tw13306687922162142720 : True := trivial
theorem holds.tw16189116650847989039 : True := trivial
theorem holds.tw15665992811038445102 : True := trivial
theorem holds.tw8168356752963748851 : True := trivial
theorem holds.tw438103235379743935 : True := trivial
theorem holds.tw3259964661353284909 : True := trivial
theorem holds.tw9636209304261665903 : True := trivial
theorem holds.tw12179329788657368842 : True := trivial
theorem holds.tw17955251653903534588 : True := trivial
theorem holds.tw17585196194217108160 : True := trivial
theorem holds.tw13995109926203733070 : True := trivial
theorem holds.tw8229771903181695673 : True := trivial
theorem holds.tw8201850095220326943 : True := trivial
theorem holds.tw8326223695736924558 : True := trivial
theorem holds.tw12688729033689436754 : True := trivial
theorem holds.tw16527965534346479843 : True := trivial
theorem holds.tw2990895676391025561 : True := trivial
theorem holds.tw12840991994722114650 : True := trivial
theorem holds.tw8709608639225018423 : True := trivial
theorem holds.tw820486334897136409 : True := trivial
theorem holds.tw15986765973559043216 : True := trivial
theorem holds.tw2298022174073133013 : True := trivial
theorem holds.tw3325302716571603560 : True := trivial
theorem holds.tw9572162887998638646 : True := trivial
theorem holds.tw14869886272290788767 : True := trivial
theorem holds.tw14012504350828624960 : True := trivial
theorem holds.tw1748184903109754316 : True := trivial
theorem holds.tw5698002777990276889 : True := trivial
theorem holds.tw632647553328814510 : True := trivial
theorem holds.tw9101416567709711282 : True := trivial
theorem holds.tw9925129770185513386 : True := trivial
theorem holds.tw16818068004342704306 : True := trivial
theorem holds.tw8999148759028348254 : True := trivial
theorem holds.tw8930301468638573109 : True := trivial
theorem holds.tw2322420239649074934 : True := trivial
theorem holds.tw12343754954083223990 : True := trivial
theorem holds.tw1327240825893404017 : True := trivial
theorem holds.tw2796529661445839640 : True := trivial
theorem holds.tw15679414594044027071 : True := trivial
theorem holds.tw4565384855192621650 : True := trivial
theorem holds.tw11366613891026932653 : True := trivial
theorem holds.tw16526392495010931895 : True := trivial
theorem holds.tw2026074157514601029 : True := trivial
theorem holds.tw6882208769836361136 : True := trivial
theorem holds.tw12986477188347159440 : True := trivial
theorem holds.tw18119886095736687351 : True := trivial
theorem holds.tw14481039436429509627 : True := trivial
theorem holds.tw11635385377250757057 : True := trivial
theorem holds.tw14820496819874337416 : True := trivial
theorem holds.tw4638248667903330817 : True := trivial
theorem holds.tw4638280614687871961 : True := trivial
theorem holds.tw12885456215103715144 : True := trivial
theorem holds.tw17836369818011005632 : True := trivial
theorem holds.tw5506139502277114011 : True := trivial
theorem holds.tw3395405417513978161 : True := trivial
theorem holds.tw17154429820679262023 : True := trivial
theorem holds.tw6995637125483106052 : True := trivial
theorem holds.tw18428999135246889709 : True := trivial
theorem holds.tw5865623049191206495 : True := trivial
theorem holds.tw5194594231098649917 : True := trivial
theorem holds.tw12803259320963881043 : True := trivial
theorem holds.tw16717973427065403112 : True := trivial
theorem holds.tw15318030485348112285 : True := trivial
theorem holds.tw13469052773380359234 : True := trivial
theorem holds.tw3378769572067720374 : True := trivial
theorem holds.tw1699496654472425960 : True := trivial
theorem holds.tw16719641618999485920 : True := trivial
theorem holds.tw18159871531285016133 : True := trivial
theorem holds.tw5619219577263525582 : True := trivial
theorem holds.tw13635659449475194171 : True := trivial
theorem holds.tw17804031047071762117 : True := trivial
theorem holds.tw16405250981985728351 : True := trivial
theorem holds.tw6107281658776505229 : True := trivial
theorem holds.tw13851224978691574800 : True := trivial
theorem holds.tw12811986133187580173 : True := trivial
theorem holds.tw13656326972539208745 : True := trivial
theorem holds.tw2691182800312180423 : True := trivial
theorem holds.tw11342428682859919049 : True := trivial
theorem holds.tw15681240381570490794 : True := trivial
theorem holds.tw13794718551069701317 : True := trivial
theorem holds.tw14325652797173081869 : True := trivial
theorem holds.tw12828038907145807738 : True := trivial
theorem holds.tw15832225096487492747 : True := trivial
theorem holds.tw6395224867365064139 : True := trivial
theorem holds.tw5065072626821882738 : True := trivial
theorem holds.tw1884008505450799693 : True := trivial
theorem holds.tw5418920303086518451 : True := trivial
theorem holds.tw6120885642358782293 : True := trivial
theorem holds.tw5768325706252814819 : True := trivial
theorem holds.tw13299747515739239509 : True := trivial
theorem holds.tw5830490794043118638 : True := trivial
theorem holds.tw4847722943968633838 : True := trivial
theorem holds.tw14558969323905986741 : True := trivial
theorem holds.tw17871827197684104998 : True := trivial
theorem holds.tw15398626621386718237 : True := trivial
theorem holds.tw4307185281782297411 : True := trivial
theorem holds.tw11393145000320282179 : True := trivial
theorem holds.tw6153587431502396178 : True := trivial
theorem holds.tw8715153415118720431 : True := trivial
theorem holds.tw11932019790582256995 : True := trivial
theorem holds.tw7925820919135066463 : True := trivial
theorem holds.tw25128007106566912 : True := trivial
theorem holds.tw5528465392136904651 : True := trivial
theorem holds.tw2815148716436586704 : True := trivial
theorem holds.tw18076910122471374375 : True := trivial
theorem holds.tw3667296734252672382 : True := trivial
theorem holds.tw14506719115837055750 : True := trivial
theorem holds.tw7614240834612533913 : True := trivial
theorem holds.tw14758616802339493627 : True := trivial
theorem holds.tw7797081563098230675 : True := trivial
theorem holds.tw14795748159217239652 : True := trivial
theorem holds.tw8512429452129088584 : True := trivial
theorem holds.tw13837069517616297649 : True := trivial
theorem holds.tw2787305314026857967 : True := trivial
theorem holds.tw12368517589529891483 : True := trivial
theorem holds.tw7044488416437408911 : True := trivial
theorem holds.tw13342100529233674250 : True := trivial
theorem holds.tw14222940496449047865 : True := trivial
theorem holds.tw12802907566657418599 : True := trivial
theorem holds.tw114758814716574784 : True := trivial
theorem holds.tw2435697834123945266 : True := trivial
theorem holds.tw8703058000478243956 : True := trivial
theorem holds.tw4758407346467626144 : True := trivial
theorem holds.tw5550945554117203131 : True := trivial
theorem holds.tw7553091538727811119 : True := trivial
theorem holds.tw15505166088775668588 : True := trivial
theorem holds.tw3892464644189294616 : True := trivial
theorem holds.tw13101843316239274000 : True := trivial
theorem holds.tw5149526564703654343 : True := trivial
theorem holds.tw7025526114324608931 : True := trivial
theorem holds.tw7148457397988735951 : True := trivial
theorem holds.tw4463062363840312668 : True := trivial
theorem holds.tw10003694055788060311 : True := trivial
theorem holds.tw10090669370351152378 : True := trivial
theorem holds.tw11301672597029358359 : True := trivial
theorem holds.tw10217723531806974232 : True := trivial
theorem holds.tw9395489347000116783 : True := trivial
theorem holds.tw558284623232836049 : True := trivial
theorem holds.tw11948265756795587961 : True := trivial
theorem holds.tw15414449488493141452 : True := trivial
theorem holds.tw8647606335831114134 : True := trivial
theorem holds.tw5515288863426684154 : True := trivial
theorem holds.tw9889673879423337034 : True := trivial
theorem holds.tw10922428162458310129 : True := trivial
theorem holds.tw865500838714309513 : True := trivial
theorem holds.tw43888766806044448 : True := trivial
theorem holds.tw10101314140783721581 : True := trivial
theorem holds.tw14705332336647958153 : True := trivial
theorem holds.tw8673379177865851610 : True := trivial
theorem holds.tw13770748048790227772 : True := trivial
theorem holds.tw7214886289036577252 : True := trivial
theorem holds.tw11653104687496936112 : True := trivial
theorem holds.tw11672644919066271163 : True := trivial
theorem holds.tw6160048708904825675 : True := trivial
theorem holds.tw17970053310252206215 : True := trivial
theorem holds.tw1591614497242882612 : True := trivial
theorem holds.tw5614056069481967420 : True := trivial
theorem holds.tw9655063701478483099 : True := trivial
theorem holds.tw10532752084560951140 : True := trivial
theorem holds.tw11365423253905447938 : True := trivial
theorem holds.tw13538908437148302853 : True := trivial
theorem holds.tw13988838218713701972 : True := trivial
theorem holds.tw15817202532040668034 : True := trivial
theorem holds.tw12894707530176283173 : True := trivial
theorem holds.tw16874880777962658548 : True := trivial
theorem holds.tw550002156782687074 : True := trivial
theorem holds.tw17323155473350097884 : True := trivial
theorem holds.tw10456583940066858478 : True := trivial
theorem holds.tw17405913651127687548 : True := trivial
theorem holds.tw6609649261738686043 : True := trivial
theorem holds.tw7508724833904468189 : True := trivial
theorem holds.tw1894218108493701880 : True := trivial
theorem holds.tw11223929370926572019 : True := trivial
theorem holds.tw5761173918925751656 : True := trivial
theorem holds.tw16623480003224712174 : True := trivial
theorem holds.tw3861000652052826002 : True := trivial
theorem holds.tw10931204105334837734 : True := trivial
theorem holds.tw1077012827175232362 : True := trivial
theorem holds.tw4083477849724071642 : True := trivial
theorem holds.tw1566263515663976317 : True := trivial
theorem holds.tw6199686776344378345 : True := trivial
theorem holds.tw6653297117331982820 : True := trivial
theorem holds.tw2526029391950980958 : True := trivial
theorem holds.tw12054047105230549088 : True := trivial
theorem holds.tw304360855670404014 : True := trivial
theorem holds.tw685045373900649700 : True := trivial
theorem holds.tw4828584280874035930 : True := trivial
theorem holds.tw18364693445369197319 : True := trivial
theorem holds.tw13287711867249315789 : True := trivial
theorem holds.tw3941031784694168184 : True := trivial
theorem holds.tw16645783556341365226 : True := trivial
theorem holds.tw9442118761115461890 : True := trivial
theorem holds.tw6684128704866281179 : True := trivial
theorem holds.tw14278579206556186109 : True := trivial
theorem holds.tw722790717113563750 : True := trivial
theorem holds.tw6157822632079497950 : True := trivial
theorem holds.tw15891902535885273667 : True := trivial
theorem holds.tw17986687872122772584 : True := trivial
theorem holds.tw6382472559528225116 : True := trivial
theorem holds.tw1555556094965490833 : True := trivial
theorem holds.tw7072116541432516018 : True := trivial
theorem holds.tw18154627943774377348 : True := trivial
theorem holds.tw4294527259896404283 : True := trivial
theorem holds.tw18247421588225774185 : True := trivial
theorem holds.tw6867368441509648312 : True := trivial
theorem holds.tw1215478533520116774 : True := trivial
theorem holds.tw4731424046490229545 : True := trivial
theorem holds.tw16113979670686384644 : True := trivial
theorem holds.tw9578313353005323182 : True := trivial
theorem holds.tw7843051982824379554 : True := trivial
theorem holds.tw9979450033012110720 : True := trivial
theorem holds.tw13608454577001306295 : True := trivial
theorem holds.tw17957849646668315286 : True := trivial
theorem holds.tw12233832659156577737 : True := trivial
theorem holds.tw10833107302637699875 : True := trivial
theorem holds.tw10742948130089443177 : True := trivial
theorem holds.tw6150125375040512561 : True := trivial
theorem holds.tw2228972842810973069 : True := trivial
theorem holds.tw8318332573425277434 : True := trivial
theorem holds.tw6994989764056351226 : True := trivial
theorem holds.tw15912576936540932319 : True := trivial
theorem holds.tw1390413714926744526 : True := trivial
theorem holds.tw7764760058319942783 : True := trivial
theorem holds.tw3265977525522005909 : True := trivial
theorem holds.tw10896460218351899731 : True := trivial
theorem holds.tw2447010450120073262 : True := trivial
theorem holds.tw17161602433600048924 : True := trivial
theorem holds.tw1537896020066966262 : True := trivial
theorem holds.tw14374977566714605489 : True := trivial
theorem holds.tw15227928627790522205 : True := trivial
theorem holds.tw8342685063945909978 : True := trivial
theorem holds.tw5774118191818503404 : True := trivial
theorem holds.tw7964802553289857265 : True := trivial
theorem holds.tw18161101489703310961 : True := trivial
theorem holds.tw6260279054860728010 : True := trivial
theorem holds.tw9482088518178012087 : True := trivial
theorem holds.tw14399446760240809470 : True := trivial
theorem holds.tw5544849529527644617 : True := trivial
theorem holds.tw3021182021745475625 : True := trivial
theorem holds.tw2307722216263928427 : True := trivial
theorem holds.tw17609093410855971819 : True := trivial
theorem holds.tw440603731575887600 : True := trivial
theorem holds.tw2360611857689679594 : True := trivial
theorem holds.tw8582828021416564088 : True := trivial
theorem holds.tw16014425414391910053 : True := trivial
theorem holds.tw17093957504020573199 : True := trivial
theorem holds.tw10910858259465014809 : True := trivial
theorem holds.tw13385420599142869663 : True := trivial
theorem holds.tw3518985733565340228 : True := trivial
theorem holds.tw12919529146726094708 : True := trivial
theorem holds.tw9019257534274925694 : True := trivial
theorem holds.tw15493598328686506898 : True := trivial
theorem holds.tw12933004794989185701 : True := trivial
theorem holds.tw17115388708904494235 : True := trivial
theorem holds.tw13610216015777807193 : True := trivial
theorem holds.tw18040144302624173791 : True := trivial
theorem holds.tw14320867901091453664 : True := trivial
theorem holds.tw17333658333993622836 : True := trivial
theorem holds.tw10172116743248835179 : True := trivial
theorem holds.tw12169228651073509009 : True := trivial
theorem holds.tw1388941553355869555 : True := trivial
theorem holds.tw16342904981530803726 : True := trivial
theorem holds.tw3930216773101794901 : True := trivial
theorem holds.tw2559866895289228791 : True := trivial
theorem holds.tw10586113085549135516 : True := trivial
theorem holds.tw12598803044036537449 : True := trivial
theorem holds.tw12245839901074375238 : True := trivial
theorem holds.tw8686833105990424790 : True := trivial
theorem holds.tw119812342931510837 : True := trivial
theorem holds.tw10131826271222919291 : True := trivial
theorem holds.tw11719447062914956733 : True := trivial
theorem holds.tw18232178202039898155 : True := trivial
theorem holds.tw12344287759296213040 : True := trivial
theorem holds.tw205298979940158535 : True := trivial
theorem holds.tw803459465643865993 : True := trivial
theorem holds.tw13806253830398397885 : True := trivial
theorem holds.tw17002316775542982127 : True := trivial
theorem holds.tw5858917246580496000 : True := trivial
theorem holds.tw7836771215742511209 : True := trivial
theorem holds.tw1467441889453914128 : True := trivial
theorem holds.tw3700836892942821145 : True := trivial
theorem holds.tw5299285735360832198 : True := trivial
theorem holds.tw5789515006085545148 : True := trivial
theorem holds.tw633214176098062392 : True := trivial
theorem holds.tw1304537991673304957 : True := trivial
theorem holds.tw14396716731031814415 : True := trivial
theorem holds.tw7864136953561803568 : True := trivial
theorem holds.tw10925421167949951351 : True := trivial
theorem holds.tw9669028801200983835 : True := trivial
theorem holds.tw9345137363995567081 : True := trivial
theorem holds.tw382618885191382838 : True := trivial
theorem holds.tw5561910464716254773 : True := trivial
theorem holds.tw49517477587746382 : True := trivial
theorem holds.tw6091671356783944267 : True := trivial
theorem holds.tw8265603790410846922 : True := trivial
theorem holds.tw8767537278911131420 : True := trivial
theorem holds.tw17119970141882582889 : True := trivial
theorem holds.tw146485729390315040 : True := trivial
theorem holds.tw5861611626428175679 : True := trivial
theorem holds.tw14407948193146954793 : True := trivial
theorem holds.tw16306134597513423134 : True := trivial
theorem holds.tw7337387345392771578 : True := trivial
theorem holds.tw9486900926456378277 : True := trivial
theorem holds.tw12108319297290419529 : True := trivial
theorem holds.tw15069508231047163535 : True := trivial
theorem holds.tw3404786031723526517 : True := trivial
theorem holds.tw8110541393458415789 : True := trivial
theorem holds.tw14596460912211809583 : True := trivial
theorem holds.tw12969365772584314127 : True := trivial
theorem holds.tw17478722589502445978 : True := trivial
theorem holds.tw8466761320254723787 : True := trivial
theorem holds.tw15369023287827119477 : True := trivial
theorem holds.tw4365354059377992696 : True := trivial
theorem holds.tw1089062768938337359 : True := trivial
theorem holds.tw17414528444363394216 : True := trivial
theorem holds.tw11293816651538493956 : True := trivial
theorem holds.tw502349249091326964 : True := trivial
theorem holds.tw777588253762480501 : True := trivial
theorem holds.tw8390211631138850578 : True := trivial
theorem holds.tw10498718156884573365 : True := trivial
theorem holds.tw16353335624975568903 : True := trivial
theorem holds.tw7196389198934742080 : True := trivial
theorem holds.tw388697424147274848 : True := trivial
theorem holds.tw12981723904505495074 : True := trivial
theorem holds.tw3029007130555694686 : True := trivial
theorem holds.tw17622135654871039023 : True := trivial
theorem holds.tw13423564762744240696 : True := trivial
theorem holds.tw17163687433003404247 : True := trivial
theorem holds.tw13854177104256693836 : True := trivial
theorem holds.tw13507607254928300238 : True := trivial
theorem holds.tw14551623884528997495 : True := trivial
theorem holds.tw998727313184455661 : True := trivial
theorem holds.tw5777870960534118754 : True := trivial
theorem holds.tw821167469389656012 : True := trivial
theorem holds.tw3705729571002287980 : True := trivial
theorem holds.tw10610562591271878705 : True := trivial
theorem holds.tw1983579553212494438 : True := trivial
theorem holds.tw8164531214411361085 : True := trivial
theorem holds.tw8840909943057639128 : True := trivial
theorem holds.tw5645553124537877235 : True := trivial
theorem holds.tw2606944629124032122 : True := trivial
theorem holds.tw16418219784684038815 : True := trivial
theorem holds.tw13780991090961698435 : True := trivial
theorem holds.tw10337889005050157854 : True := trivial
theorem holds.tw478531526308717135 : True := trivial
theorem holds.tw8508805986403573338 : True := trivial
theorem holds.tw13894667977920138897 : True := trivial
theorem holds.tw357178461697220919 : True := trivial
theorem holds.tw621111095234622152 : True := trivial
theorem holds.tw4645540813884258457 : True := trivial
theorem holds.tw1599153897041059405 : True := trivial
theorem holds.tw1607941952282886664 : True := trivial
theorem holds.tw18227594263677673792 : True := trivial
theorem holds.tw5368641934051885657 : True := trivial
theorem holds.tw13312902682075114573 : True := trivial
theorem holds.tw8549761605663617775 : True := trivial
theorem holds.tw10458874210190493006 : True := trivial
theorem holds.tw10089944920957155582 : True := trivial
theorem holds.tw6522482969482240486 : True := trivial
theorem holds.tw11344331563778428072 : True := trivial
theorem holds.tw5911448285070485360 : True := trivial
theorem holds.tw12318394577309123244 : True := trivial
theorem holds.tw1366154740732069634 : True := trivial
theorem holds.tw9538768673985087726 : True := trivial
theorem holds.tw16430619847045991034 : True := trivial
theorem holds.tw12943168067127820788 : True := trivial
theorem holds.tw3031937872352710529 : True := trivial
theorem holds.tw15868002915489528373 : True := trivial
theorem holds.tw13641095874509055113 : True := trivial
theorem holds.tw637533416305653626 : True := trivial
theorem holds.tw695162292245305608 : True := trivial
theorem holds.tw605454516824562987 : True := trivial
theorem holds.tw16051446029599453605 : True := trivial
theorem holds.tw10765012326081822324 : True := trivial
theorem holds.tw11503860767874083962 : True := trivial
theorem holds.tw14317739901804451596 : True := trivial
theorem holds.tw11838763066258601363 : True := trivial
theorem holds.tw454477766703471346 : True := trivial
theorem holds.tw18061616620241744542 : True := trivial
theorem holds.tw4680876998037429772 : True := trivial
theorem holds.tw6589420961301199480 : True := trivial
theorem holds.tw15461354372096817869 : True := trivial
theorem holds.tw13540750550721019622 : True := trivial
theorem holds.tw7616160556610311458 : True := trivial
theorem holds.tw12827486838473677781 : True := trivial
theorem holds.tw17649151105783416035 : True := trivial
theorem holds.tw9451473981961269730 : True := trivial
theorem holds.tw4716219892339218867 : True := trivial
theorem holds.tw9921173722387906964 : True := trivial
theorem holds.tw7446599391121122832 : True := trivial
theorem holds.tw12849985261636569011 : True := trivial
theorem holds.tw4259763949237237642 : True := trivial
theorem holds.tw16052460671042760960 : True := trivial
theorem holds.tw16913168136550856550 : True := trivial
theorem holds.tw10856870422789847708 : True := trivial
theorem holds.tw1798051725949507246 : True := trivial
theorem holds.tw15524798817229977118 : True := trivial
theorem holds.tw13422091797055294189 : True := trivial
theorem holds.tw3725806525913417570 : True := trivial
theorem holds.tw17114734952187093324 : True := trivial
theorem holds.tw5874306564338923703 : True := trivial
theorem holds.tw13713706823592375276 : True := trivial
theorem holds.tw2537236898197364738 : True := trivial
theorem holds.tw15084514181498690012 : True := trivial
theorem holds.tw12592062651729929591 : True := trivial
theorem holds.tw13801567804905694909 : True := trivial
theorem holds.tw5827964340116018190 : True := trivial
theorem holds.tw5421965507100402091 : True := trivial
theorem holds.tw15009013920709234297 : True := trivial
theorem holds.tw12889398573657165763 : True := trivial
theorem holds.tw12321539524506789020 : True := trivial
theorem holds.tw16269170038171187072 : True := trivial
theorem holds.tw17998916985789819677 : True := trivial
theorem holds.tw2515907566031530426 : True := trivial
theorem holds.tw3179807520213003191 : True := trivial
theorem holds.tw13945205603831341633 : True := trivial
theorem holds.tw719960521165742059 : True := trivial
theorem holds.tw15502657612173447781 : True := trivial
theorem holds.tw16942309666480855648 : True := trivial
theorem holds.tw2304719909438270902 : True := trivial
theorem holds.tw11300934851405034510 : True := trivial
theorem holds.tw11135852464326937810 : True := trivial
theorem holds.tw8236171642617144421 : True := trivial
theorem holds.tw4740906102356476214 : True := trivial
theorem holds.tw12631640619566353655 : True := trivial
theorem holds.tw5537928788212877218 : True := trivial
theorem holds.tw7392540313119304457 : True := trivial
theorem holds.tw10164559390124949103 : True := trivial
theorem holds.tw12204665332889033951 : True := trivial
theorem holds.tw1254363865666928311 : True := trivial
theorem holds.tw3925420586729168792 : True := trivial
theorem holds.tw9706209859917333381 : True := trivial
theorem holds.tw2481762636388781407 : True := trivial
theorem holds.tw11802974227634048176 : True := trivial
theorem holds.tw901786244648982543 : True := trivial
theorem holds.tw14000483391123952859 : True := trivial
theorem holds.tw662447384025580021 : True := trivial
theorem holds.tw1498911234855808639 : True := trivial
theorem holds.tw6872069110164393420 : True := trivial
theorem holds.tw12764138218417292501 : True := trivial
theorem holds.tw1185210373372293081 : True := trivial
theorem holds.tw16602621910645869350 : True := trivial
theorem holds.tw2311765011117285732 : True := trivial
theorem holds.tw11637183364964599053 : True := trivial
theorem holds.tw13312495272928040085 : True := trivial
theorem holds.tw7521824237376061775 : True := trivial
theorem holds.tw17044090912120824406 : True := trivial
theorem holds.tw17801447683483272104 : True := trivial
theorem holds.tw16142137847178903875 : True := trivial
theorem holds.tw7160554803201090640 : True := trivial
theorem holds.tw8748452384382083689 : True := trivial
theorem holds.tw7710750838638813692 : True := trivial
theorem holds.tw5514237163880351034 : True := trivial
theorem holds.tw976668522341663004 : True := trivial
theorem holds.tw8010014296915285940 : True := trivial
theorem holds.tw3776107419337906863 : True := trivial
theorem holds.tw4181838862531592269 : True := trivial
theorem holds.tw1744185457692449581 : True := trivial
theorem holds.tw1190596210418929308 : True := trivial
theorem holds.tw5702297926679661662 : True := trivial
theorem holds.tw15182482527448372737 : True := trivial
theorem holds.tw2663574892104245759 : True := trivial
theorem holds.tw9321552427610302408 : True := trivial
theorem holds.tw5537972999696504794 : True := trivial
theorem holds.tw9719031672869552192 : True := trivial
theorem holds.tw16759560940936741454 : True := trivial
theorem holds.tw17105345908509100887 : True := trivial
set_option Elab.async true
set_option maxHeartbeats 0 in
theorem holds : PySem.Challenge.rw_mj0250_01.Holds := by
  w_on; o_law; x_head; (case hw => w_witness2)
  k_fill
  intro w s₀ s₁ mg mb G Y fa o pm cd doc dV kV ho hd' hcd hD hmg hg args vals as hpre hlay hrd hwl hlo
  have KX := kIn_of Y
  refine Ground.open G ?_
  intro T B D TE TW
  wrow_args hpre hlay hrd hwl hlo
  x_fa T KX hmg
  refine enter_call ?_
  rename IntsAre _ _ => hI
  rename Heap.IsList _ _ _ => hL
  rename (¬ _ < _) => hc
  refine law_end KX T.nolimit T.g T.b hL hI (by omega) hg (fun _ => rfl) (by wrow_post) ?_ ?_ ?_ ?_ ?_ ?_
  · exact { kl := fun w => by kernel_rfl
            f557 := fun w => fnOk_of (by kernel_rfl) (by kernel_rfl) (bind2 (by kernel_rfl))
            f77 := fun w => fnOk_of (by kernel_rfl) (by kernel_rfl) (bind2 (by kernel_rfl))
            f395 := fun w => fnOk_of (by kernel_rfl) (by kernel_rfl) (bind1 (by kernel_rfl))
            f677 := fun w => fnOk_of (by kernel_rfl) (by kernel_rfl) (bind1 (by kernel_rfl))
            f714 := fun w => fnOk_of (by kernel_rfl) (by kernel_rfl) (bind1 (by kernel_rfl))
            f707 := fun w => fnOk_of (by kernel_rfl) (by kernel_rfl) (bind1 (by kernel_rfl))
            f743 := fun w => fnOk_of (by kernel_rfl) (by kernel_rfl) (bind1 (by kernel_rfl))
            f736 := fun w => fnOk_of (by kernel_rfl) (by kernel_rfl) (bind1 (by kernel_rfl))
            stop := fun w => by kernel_rfl
            next := fun w => by kernel_rfl }
  · exact { gl := fun w => by kernel_rfl
            kp := fun w => by kernel_rfl
            f51 := fun w => fnOk_of (by kernel_rfl) (by kernel_rfl) (bind1 (by kernel_rfl))
            f58 := fun w => fnOk_of (by kernel_rfl) (by kernel_rfl) (bind1 (by kernel_rfl))
            f766 := fun w => fnOk_of (by kernel_rfl) (by kernel_rfl) (bind1 (by kernel_rfl))
            ca := fun w v => by kernel_rfl
            tg := fun w x t => by kernel_rfl }
  · exact { gl := fun w => by kernel_rfl
            r104 := fun w => by kernel_rfl
            b104 := fun w v N => by kernel_rfl
            onew := fun w N => by kernel_rfl
            ocall := fun w => by kernel_rfl
            row := fun w => by kernel_rfl
            sio := fun w v => by kernel_rfl
            mro := fun w => by kernel_rfl
            mby := fun w => by kernel_rfl
            f381 := fun w => fnOk_of (by kernel_rfl) (by kernel_rfl) (bind3 (by kernel_rfl))
            b381 := fun w a b => by kernel_rfl
            f388 := fun w => fnOk_of (by kernel_rfl) (by kernel_rfl) (bind2 (by kernel_rfl))
            kl := fun w => by kernel_rfl }
  · exact { mkr := fun w => by kernel_rfl
            r670 := fun w => by kernel_rfl
            b670 := fun w a b => by kernel_rfl }
  · exact { r758 := fun w => by kernel_rfl
            b758 := fun w a => by kernel_rfl }
  · exact { gl := fun w => by kernel_rfl
            kp := fun w => by kernel_rfl
            f773 := fun w => fnOk_of (by kernel_rfl) (by kernel_rfl) (bind1 (by kernel_rfl))
            f778 := fun w => fnOk_of (by kernel_rfl) (by kernel_rfl) (bind1 (by kernel_rfl))
            f783 := fun w => fnOk_of (by kernel_rfl) (by kernel_rfl) (bind1 (by kernel_rfl)) }
end Mine
end
theorem PySem.Challenge.cw_mj0250_01_holds : PySem.Challenge.rw_mj0250_01.Holds :=
  Mine.holds
