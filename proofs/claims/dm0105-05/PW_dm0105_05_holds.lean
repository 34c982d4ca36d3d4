import PyProof.Rows.All
import Wide.All
import OpenK.AllK
import Wide.FinOn
import PyProof.StrLawsReplace
import PySem.Challenge.RW_dm0105_05
set_option Elab.async false
section
open PySem PySem.W PyProof.Rows
namespace Mine

/-- python values as the proofs see them -/
inductive PV where
  | none
  | bool (b : Bool)
  | int (i : Int)
  | str (x : List Nat)
  | tup (xs : List PV)
  | lst (xs : List PV)
  | own (a : Addr)
  | obj (a : Addr)
  | app (a : Addr)
  | rng (lo : Int) (n : Nat) (st : Int)

theorem clash {α : Type} {x : Option α} {y : α} {P : Prop} (h1 : x = Option.none) (h2 : x = some y) : P := nomatch h1.symm.trans h2
/-- the model's line of sizes -/
noncomputable def SZ : Nat := 16777216

noncomputable abbrev Gr := Addr → Obj → Prop

noncomputable def lObj (items : List Value) (n : Nat) : Obj := { cls := .type "list", data := .seq items.toArray n }
noncomputable def tObj (items : List Value) (n : Nat) : Obj := { cls := .type "tuple", data := .seq items.toArray n }

noncomputable def rObj (a b c : Int) (t u v : Tok) : Obj := { cls := .type "range", dict := none, data := .fields #[.int a t, .int b u, .int c v], slots := #[] }

/-- a bound method list.append of the list at a -/
noncomputable def appObj (a : Addr) : Obj → Prop := fun o => o.cls = .type "builtin_function_or_method" ∧ o.data = .fields #[.builtin "list.append", .ref a]

mutual
noncomputable def Rep (g : Gr) : PV → Value → Prop
  | .none, v => v = .none
  | .bool b, v => v = .bool b
  | .int i, v => ∃ t, v = .int i t
  | .str x, v => x.length ≤ SZ ∧ ∃ t, v = .str ⟨x.toArray⟩ t
  | .tup xs, v => ∃ a vs n, v = .ref a ∧ g a (tObj vs n) ∧ vs.length ≤ SZ ∧ Reps g xs vs
  | .lst xs, v => ∃ a vs n, v = .ref a ∧ g a (lObj vs n) ∧ vs.length ≤ SZ ∧ Reps g xs vs
  | .own a, v => v = .ref a
  | .obj a, v => v = .ref a
  | .app a, v => ∃ b o, v = .ref b ∧ g b o ∧ appObj a o
  | .rng lo n st, v => ∃ r b t u x, v = .ref r ∧ g r (rObj lo b st t u x) ∧ Builtin.Range.small lo b st = true ∧ Builtin.Range.rangeSize lo b st = (n : Int)
noncomputable def Reps (g : Gr) : List PV → List Value → Prop
  | [], vs => vs = []
  | x :: xs, vs => ∃ v vs', vs = v :: vs' ∧ Rep g x v ∧ Reps g xs vs'
end

mutual
theorem Rep.mono {g g' : Gr} (h : ∀ a o, g a o → g' a o) : ∀ (p : PV) (v : Value), Rep g p v → Rep g' p v
  | .none, v, r => r
  | .bool b, v, r => r
  | .int i, v, r => r
  | .str x, v, r => r
  | .tup xs, v, ⟨a, vs, n, e, hg, hl, hr⟩ => ⟨a, vs, n, e, h _ _ hg, hl, Reps.mono h xs vs hr⟩
  | .lst xs, v, ⟨a, vs, n, e, hg, hl, hr⟩ => ⟨a, vs, n, e, h _ _ hg, hl, Reps.mono h xs vs hr⟩
  | .own a, v, r => r
  | .obj a, v, r => r
  | .app a, v, ⟨b, o, e, hg, ho⟩ => ⟨b, o, e, h _ _ hg, ho⟩
  | .rng _ _ _, v, ⟨q, b, t, u, x, e, hg, hr⟩ => ⟨q, b, t, u, x, e, h _ _ hg, hr⟩
theorem Reps.mono {g g' : Gr} (h : ∀ a o, g a o → g' a o) : ∀ (ps : List PV) (vs : List Value), Reps g ps vs → Reps g' ps vs
  | [], vs, r => r
  | x :: xs, vs, ⟨v, vs', e, hx, hr⟩ => ⟨v, vs', e, Rep.mono h x v hx, Reps.mono h xs vs' hr⟩
end

theorem reps_nil {g : Gr} {vs : List Value} : Reps g [] vs ↔ vs = [] := Iff.rfl
theorem reps_cons {g : Gr} {x : PV} {xs : List PV} {vs : List Value} : Reps g (x :: xs) vs ↔ ∃ v vs', vs = v :: vs' ∧ Rep g x v ∧ Reps g xs vs' := Iff.rfl
theorem rep_int {g : Gr} {i : Int} {v : Value} : Rep g (.int i) v ↔ ∃ t, v = .int i t := Iff.rfl
theorem rep_bool {g : Gr} {b : Bool} {v : Value} : Rep g (.bool b) v ↔ v = .bool b := Iff.rfl
theorem rep_none {g : Gr} {v : Value} : Rep g .none v ↔ v = .none := Iff.rfl
theorem rep_str {g : Gr} {x : List Nat} {v : Value} : Rep g (.str x) v ↔ x.length ≤ SZ ∧ ∃ t, v = .str ⟨x.toArray⟩ t := Iff.rfl
theorem rep_own {g : Gr} {a : Addr} {v : Value} : Rep g (.own a) v ↔ v = .ref a := Iff.rfl
theorem rep_obj {g : Gr} {a : Addr} {v : Value} : Rep g (.obj a) v ↔ v = .ref a := Iff.rfl
theorem rep_app {g : Gr} {a : Addr} {v : Value} : Rep g (.app a) v ↔ ∃ b o, v = .ref b ∧ g b o ∧ appObj a o := Iff.rfl
theorem rep_lst {g : Gr} {xs : List PV} {v : Value} : Rep g (.lst xs) v ↔ ∃ a vs n, v = .ref a ∧ g a (lObj vs n) ∧ vs.length ≤ SZ ∧ Reps g xs vs := Iff.rfl
theorem rep_tup {g : Gr} {xs : List PV} {v : Value} : Rep g (.tup xs) v ↔ ∃ a vs n, v = .ref a ∧ g a (tObj vs n) ∧ vs.length ≤ SZ ∧ Reps g xs vs := Iff.rfl
theorem rep_rng {g : Gr} {lo : Int} {n : Nat} {st : Int} {v : Value} : Rep g (.rng lo n st) v ↔ ∃ r b t u x, v = .ref r ∧ g r (rObj lo b st t u x) ∧ Builtin.Range.small lo b st = true ∧ Builtin.Range.rangeSize lo b st = (n : Int) := Iff.rfl

/-- the heap without what may be written -/
noncomputable def frz (h : Heap) (W : Addr → Prop) : Gr := fun a o => h.get? a = some o ∧ ¬ W a

theorem frz_mono {h h' : Heap} {W : Addr → Prop} (hk : ∀ b o, h.get? b = some o → h'.get? b = some o) : ∀ a o, frz h W a o → frz h' W a o :=
  fun a o x => ⟨hk a o x.1, x.2⟩

theorem Rep.keep {h h' : Heap} {W : Addr → Prop} (hk : ∀ b o, h.get? b = some o → h'.get? b = some o) {p : PV} {v : Value} (r : Rep (frz h W) p v) : Rep (frz h' W) p v := Rep.mono (frz_mono hk) p v r
theorem Reps.keep {h h' : Heap} {W : Addr → Prop} (hk : ∀ b o, h.get? b = some o → h'.get? b = some o) {p : List PV} {v : List Value} (r : Reps (frz h W) p v) : Reps (frz h' W) p v := Reps.mono (frz_mono hk) p v r

theorem Reps.length {g : Gr} : ∀ {ps : List PV} {vs : List Value}, Reps g ps vs → vs.length = ps.length
  | [], vs, r => by cases reps_nil.mp r; rfl
  | p :: ps, vs, r => by
    have r := reps_cons.mp r
    obtain ⟨v, vs', rfl, _, hr⟩ := r
    simp [Reps.length hr]

theorem Reps.get {g : Gr} : ∀ {ps : List PV} {vs : List Value}, Reps g ps vs → ∀ (i : Nat) (p : PV), ps[i]? = some p → ∃ v, vs[i]? = some v ∧ Rep g p v
  | [], vs, r, i, p, h => by simp at h
  | q :: ps, vs, r, i, p, h => by
    have r := reps_cons.mp r
    obtain ⟨v, vs', rfl, hv, hr⟩ := r
    cases i with
    | zero => simp at h; subst h; exact ⟨v, by simp, hv⟩
    | succ i => simp at h; obtain ⟨u, hu, r'⟩ := Reps.get hr i p h; exact ⟨u, by simpa using hu, r'⟩
theorem Reps.get' {g : Gr} {ps : List PV} {vs : List Value} (r : Reps g ps vs) (i : Nat) (v : Value) (h : vs[i]? = some v) : ∃ p, ps[i]? = some p ∧ Rep g p v := by
  have hl := r.length
  have hi : i < vs.length := by
    rcases Nat.lt_or_ge i vs.length with h' | h'
    · exact h'
    · rw [List.getElem?_eq_none h'] at h; cases h
  have hp : ps[i]? = some (ps[i]'(by lia)) := List.getElem?_eq_getElem (by lia)
  obtain ⟨u, hu, ru⟩ := r.get i _ hp
  first | exact clash h hu | (rw [h] at hu; cases hu)
  exact ⟨_, hp, ru⟩
theorem Reps.append {g : Gr} : ∀ {ps qs : List PV} {vs us : List Value}, Reps g ps vs → Reps g qs us → Reps g (ps ++ qs) (vs ++ us)
  | [], qs, vs, us, r, r' => by cases reps_nil.mp r; simpa using r'
  | p :: ps, qs, vs, us, r, r' => by
    have r := reps_cons.mp r
    obtain ⟨v, vs', rfl, hv, hr⟩ := r
    show Reps g (p :: (ps ++ qs)) (v :: (vs' ++ us))
    exact reps_cons.mpr ⟨v, vs' ++ us, rfl, hv, hr.append r'⟩
theorem Reps.drop {g : Gr} : ∀ (k : Nat) {ps : List PV} {vs : List Value}, Reps g ps vs → Reps g (ps.drop k) (vs.drop k)
  | 0, ps, vs, r => by simpa using r
  | k + 1, [], vs, r => by cases reps_nil.mp r; exact reps_nil.mpr List.drop_nil
  | k + 1, p :: ps, vs, r => by
    have r := reps_cons.mp r
    obtain ⟨v, vs', rfl, hv, hr⟩ := r
    simpa using hr.drop k
theorem Reps.take {g : Gr} : ∀ (k : Nat) {ps : List PV} {vs : List Value}, Reps g ps vs → Reps g (ps.take k) (vs.take k)
  | 0, ps, vs, r => by rw [List.take_zero, List.take_zero]; exact reps_nil.mpr rfl
  | k + 1, [], vs, r => by cases reps_nil.mp r; exact reps_nil.mpr List.take_nil
  | k + 1, p :: ps, vs, r => by
    have r := reps_cons.mp r
    obtain ⟨v, vs', rfl, hv, hr⟩ := r
    show Reps g (p :: ps.take k) (v :: vs'.take k)
    exact reps_cons.mpr ⟨v, vs'.take k, rfl, hv, hr.take k⟩
theorem Reps.nil {g : Gr} : Reps g [] [] := rfl
theorem Reps.cons {g : Gr} {p : PV} {v : Value} {ps : List PV} {vs : List Value} (h : Rep g p v) (r : Reps g ps vs) : Reps g (p :: ps) (v :: vs) := reps_cons.mpr ⟨v, vs, rfl, h, r⟩

theorem Keeps.rfl' {s : Shared} : Keeps s s := ⟨s.heap, s.toks, rfl, fun _ _ e => e⟩
theorem Keeps.tk {s : Shared} (t : Nat) : Keeps s { s with toks := t } := ⟨s.heap, t, rfl, fun _ _ e => e⟩
theorem Keeps.tr {a b c : Shared} (x : Keeps a b) (y : Keeps b c) : Keeps a c := by
  obtain ⟨h1, t1, rfl, k1⟩ := x
  obtain ⟨h2, t2, rfl, k2⟩ := y
  exact ⟨h2, t2, rfl, fun b o e => k2 b o (k1 b o e)⟩
theorem Keeps.push {s : Shared} (o : Obj) (t : Nat) : Keeps s { s with heap := s.heap.push o, toks := t } := ⟨_, t, rfl, fun _ _ e => Heap.get?_push_of_some _ e⟩
theorem Keeps.k {a b : Shared} (x : Keeps a b) : ∀ c o, a.heap.get? c = some o → b.heap.get? c = some o := by
  obtain ⟨h1, t1, rfl, k1⟩ := x; exact k1
theorem fresh_none (h : Heap) : h.get? h.objs.size = none := by
  cases e : h.get? h.objs.size with
  | none => rfl
  | some o => exact absurd (Heap.lt_size e) (Nat.lt_irrefl _)
theorem SZ_eq : SZ = sizeLine := rfl
end Mine
end

section
open PySem PySem.W PyProof.Rows
namespace Mine

set_option genInjectivity false
set_option genSizeOf false
inductive MTgt where
  | one (x : Str)
  | many (xs : List Str)
  | bad

inductive MExpr where
  | bad
  | const (c : PV)
  | var (x : Str)
  | bin (op : Operator) (a b : MExpr)
  | neg (a : MExpr)
  | not (a : MExpr)
  | and (a b : MExpr)
  | or (a b : MExpr)
  | cmp (op : CmpOp) (a b : MExpr)
  | ite (c a b : MExpr)
  | idx (a i : MExpr)
  | slc (a lo hi st : MExpr)
  | lst (es : List MExpr)
  | tup (es : List MExpr)
  | call (f : Str) (es : List MExpr)
  | meth (o : MExpr) (m : Str) (es : List MExpr)
  | fstr (es : List MExpr)
  | fmt (e : MExpr)
  | repl (o : MExpr) (y z : List Nat)
  | comp1 (elt : MExpr) (t : MTgt) (it : MExpr) (ifs : List MExpr) (fr : List Str)
  | comp2 (elt : MExpr) (t : MTgt) (it : MExpr) (ifs : List MExpr) (t2 : MTgt) (it2 : MExpr) (ifs2 : List MExpr) (fr : List Str)

inductive MStmt where
  | bad
  | assign (x : Str) (e : MExpr)
  | unpack (xs : List Str) (e : MExpr)
  | setIdx (o i e : MExpr)
  | aug (x : Str) (op : Operator) (e : MExpr)
  | bindApp (x : Str) (o : MExpr)
  | callv (f : Str) (e : MExpr)
  | mcall (o : MExpr) (m : Str) (e : MExpr)
  | popTo (xs : List Str) (o : MExpr)
  | if_ (c : MExpr) (a b : List MStmt)
  | while_ (c : MExpr) (b : List MStmt)
  | for_ (t : MTgt) (it : MExpr) (b : List MStmt)
  | ret (e : MExpr)
  | brk
  | assert_ (c : MExpr)
  | try_ (b h : List MStmt)

noncomputable def nameOf1 : Expr → Option Str
  | .Name x _ => some x
  | _ => none
noncomputable def namesOf : List Expr → Option (List Str)
  | [] => some []
  | e :: es => match nameOf1 e, namesOf es with
    | some x, some xs => some (x :: xs)
    | _, _ => none

noncomputable def trTgt : Expr → MTgt
  | .Name x _ => .one x
  | .Tuple es _ _ => match namesOf es with
    | some xs => .many xs
    | none => .bad
  | _ => .bad

noncomputable abbrev Names := List (Str × NameKind)
noncomputable def relab (ns Γ : Names) : Names := ns.map fun (n, k) => if k == .free && Γ.lookup n == some .cell then (n, .cell) else (n, k)
/-- the names that a comprehension takes from around it -/
noncomputable def frees (ns : Names) : List Str := (ns.filter fun x => x.2 == .free).map (·.1)
noncomputable def ownName (ns : Names) (x : Str) : Bool := ns.lookup x == some .local || ns.lookup x == some .cell
noncomputable def tgtOk (ns : Names) : MTgt → Bool
  | .one x => ownName ns x
  | .many xs => xs.all (ownName ns)
  | .bad => false
noncomputable def tgtNames : MTgt → List Str
  | .one x => [x]
  | .many xs => xs
  | .bad => []
noncomputable def apartT (t t2 : MTgt) : Bool := (tgtNames t2).all fun x => !(tgtNames t).contains x
noncomputable def compOk (sc : Scope) (Γ : Names) : Bool := sc.kind == .function &&
  sc.names.all fun x => sc.names.lookup x.1 == some x.2 && (x.2 != .free || Γ.lookup x.1 == some .cell || Γ.lookup x.1 == some .free)

noncomputable def constStr : Expr → Option (List Nat)
  | .Constant (.str s) _ _ => if s.cps.toList.length ≤ SZ then some s.cps.toList else none
  | _ => none
/-- a method's call; one of replace with two texts that are written out stands apart -/
noncomputable def trMeth (o : MExpr) (m : Str) (args : List Expr) (es : List MExpr) : MExpr :=
  if m == "replace" then match args with
    | [a, b] => match constStr a with
      | some y => match constStr b with
        | some z => .repl o y z
        | none => .bad
      | none => .bad
    | _ => .bad
  else .meth o m es
mutual
noncomputable def tr (Γ : Names) : Expr → MExpr
  | .Constant c _ _ => match c with
    | .none => .const .none
    | .bool b => .const (.bool b)
    | .int i => .const (.int i)
    | .str s => if s.cps.toList.length ≤ SZ then .const (.str s.cps.toList) else .bad
    | _ => .bad
  | .Name x _ => if x == "__debug__" || x == "__classdict__" then .bad else .var x
  | .BinOp l op r _ => .bin op (tr Γ l) (tr Γ r)
  | .UnaryOp op x _ => match op with
    | .USub => .neg (tr Γ x)
    | .Not => .not (tr Γ x)
    | _ => .bad
  | .BoolOp op vs _ => match vs with
    | _ :: _ :: _ => trBool Γ op vs
    | _ => .bad
  | .Compare l ops cs _ => match ops, cs with
    | [op], [r] => .cmp op (tr Γ l) (tr Γ r)
    | _, _ => .bad
  | .IfExp c a b _ => .ite (tr Γ c) (tr Γ a) (tr Γ b)
  | .Subscript v sl _ => match sl with
    | .Slice lo hi st _ => .slc (tr Γ v) (trOpt Γ lo) (trOpt Γ hi) (trOpt Γ st)
    | i => .idx (tr Γ v) (tr Γ i)
  | .List es _ => .lst (trs Γ es)
  | .Tuple es _ _ => .tup (trs Γ es)
  | .Call fn args kws pos => match fn, kws with
    | .Name f _, [] => if Γ.lookup f == some .globalImplicit && !(f == "__debug__") then .call f (trs Γ args) else .bad
    | .Attribute o m apos, [] => match o with
      | .Call .. => .bad
      | _ => if apos.endLine == pos.line && args.length < 20 then trMeth (tr Γ o) m args (trs Γ args) else .bad
    | _, _ => .bad
  | .JoinedStr vs _ => .fstr (trs Γ vs)
  | .FormattedValue v conv spec _ => match conv, spec with
    | -1, none => .fmt (tr Γ v)
    | _, _ => .bad
  | .ListComp elt gens scope _ => match gens with
    | [⟨t, it, ifs, 0⟩] => if compOk scope Γ && tgtOk scope.names (trTgt t) then .comp1 (tr (relab scope.names Γ) elt) (trTgt t) (tr Γ it) (trs (relab scope.names Γ) ifs) (frees scope.names) else .bad
    | [⟨t, it, ifs, 0⟩, ⟨t2, it2, ifs2, 0⟩] => if compOk scope Γ && tgtOk scope.names (trTgt t) && tgtOk scope.names (trTgt t2) && apartT (trTgt t) (trTgt t2) then .comp2 (tr (relab scope.names Γ) elt) (trTgt t) (tr Γ it) (trs (relab scope.names Γ) ifs) (trTgt t2) (tr (relab scope.names Γ) it2) (trs (relab scope.names Γ) ifs2) (frees scope.names) else .bad
    | _ => .bad
  | _ => .bad
noncomputable def trBool (Γ : Names) (op : PySem.BoolOp) : List Expr → MExpr
  | [] => .bad
  | [e] => tr Γ e
  | e :: es => match op with
    | .And => .and (tr Γ e) (trBool Γ op es)
    | .Or => .or (tr Γ e) (trBool Γ op es)
noncomputable def trs (Γ : Names) : List Expr → List MExpr
  | [] => []
  | e :: es => tr Γ e :: trs Γ es
noncomputable def trOpt (Γ : Names) : Option Expr → MExpr
  | none => .const .none
  | some e => tr Γ e
end


noncomputable def swapOk : Expr → Bool
  | .Tuple vs _ _ => !(vs.all (constantsAlone 8)) || vs.all (foldedForSure 8)
  | _ => true

mutual
noncomputable def trS (Γ : Names) : Stmt → MStmt
  | .Assign ts v _ => match ts with
    | [.Name x _] => match v with
      | .Attribute o m _ => if m == "append" then .bindApp x (tr Γ o) else .bad
      | _ => .assign x (tr Γ v)
    | [.Tuple es _ _] => match namesOf es with
      | some xs => match v with
        | .Call (.Attribute o m apos) [] [] pos => if m == "pop" && apos.endLine == pos.line then .popTo xs (tr Γ o) else .bad
        | _ => if swapOk v then .unpack xs (tr Γ v) else .bad
      | none => .bad
    | [.Subscript o i _] => .setIdx (tr Γ o) (tr Γ i) (tr Γ v)
    | _ => .bad
  | .AugAssign t op v _ => match t with
    | .Name x _ => .aug x op (tr Γ v)
    | _ => .bad
  | .Expr e _ => match e with
    | .Call fn args kws pos => match fn, args, kws with
      | .Name f _, [a], [] => .callv f (tr Γ a)
      | .Attribute o m apos, [a], [] => if apos.endLine == pos.line then .mcall (tr Γ o) m (tr Γ a) else .bad
      | _, _, _ => .bad
    | _ => .bad
  | .If c a b _ => .if_ (tr Γ c) (trSs Γ a) (trSs Γ b)
  | .While c b orelse _ => match orelse with
    | [] => .while_ (tr Γ c) (trSs Γ b)
    | _ => .bad
  | .For t it b orelse _ => match orelse with
    | [] => .for_ (trTgt t) (tr Γ it) (trSs Γ b)
    | _ => .bad
  | .Return v _ => match v with
    | some e => .ret (tr Γ e)
    | none => .bad
  | .Break _ => .brk
  | .Assert c msg _ => match msg with
    | none => .assert_ (tr Γ c)
    | _ => .bad
  | .Try b hs orelse fin _ => match orelse, fin with
    | [], [] => .try_ (trSs Γ b) (trHs Γ hs)
    | _, _ => .bad
  | _ => .bad
noncomputable def trSs (Γ : Names) : List Stmt → List MStmt
  | [] => []
  | s :: ss => trS Γ s :: trSs Γ ss
noncomputable def trHs (Γ : Names) : List ExceptHandler → List MStmt
  | [.ExceptHandler ty name body _] => match ty, name with
    | some (.Name x _), none => if x == "AssertionError" then trSs Γ body else [.bad]
    | _, _ => [.bad]
  | _ => [.bad]
end

/-- what an expression of the small form came from -/
noncomputable def ViewE (Γ : Names) (v : Expr) : MExpr → Prop
  | .const (.int i) => ∃ k pos, v = .Constant (.int i) k pos
  | .var x => ∃ pos, v = .Name x pos
  | .lst es => ∃ es' pos, v = .List es' pos ∧ trs Γ es' = es
  | .tup es => ∃ es' k pos, v = .Tuple es' k pos ∧ trs Γ es' = es
  | .call f es => ∃ np es' pos, v = .Call (.Name f np) es' [] pos ∧ trs Γ es' = es ∧ Γ.lookup f = some .globalImplicit ∧ (f == ("__debug__" : Str)) = false
  | .slc a lo hi st => ∃ v' lo' hi' st' p pos, v = .Subscript v' (.Slice lo' hi' st' p) pos ∧ tr Γ v' = a ∧ trOpt Γ lo' = lo ∧ trOpt Γ hi' = hi ∧ trOpt Γ st' = st
  | _ => True
theorem at_ite {α : Type} {P : α → Prop} {c : Prop} [Decidable c] {a b : α} (h1 : c → P a) (h2 : P b) : P (if c then a else b) := by
  by_cases h : c
  · rw [if_pos h]; exact h1 h
  · rw [if_neg h]; exact h2
theorem view_bool {Γ : Names} {v : Expr} (op : PySem.BoolOp) (a b : Expr) (r : List Expr) : ViewE Γ v (trBool Γ op (a :: b :: r)) := by
  cases op <;> exact trivial
theorem view_name {Γ : Names} {x : Str} {pos : Pos} : ViewE Γ (.Name x pos) (tr Γ (.Name x pos)) := by
  cases h : (x == "__debug__" || x == "__classdict__") with
  | true =>
    have : tr Γ (.Name x pos) = .bad := if_pos h
    rw [this]; exact trivial
  | false =>
    have : tr Γ (.Name x pos) = .var x := if_neg (by rw [h]; exact Bool.false_ne_true)
    rw [this]; exact ⟨pos, rfl⟩
theorem view_call {Γ : Names} {f : Str} {np : Pos} {args : List Expr} {pos : Pos} : ViewE Γ (.Call (.Name f np) args [] pos) (tr Γ (.Call (.Name f np) args [] pos)) :=
  at_ite (P := ViewE Γ (.Call (.Name f np) args [] pos)) (fun h => by
    obtain ⟨h1, h2⟩ := Bool.and_eq_true_iff.mp h
    exact ⟨np, args, pos, rfl, rfl, beq_iff_eq.mp h1, by simpa using h2⟩) trivial
/-- the two kinds of a method's call -/
theorem trMeth_cases (o : MExpr) (m : Str) (args : List Expr) (es : List MExpr) : trMeth o m args es = .bad ∨ trMeth o m args es = .meth o m es ∨ ∃ a b y z, m = "replace" ∧ args = [a, b] ∧ constStr a = some y ∧ constStr b = some z ∧ trMeth o m args es = .repl o y z := by
  cases hm : (m == ("replace" : Str)) with
  | false => exact .inr (.inl (if_neg (by rw [hm]; exact Bool.false_ne_true)))
  | true =>
    have e : trMeth o m args es = (match args with
      | [a, b] => match constStr a with
        | some y => match constStr b with
          | some z => .repl o y z
          | none => .bad
        | none => .bad
      | _ => .bad) := if_pos hm
    rw [e]
    cases args with
    | nil => exact .inl rfl
    | cons a args => cases args with
      | nil => exact .inl rfl
      | cons b args => cases args with
        | cons _ _ => exact .inl rfl
        | nil =>
          cases ha : constStr a with
          | none => exact .inl (by simp only [ha])
          | some y =>
            cases hb : constStr b with
            | none => exact .inl (by simp only [ha, hb])
            | some z => exact .inr (.inr ⟨a, b, y, z, beq_iff_eq.mp hm, rfl, ha, hb, by simp only [ha, hb]⟩)
theorem view_meth {Γ : Names} {v : Expr} {o : MExpr} {m : Str} {args : List Expr} {es : List MExpr} : ViewE Γ v (trMeth o m args es) := by
  rcases trMeth_cases o m args es with h | h | ⟨_, _, _, _, _, _, _, _, h⟩ <;> rw [h] <;> exact trivial
theorem viewE (Γ : Names) (v : Expr) : ViewE Γ v (tr Γ v) := by
  cases v with
  | Name x pos => exact view_name
  | List es pos => exact ⟨es, pos, rfl, rfl⟩
  | Tuple es k pos => exact ⟨es, k, pos, rfl, rfl⟩
  | Constant c k pos =>
    cases c with
    | str s => exact at_ite (P := ViewE Γ (.Constant (.str s) k pos)) (fun _ => trivial) trivial
    | int i => exact ⟨k, pos, rfl⟩
    | _ => exact trivial
  | UnaryOp op x pos => cases op <;> exact trivial
  | BoolOp op vs pos =>
    cases vs with
    | nil => exact trivial
    | cons a r => cases r with
      | nil => exact trivial
      | cons b r => exact view_bool op a b r
  | Compare l ops cs pos =>
    cases ops with
    | nil => exact trivial
    | cons o ops => cases ops with
      | cons _ _ => exact trivial
      | nil => cases cs with
        | nil => exact trivial
        | cons c cs => cases cs <;> exact trivial
  | Subscript x sl pos =>
    cases sl with
    | Slice lo hi st p => exact ⟨x, lo, hi, st, p, pos, rfl, rfl, rfl, rfl, rfl⟩
    | _ => exact trivial
  | Call fn args kws pos =>
    cases fn with
    | Name f np =>
      cases kws with
      | nil => exact view_call
      | cons _ _ => exact trivial
    | Attribute o m apos =>
      cases kws with
      | cons _ _ => exact trivial
      | nil => cases o with
        | Call _ _ _ _ => exact trivial
        | _ => exact at_ite (P := ViewE Γ (.Call (.Attribute _ m apos) args [] pos)) (fun _ => view_meth) trivial
    | _ => exact trivial
  | FormattedValue v conv spec pos =>
    cases spec with
    | some _ => cases conv with
      | ofNat _ => exact trivial
      | negSucc k => cases k <;> exact trivial
    | none => cases conv with
      | ofNat _ => exact trivial
      | negSucc k => cases k <;> exact trivial
  | ListComp elt gens sc pos =>
    cases gens with
    | nil => exact trivial
    | cons g gens =>
      obtain ⟨t, it, ifs, as⟩ := g
      cases gens with
      | nil =>
        cases as with
        | negSucc _ => exact trivial
        | ofNat k => cases k with
          | succ _ => exact trivial
          | zero => exact at_ite (P := ViewE Γ (.ListComp elt [⟨t, it, ifs, 0⟩] sc pos)) (fun _ => trivial) trivial
      | cons g2 gens =>
        obtain ⟨t2, it2, ifs2, as2⟩ := g2
        cases gens with
        | cons _ _ => cases as with
          | negSucc _ => exact trivial
          | ofNat k => cases k with
            | succ _ => exact trivial
            | zero => cases as2 with
              | negSucc _ => exact trivial
              | ofNat k2 => cases k2 <;> exact trivial
        | nil =>
          cases as with
          | negSucc _ => exact trivial
          | ofNat k => cases k with
            | succ _ => exact trivial
            | zero => cases as2 with
              | negSucc _ => exact trivial
              | ofNat k2 => cases k2 with
                | succ _ => exact trivial
                | zero => exact at_ite (P := ViewE Γ (.ListComp elt [⟨t, it, ifs, 0⟩, ⟨t2, it2, ifs2, 0⟩] sc pos)) (fun _ => trivial) trivial
  | _ => exact trivial

/-- what a statement of the small form came from -/
noncomputable def ViewS (Γ : Names) (st : Stmt) : MStmt → Prop
  | .assign x e => ∃ px v pos, st = .Assign [.Name x px] v pos ∧ tr Γ v = e
  | .bindApp x e => ∃ px o ap pos, st = .Assign [.Name x px] (.Attribute o "append" ap) pos ∧ tr Γ o = e
  | .unpack xs e => ∃ ts k tp v pos, st = .Assign [.Tuple ts k tp] v pos ∧ namesOf ts = some xs ∧ tr Γ v = e ∧ swapOk v = true
  | .popTo xs e => ∃ ts k tp o apos pos spos, st = .Assign [.Tuple ts k tp] (.Call (.Attribute o "pop" apos) [] [] pos) spos ∧ namesOf ts = some xs ∧ tr Γ o = e ∧ (apos.endLine == pos.line) = true
  | .setIdx o i e => ∃ o' i' p v pos, st = .Assign [.Subscript o' i' p] v pos ∧ tr Γ o' = o ∧ tr Γ i' = i ∧ tr Γ v = e
  | .aug x op e => ∃ px v pos, st = .AugAssign (.Name x px) op v pos ∧ tr Γ v = e
  | .callv f e => ∃ np a' pos spos, st = .Expr (.Call (.Name f np) [a'] [] pos) spos ∧ tr Γ a' = e
  | .mcall o m e => ∃ o' apos a' pos spos, st = .Expr (.Call (.Attribute o' m apos) [a'] [] pos) spos ∧ tr Γ o' = o ∧ tr Γ a' = e ∧ (apos.endLine == pos.line) = true
  | .if_ c a b => ∃ c' a' b' pos, st = .If c' a' b' pos ∧ tr Γ c' = c ∧ trSs Γ a' = a ∧ trSs Γ b' = b
  | .while_ c b => ∃ c' b' pos, st = .While c' b' [] pos ∧ tr Γ c' = c ∧ trSs Γ b' = b
  | .for_ t it b => ∃ t' it' b' pos, st = .For t' it' b' [] pos ∧ trTgt t' = t ∧ tr Γ it' = it ∧ trSs Γ b' = b
  | .ret e => ∃ e' pos, st = .Return (some e') pos ∧ tr Γ e' = e
  | .brk => ∃ pos, st = .Break pos
  | .assert_ e => ∃ e' pos, st = .Assert e' none pos ∧ tr Γ e' = e
  | .try_ b h => ∃ b' hs pos, st = .Try b' hs [] [] pos ∧ trSs Γ b' = b ∧ trHs Γ hs = h
  | .bad => True

theorem view_app {Γ : Names} {x m : Str} {px ap pos : Pos} {o : Expr} : ViewS Γ (.Assign [.Name x px] (.Attribute o m ap) pos) (trS Γ (.Assign [.Name x px] (.Attribute o m ap) pos)) :=
  at_ite (P := ViewS Γ (.Assign [.Name x px] (.Attribute o m ap) pos)) (fun h => ⟨px, o, ap, pos, by rw [beq_iff_eq.mp h], rfl⟩) trivial
theorem view_tuple {Γ : Names} {ts : List Expr} {k : Nat} {tp pos : Pos} {v : Expr} : ViewS Γ (.Assign [.Tuple ts k tp] v pos) (trS Γ (.Assign [.Tuple ts k tp] v pos)) := by
  have gen : ∀ (o : Option (List Str)), namesOf ts = o → ViewS Γ (.Assign [.Tuple ts k tp] v pos) (match o with
      | some xs => match v with
        | .Call (.Attribute o m apos) [] [] pos => if m == "pop" && apos.endLine == pos.line then .popTo xs (tr Γ o) else .bad
        | _ => if swapOk v then .unpack xs (tr Γ v) else .bad
      | none => .bad) := by
    intro o ho
    cases o with
    | none => exact trivial
    | some xs =>
      have plain : ViewS Γ (.Assign [.Tuple ts k tp] v pos) (if swapOk v then .unpack xs (tr Γ v) else .bad) := at_ite (P := ViewS Γ (.Assign [.Tuple ts k tp] v pos)) (fun h => ⟨ts, k, tp, v, pos, rfl, ho, rfl, h⟩) trivial
      cases v with
      | Call fn args kws cp =>
        cases fn with
        | Attribute ob m apos =>
          cases args with
          | cons _ _ => exact plain
          | nil => cases kws with
            | cons _ _ => exact plain
            | nil =>
              refine at_ite (P := ViewS Γ (.Assign [.Tuple ts k tp] (.Call (.Attribute ob m apos) [] [] cp) pos)) (fun h => ?_) trivial
              obtain ⟨h1, h2⟩ := Bool.and_eq_true_iff.mp h
              have h1 := beq_iff_eq.mp h1
              subst h1
              exact ⟨ts, k, tp, ob, apos, cp, pos, rfl, ho, rfl, h2⟩
        | _ => exact plain
      | _ => exact plain
  exact gen _ rfl
theorem view_expr {Γ : Names} {e : Expr} {pos : Pos} : ViewS Γ (.Expr e pos) (trS Γ (.Expr e pos)) := by
  cases e with
  | Call fn args kws cp =>
    cases fn with
    | Name f np =>
      cases args with
      | nil => exact trivial
      | cons a as => cases as with
        | cons _ _ => exact trivial
        | nil => cases kws with
          | cons _ _ => exact trivial
          | nil => exact ⟨np, a, cp, pos, rfl, rfl⟩
    | Attribute o m apos =>
      cases args with
      | nil => exact trivial
      | cons a as => cases as with
        | cons _ _ => exact trivial
        | nil => cases kws with
          | cons _ _ => exact trivial
          | nil => exact at_ite (P := ViewS Γ (.Expr (.Call (.Attribute o m apos) [a] [] cp) pos)) (fun h => ⟨o, apos, a, cp, pos, rfl, rfl, rfl, h⟩) trivial
    | _ => exact trivial
  | _ => exact trivial
theorem viewS (Γ : Names) (st : Stmt) : ViewS Γ st (trS Γ st) := by
  cases st with
  | Assign ts v pos =>
    cases ts with
    | nil => exact trivial
    | cons t ts => cases ts with
      | cons _ _ => cases t <;> exact trivial
      | nil => cases t with
        | Name x px =>
          cases v with
          | Attribute o m ap => exact view_app
          | _ => exact ⟨px, _, pos, rfl, rfl⟩
        | Tuple es k tp => exact view_tuple
        | Subscript o i p => exact ⟨o, i, p, v, pos, rfl, rfl, rfl, rfl⟩
        | _ => exact trivial
  | AugAssign t op v pos =>
    cases t with
    | Name x px => exact ⟨px, v, pos, rfl, rfl⟩
    | _ => exact trivial
  | Expr e pos => exact view_expr
  | If c a b pos => exact ⟨c, a, b, pos, rfl, rfl, rfl, rfl⟩
  | While c b e pos =>
    cases e with
    | nil => exact ⟨c, b, pos, rfl, rfl, rfl⟩
    | cons _ _ => exact trivial
  | For t it b e pos =>
    cases e with
    | nil => exact ⟨t, it, b, pos, rfl, rfl, rfl, rfl⟩
    | cons _ _ => exact trivial
  | Return v pos =>
    cases v with
    | none => exact trivial
    | some e => exact ⟨e, pos, rfl, rfl⟩
  | Break pos => exact ⟨pos, rfl⟩
  | Assert c m pos =>
    cases m with
    | none => exact ⟨c, pos, rfl, rfl⟩
    | some _ => exact trivial
  | Try b hs e f pos =>
    cases e with
    | cons _ _ => exact trivial
    | nil => cases f with
      | nil => exact ⟨b, hs, pos, rfl, rfl, rfl⟩
      | cons _ _ => exact trivial
  | _ => exact trivial
theorem vwE {Γ : Names} {v : Expr} {m : MExpr} (h : tr Γ v = m) : ViewE Γ v m := h ▸ viewE Γ v
theorem vwS {Γ : Names} {st : Stmt} {m : MStmt} (h : trS Γ st = m) : ViewS Γ st m := h ▸ viewS Γ st
section
variable {Γ : Names}
theorem inv_int {v : Expr} {i : Int} (h : tr Γ v = .const (.int i)) : ∃ k pos, v = .Constant (.int i) k pos := vwE h
theorem inv_var {v : Expr} {x : Str} (h : tr Γ v = .var x) : ∃ pos, v = .Name x pos := vwE h
theorem inv_lst {v : Expr} {es : List MExpr} (h : tr Γ v = .lst es) : ∃ es' pos, v = .List es' pos ∧ trs Γ es' = es := vwE h
theorem inv_call {v : Expr} {f : Str} {es : List MExpr} (h : tr Γ v = .call f es) : ∃ np es' pos, v = .Call (.Name f np) es' [] pos ∧ trs Γ es' = es ∧ Γ.lookup f = some .globalImplicit ∧ (f == ("__debug__" : Str)) = false := vwE h
theorem inv_slc {v : Expr} {a lo hi st : MExpr} (h : tr Γ v = .slc a lo hi st) : ∃ v' lo' hi' st' p pos, v = .Subscript v' (.Slice lo' hi' st' p) pos ∧ tr Γ v' = a ∧ trOpt Γ lo' = lo ∧ trOpt Γ hi' = hi ∧ trOpt Γ st' = st := vwE h
theorem inv_assign {st : Stmt} {x : Str} {e : MExpr} (h : trS Γ st = .assign x e) : ∃ px v pos, st = .Assign [.Name x px] v pos ∧ tr Γ v = e := vwS h
theorem inv_bindApp {st : Stmt} {x : Str} {e : MExpr} (h : trS Γ st = .bindApp x e) : ∃ px o ap pos, st = .Assign [.Name x px] (.Attribute o "append" ap) pos ∧ tr Γ o = e := vwS h
theorem inv_unpack {st : Stmt} {xs : List Str} {e : MExpr} (h : trS Γ st = .unpack xs e) : ∃ ts k tp v pos, st = .Assign [.Tuple ts k tp] v pos ∧ namesOf ts = some xs ∧ tr Γ v = e ∧ swapOk v = true := vwS h
theorem inv_setIdx {st : Stmt} {o i e : MExpr} (h : trS Γ st = .setIdx o i e) : ∃ o' i' p v pos, st = .Assign [.Subscript o' i' p] v pos ∧ tr Γ o' = o ∧ tr Γ i' = i ∧ tr Γ v = e := vwS h
theorem inv_aug {st : Stmt} {x : Str} {op : Operator} {e : MExpr} (h : trS Γ st = .aug x op e) : ∃ px v pos, st = .AugAssign (.Name x px) op v pos ∧ tr Γ v = e := vwS h
theorem inv_callv {st : Stmt} {f : Str} {e : MExpr} (h : trS Γ st = .callv f e) : ∃ np a' pos spos, st = .Expr (.Call (.Name f np) [a'] [] pos) spos ∧ tr Γ a' = e := vwS h
theorem inv_mcall {st : Stmt} {o : MExpr} {m : Str} {e : MExpr} (h : trS Γ st = .mcall o m e) : ∃ o' apos a' pos spos, st = .Expr (.Call (.Attribute o' m apos) [a'] [] pos) spos ∧ tr Γ o' = o ∧ tr Γ a' = e ∧ (apos.endLine == pos.line) = true := vwS h
theorem inv_if {st : Stmt} {c : MExpr} {a b : List MStmt} (h : trS Γ st = .if_ c a b) : ∃ c' a' b' pos, st = .If c' a' b' pos ∧ tr Γ c' = c ∧ trSs Γ a' = a ∧ trSs Γ b' = b := vwS h
theorem inv_while {st : Stmt} {c : MExpr} {b : List MStmt} (h : trS Γ st = .while_ c b) : ∃ c' b' pos, st = .While c' b' [] pos ∧ tr Γ c' = c ∧ trSs Γ b' = b := vwS h
theorem inv_for {st : Stmt} {t : MTgt} {it : MExpr} {b : List MStmt} (h : trS Γ st = .for_ t it b) : ∃ t' it' b' pos, st = .For t' it' b' [] pos ∧ trTgt t' = t ∧ tr Γ it' = it ∧ trSs Γ b' = b := vwS h
theorem inv_ret {st : Stmt} {e : MExpr} (h : trS Γ st = .ret e) : ∃ e' pos, st = .Return (some e') pos ∧ tr Γ e' = e := vwS h
theorem inv_brk {st : Stmt} (h : trS Γ st = .brk) : ∃ pos, st = .Break pos := vwS h
theorem inv_assert {st : Stmt} {e : MExpr} (h : trS Γ st = .assert_ e) : ∃ e' pos, st = .Assert e' none pos ∧ tr Γ e' = e := vwS h
end
end Mine
end

section
open PySem PySem.W PyProof.Rows
namespace Mine

noncomputable def biNames : List Str := ["len", "range", "list", "min", "chr", "object", "AssertionError", "str.replace"]
noncomputable def biMore : List Str := ["sum", "divmod", "sorted"]

noncomputable abbrev Rho := Str → Option PV
noncomputable abbrev Mu := Addr → Option (List PV)

noncomputable def upd (ρ : Rho) (x : Str) (p : PV) : Rho := fun y => if y = x then some p else ρ y
noncomputable def restr (fr : List Str) (ρ : Rho) : Rho := fun y => if y ∈ fr then ρ y else none
noncomputable def updMany : Rho → List Str → List PV → Option Rho
  | ρ, [], [] => some ρ
  | ρ, x :: xs, p :: ps => updMany (upd ρ x p) xs ps
  | _, _, _ => none
noncomputable def bindT (ρ : Rho) (t : MTgt) (p : PV) : Option Rho :=
  match t, p with
  | .one x, p => some (upd ρ x p)
  | .many xs, .tup ps => updMany ρ xs ps
  | _, _ => none

/-- an owned list seen as its items -/
noncomputable def rs (μ : Mu) : PV → PV
  | .own a => match μ a with
    | some xs => .lst xs
    | none => .own a
  | p => p

noncomputable def truth : PV → Option Bool
  | .none => some false
  | .bool b => some b
  | _ => none

noncomputable def getI {α : Type} (xs : List α) (k : Int) : Option α :=
  if 0 ≤ k then xs[k.toNat]? else if -(xs.length : Int) ≤ k then xs[(k + xs.length).toNat]? else none

noncomputable def clip (n : Nat) (i : Int) : Nat := (max 0 (min (if i < 0 then i + n else i) n)).toNat
noncomputable def sl {α : Type} (xs : List α) (lo hi : Option Int) : List α :=
  (xs.drop (lo.elim 0 (clip xs.length))).take (hi.elim xs.length (clip xs.length) - lo.elim 0 (clip xs.length))

noncomputable def zipAll (f : PV → PV → Option Bool) : List PV → List PV → Option Bool
  | a :: as, b :: bs => match f a b, zipAll f as bs with
    | some x, some y => some (x && y)
    | _, _ => none
  | _, _ => some true

noncomputable def pveq : Nat → PV → PV → Option Bool
  | 0, _, _ => none
  | n + 1, p, q => match p, q with
    | .none, .none => some true
    | .none, .bool _ => some false
    | .bool _, .none => some false
    | .bool a, .bool b => some (a == b)
    | .int a, .int b => some (a == b)
    | .str a, .str b => some (a == b)
    | .tup a, .tup b => (zipAll (pveq n) a b).map (· && a.length == b.length)
    | .lst a, .lst b => if a.length = b.length then zipAll (pveq n) a b else some false
    | _, _ => none

noncomputable def pvis (a b : PV) : Option Bool := match b with
  | .none => match a with
    | .none => some true
    | .bool _ => some false
    | .int _ => some false
    | .str _ => some false
    | .lst _ => some false
    | .tup _ => some false
    | _ => none
  | .obj y => match a with
    | .str _ => some false
    | .obj x => if x = y then some true else none
    | _ => none
  | .str _ => match a with
    | .obj _ => some false
    | _ => none
  | _ => none

noncomputable def anyEq (x : PV) : List PV → Option Bool
  | [] => some false
  | y :: ys => match pveq 8 y x, anyEq x ys with
    | some a, some b => some (a || b)
    | _, _ => none

noncomputable def pvin (a b : PV) : Option Bool := match b with
  | .lst ys => anyEq a ys
  | .tup ys => anyEq a ys
  | .str x => match a with
    | .str [c] => some (decide (c ∈ x))
    | _ => none
  | _ => none

noncomputable def rep {α : Type} (n : Nat) (xs : List α) : List α := (List.replicate n xs).flatten

theorem no {α : Type} {x : α} {P : Prop} (h : none = some x) : P := nomatch h

noncomputable def int2 (f : Int → Int → Option PV) (p q : PV) : Option PV := match p with
  | .int x => match q with
    | .int y => f x y
    | _ => none
  | _ => none
theorem int2_inv {f : Int → Int → Option PV} {p q r : PV} (h : int2 f p q = some r) : ∃ x y, p = .int x ∧ q = .int y ∧ f x y = some r := by
  cases p with
  | int x =>
    cases q with
    | int y => exact ⟨x, y, rfl, rfl, h⟩
    | _ => exact no h
  | _ => exact no h
theorem opt_if {α : Type} {c : Prop} [Decidable c] {x r : α} (h : (if c then some x else none) = some r) : c ∧ x = r := by
  by_cases hc : c
  · rw [if_pos hc] at h; exact ⟨hc, Option.some.inj h⟩
  · rw [if_neg hc] at h; exact no h

theorem oP_inv {β : Type} {o : Option (PV)} {f : PV → Option β} {r : β} (h : (match o with
    | some x => f x
    | none => none) = some r) : ∃ x, o = some x ∧ f x = some r := by
  cases o with
  | none => exact no h
  | some x => exact ⟨x, rfl, h⟩
theorem oL_inv {β : Type} {o : Option (List PV)} {f : List PV → Option β} {r : β} (h : (match o with
    | some x => f x
    | none => none) = some r) : ∃ x, o = some x ∧ f x = some r := by
  cases o with
  | none => exact no h
  | some x => exact ⟨x, rfl, h⟩
theorem oR_inv {β : Type} {o : Option (Rho)} {f : Rho → Option β} {r : β} (h : (match o with
    | some x => f x
    | none => none) = some r) : ∃ x, o = some x ∧ f x = some r := by
  cases o with
  | none => exact no h
  | some x => exact ⟨x, rfl, h⟩
theorem oN_inv {β : Type} {o : Option (List Nat)} {f : List Nat → Option β} {r : β} (h : (match o with
    | some x => f x
    | none => none) = some r) : ∃ x, o = some x ∧ f x = some r := by
  cases o with
  | none => exact no h
  | some x => exact ⟨x, rfl, h⟩
theorem oPP_inv {γ : Type} {a : Option (PV)} {b : Option (PV)} {f : PV → PV → Option γ} {r : γ} (h : (match a, b with
    | some x, some y => f x y
    | _, _ => none) = some r) : ∃ x y, a = some x ∧ b = some y ∧ f x y = some r := by
  cases a with
  | none => exact no h
  | some x => cases b with
    | none => exact no h
    | some y => exact ⟨x, y, rfl, rfl, h⟩
theorem oPL_inv {γ : Type} {a : Option (PV)} {b : Option (List PV)} {f : PV → List PV → Option γ} {r : γ} (h : (match a, b with
    | some x, some y => f x y
    | _, _ => none) = some r) : ∃ x y, a = some x ∧ b = some y ∧ f x y = some r := by
  cases a with
  | none => exact no h
  | some x => cases b with
    | none => exact no h
    | some y => exact ⟨x, y, rfl, rfl, h⟩
theorem oLL_inv {γ : Type} {a : Option (List PV)} {b : Option (List PV)} {f : List PV → List PV → Option γ} {r : γ} (h : (match a, b with
    | some x, some y => f x y
    | _, _ => none) = some r) : ∃ x y, a = some x ∧ b = some y ∧ f x y = some r := by
  cases a with
  | none => exact no h
  | some x => cases b with
    | none => exact no h
    | some y => exact ⟨x, y, rfl, rfl, h⟩
theorem ob_inv {α : Type} {o : Option Bool} {a b : Option α} {r : α} (h : (match o with
    | some true => a
    | some false => b
    | none => none) = some r) : ∃ t, o = some t ∧ (if t then a else b) = some r := by
  cases o with
  | none => exact no h
  | some t => cases t with
    | true => exact ⟨true, rfl, h⟩
    | false => exact ⟨false, rfl, h⟩
theorem map_inv {α β : Type} {o : Option α} {f : α → β} {r : β} (h : o.map f = some r) : ∃ x, o = some x ∧ f x = r := by
  cases o with
  | none => exact no h
  | some x => exact ⟨x, rfl, Option.some.inj h⟩

noncomputable def addV (p q : PV) : Option PV := match p with
  | .int x => match q with
    | .int y => some (.int (x + y))
    | _ => none
  | .str x => match q with
    | .str y => if x.length + y.length ≤ SZ then some (.str (x ++ y)) else none
    | _ => none
  | .lst x => match q with
    | .lst y => if x.length + y.length ≤ SZ then some (.lst (x ++ y)) else none
    | _ => none
  | _ => none
noncomputable def mulV (p q : PV) : Option PV := match q with
  | .int n => match p with
    | .int x => if x.natAbs < 2 ^ 60 ∧ n.natAbs < 2 ^ 60 then some (.int (x * n)) else none
    | .lst x => if 0 ≤ n ∧ x.length * n.toNat ≤ SZ ∧ n < 2 ^ 60 then some (.lst (rep n.toNat x)) else none
    | .str x => if 0 ≤ n ∧ x.length * n.toNat ≤ SZ ∧ n < 2 ^ 60 then some (.str (rep n.toNat x)) else none
    | _ => none
  | _ => none

noncomputable def evBin (μ : Mu) (op : Operator) (a b : PV) : Option PV :=
  match op with
  | .Add => addV (rs μ a) (rs μ b)
  | .Sub => int2 (fun x y => some (.int (x - y))) (rs μ a) (rs μ b)
  | .Mult => mulV (rs μ a) (rs μ b)
  | .FloorDiv => int2 (fun x y => if 0 < y ∧ y < 2 ^ 29 then some (.int (x / y)) else none) (rs μ a) (rs μ b)
  | .Mod => int2 (fun x y => if 0 < y then some (.int (x % y)) else none) (rs μ a) (rs μ b)
  | .Pow => int2 (fun x y => if x = 2 ∧ 0 ≤ y ∧ y < 64 then some (.int (2 ^ y.toNat)) else none) (rs μ a) (rs μ b)
  | _ => none

noncomputable def evCmp (μ : Mu) (op : CmpOp) (a b : PV) : Option PV :=
  match op with
  | .Eq => (pveq 8 (rs μ a) (rs μ b)).map .bool
  | .NotEq => (pveq 8 (rs μ a) (rs μ b)).map fun x => .bool !x
  | .Is => (pvis a b).map .bool
  | .IsNot => (pvis a b).map fun x => .bool !x
  | .In => (pvin a (rs μ b)).map .bool
  | .NotIn => (pvin a (rs μ b)).map fun x => .bool !x
  | .Lt => int2 (fun x y => some (.bool (decide (x < y)))) a b
  | .LtE => int2 (fun x y => some (.bool (decide (x ≤ y)))) a b
  | .Gt => int2 (fun x y => some (.bool (decide (y < x)))) a b
  | .GtE => int2 (fun x y => some (.bool (decide (y ≤ x)))) a b

noncomputable def evIdx (μ : Mu) (a i : PV) : Option PV :=
  match i with
  | .int k => match rs μ a with
    | .lst xs => getI xs k
    | .tup xs => getI xs k
    | .str xs => (getI xs k).map fun c => .str [c]
    | _ => none
  | _ => none

noncomputable def optI : PV → Option (Option Int)
  | .none => some none
  | .int i => some (some i)
  | _ => none

noncomputable def slcV (l h : Option Int) : PV → Option PV
  | .lst xs => some (.lst (sl xs l h))
  | .str xs => some (.str (sl xs l h))
  | _ => none
noncomputable def evSlc (μ : Mu) (a lo hi st : PV) : Option PV :=
  match st with
  | .none => match optI lo with
    | some l => match optI hi with
      | some h => slcV l h (rs μ a)
      | none => none
    | none => none
  | _ => none
theorem evSlc_inv {μ : Mu} {x l u k r : PV} (h : evSlc μ x l u k = some r) : ∃ lo hi, k = .none ∧ optI l = some lo ∧ optI u = some hi ∧ slcV lo hi (rs μ x) = some r := by
  cases k with
  | none =>
    have h : (match optI l with
      | some l => match optI u with
        | some h => slcV l h (rs μ x)
        | none => none
      | none => none) = some r := h
    cases h1 : optI l with
    | none => rw [h1] at h; exact no h
    | some lo =>
      rw [h1] at h
      cases h2 : optI u with
      | none => rw [h2] at h; exact no h
      | some hi => rw [h2] at h; exact ⟨lo, hi, rfl, rfl, rfl, h⟩
  | _ => exact no h

noncomputable def intsFrom (lo : Int) (n : Nat) (st : Int) : List PV := (List.range n).map fun (i : Nat) => .int (lo + (i : Int) * st)

/-- no list that may be written -/
noncomputable def notOwn : PV → Bool
  | .own _ => false
  | _ => true
/-- a value that holds no address -/
noncomputable def flat : PV → Bool
  | .none | .bool _ | .int _ | .str _ => true
  | _ => false

/-- the items that a loop meets -/
noncomputable def iterV : PV → Option (List PV)
  | .lst xs => some xs
  | .tup xs => some xs
  | .str xs => some (xs.map fun c => .str [c])
  | .rng lo n st => some (intsFrom lo n st)
  | _ => none
noncomputable def iter (μ : Mu) (p : PV) : Option (List PV) := iterV (rs μ p)

noncomputable def compRun (f : PV → Option (List PV)) : List PV → Option (List PV)
  | [] => some []
  | x :: xs => match f x, compRun f xs with
    | some a, some r => some (a ++ r)
    | _, _ => none

noncomputable def joinStrs (sep : List Nat) : List PV → Option (List Nat)
  | [] => some []
  | [.str x] => some x
  | .str x :: r => (joinStrs sep r).map fun y => x ++ sep ++ y
  | _ => none

noncomputable def catStrs : List PV → Option (List Nat)
  | [] => some []
  | .str x :: r => (catStrs r).map fun y => x ++ y
  | _ => none

/-- leftmost cuts of y in x, each put as z (y not empty) -/
noncomputable def repl (y z : List Nat) : Nat → List Nat → List Nat
  | 0, x => x
  | n + 1, x => match x with
    | [] => []
    | c :: r => if y.isPrefixOf (c :: r) then z ++ repl y z n ((c :: r).drop y.length) else c :: repl y z n r

noncomputable def arg1 (f : PV → Option PV) : List PV → Option PV
  | [p] => f p
  | _ => none
noncomputable def arg2 (f : PV → PV → Option PV) : List PV → Option PV
  | [p, q] => f p q
  | _ => none
theorem arg1_inv {f : PV → Option PV} {ps : List PV} {r : PV} (h : arg1 f ps = some r) : ∃ p, ps = [p] ∧ f p = some r := by
  cases ps with
  | nil => exact no h
  | cons p ps => cases ps with
    | nil => exact ⟨p, rfl, h⟩
    | cons _ _ => exact no h
theorem arg2_inv {f : PV → PV → Option PV} {ps : List PV} {r : PV} (h : arg2 f ps = some r) : ∃ p q, ps = [p, q] ∧ f p q = some r := by
  cases ps with
  | nil => exact no h
  | cons p ps => cases ps with
    | nil => exact no h
    | cons q ps => cases ps with
      | nil => exact ⟨p, q, rfl, h⟩
      | cons _ _ => exact no h
noncomputable def int1 (f : Int → Option PV) : PV → Option PV
  | .int i => f i
  | _ => none
theorem int1_inv {f : Int → Option PV} {p r : PV} (h : int1 f p = some r) : ∃ i, p = .int i ∧ f i = some r := by
  cases p with
  | int i => exact ⟨i, rfl, h⟩
  | _ => exact no h
noncomputable def lenV : PV → Option PV
  | .lst xs => some (.int xs.length)
  | .tup xs => some (.int xs.length)
  | .str xs => some (.int xs.length)
  | _ => none
noncomputable def listV : PV → Option PV
  | .rng lo n st => if n ≤ SZ then some (.lst (intsFrom lo n st)) else none
  | _ => none
noncomputable def rangeV (args : List PV) : Option PV := match args with
  | [p] => int1 (fun b => if b.natAbs < 2 ^ 60 then some (.rng 0 b.toNat 1) else none) p
  | [p, q] => int2 (fun a b => if a.natAbs < 2 ^ 60 ∧ b.natAbs < 2 ^ 60 then some (.rng a (b - a).toNat 1) else none) p q
  | [p, q, z] => int1 (fun c => int2 (fun a b => if a.natAbs < 2 ^ 60 ∧ b.natAbs < 2 ^ 60 ∧ c = -1 then some (.rng a (a - b).toNat (-1)) else none) p q) z
  | _ => none

noncomputable def evCall (μ : Mu) (f : Str) (args : List PV) : Option PV :=
  if f = "len" then arg1 (fun p => lenV (rs μ p)) args
  else if f = "range" then rangeV args
  else if f = "list" then arg1 listV args
  else if f = "min" then arg2 (int2 fun a b => some (.int (min a b))) args
  else if f = "chr" then arg1 (int1 fun a => if 0 ≤ a ∧ a < 1114112 then some (.str [a.toNat]) else none) args
  else none

noncomputable def evMeth (μ : Mu) (o : PV) (m : Str) (args : List PV) : Option PV :=
  if m = "join" then match o, args with
    | .str sep, [p] => match rs μ p with
      | .lst xs => match joinStrs sep xs with
        | some y => if y.length + sep.length ≤ SZ then some (.str y) else none
        | none => none
      | _ => none
    | _, _ => none
  else none

mutual
noncomputable def ev (T : Str → List PV → Option PV) (μ : Mu) : MExpr → Rho → Option PV
  | .bad, _ => none
  | .const c, _ => some c
  | .var x, ρ => ρ x
  | .bin op a b, ρ => match ev T μ a ρ, ev T μ b ρ with
    | some x, some y => evBin μ op x y
    | _, _ => none
  | .neg a, ρ => match ev T μ a ρ with
    | some (.int i) => some (.int (-i))
    | _ => none
  | .not a, ρ => match ev T μ a ρ with
    | some x => (truth x).map fun b => .bool !b
    | none => none
  | .and a b, ρ => match ev T μ a ρ with
    | some x => match truth x with
      | some true => ev T μ b ρ
      | some false => some x
      | none => none
    | none => none
  | .or a b, ρ => match ev T μ a ρ with
    | some x => match truth x with
      | some true => some x
      | some false => ev T μ b ρ
      | none => none
    | none => none
  | .cmp op a b, ρ => match ev T μ a ρ, ev T μ b ρ with
    | some x, some y => evCmp μ op x y
    | _, _ => none
  | .ite c a b, ρ => match ev T μ c ρ with
    | some x => match truth x with
      | some true => ev T μ a ρ
      | some false => ev T μ b ρ
      | none => none
    | none => none
  | .idx a i, ρ => match ev T μ a ρ, ev T μ i ρ with
    | some x, some y => evIdx μ x y
    | _, _ => none
  | .slc a lo hi st, ρ => match ev T μ a ρ, ev T μ lo ρ, ev T μ hi ρ, ev T μ st ρ with
    | some x, some l, some h, some k => evSlc μ x l h k
    | _, _, _, _ => none
  | .lst es, ρ => match evs T μ es ρ with
    | some xs => if xs.length ≤ SZ then some (.lst xs) else none
    | none => none
  | .tup es, ρ => match evs T μ es ρ with
    | some xs => if xs.length ≤ SZ then some (.tup xs) else none
    | none => none
  | .call f es, ρ => match evs T μ es ρ with
    | some xs => if f ∈ biNames then evCall μ f xs else
      if xs.all notOwn then T f xs else match T f (xs.map (rs μ)) with
        | some r => if flat r then some r else none
        | none => none
    | none => none
  | .meth o m es, ρ => match ev T μ o ρ, evs T μ es ρ with
    | some x, some xs => evMeth μ x m xs
    | _, _ => none
  | .repl o y z, ρ => match ev T μ o ρ with
    | some p => match p with
      | .str x => T "str.replace" [.str x, .str y, .str z]
      | _ => none
    | none => none
  | .fstr es, ρ => match evs T μ es ρ with
    | some xs => match catStrs xs with
      | some y => if y.length ≤ SZ ∧ 2 ≤ es.length then some (.str y) else none
      | none => none
    | none => none
  | .fmt e, ρ => match ev T μ e ρ with
    | some (.str x) => some (.str x)
    | _ => none
  | .comp1 elt t it ifs fr, ρ => match ev T μ it ρ with
    | some x => match iter μ x with
      | some items => match compRun (fun p => match bindT (restr fr ρ) t p with
          | some ρ' => match evAll T μ ifs ρ' with
            | some true => (ev T μ elt ρ').map fun y => [y]
            | some false => some []
            | none => none
          | none => none) items with
        | some ys => if ys.length ≤ SZ ∧ items.length ≤ SZ then some (.lst ys) else none
        | none => none
      | none => none
    | none => none
  | .comp2 elt t it ifs t2 it2 ifs2 fr, ρ => match ev T μ it ρ with
    | some x => match iter μ x with
      | some items => match compRun (fun p => match bindT (restr fr ρ) t p with
          | some ρ' => match evAll T μ ifs ρ' with
            | some true => match ev T μ it2 ρ' with
              | some x2 => match iter μ x2 with
                | some items2 => compRun (fun p2 => match bindT ρ' t2 p2 with
                  | some ρ'' => match evAll T μ ifs2 ρ'' with
                    | some true => (ev T μ elt ρ'').map fun y => [y]
                    | some false => some []
                    | none => none
                  | none => none) items2
                | none => none
              | none => none
            | some false => some []
            | none => none
          | none => none) items with
        | some ys => if ys.length ≤ SZ ∧ items.length ≤ SZ then some (.lst ys) else none
        | none => none
      | none => none
    | none => none
noncomputable def evs (T : Str → List PV → Option PV) (μ : Mu) : List MExpr → Rho → Option (List PV)
  | [], _ => some []
  | e :: es, ρ => match ev T μ e ρ, evs T μ es ρ with
    | some x, some xs => some (x :: xs)
    | _, _ => none
noncomputable def evAll (T : Str → List PV → Option PV) (μ : Mu) : List MExpr → Rho → Option Bool
  | [], _ => some true
  | e :: es, ρ => match ev T μ e ρ with
    | some x => match truth x with
      | some true => evAll T μ es ρ
      | some false => some false
      | none => none
    | none => none
end
end Mine
end

section
open PySem PySem.W PyProof.Rows
namespace Mine

noncomputable def Post (W : Addr → Prop) (s : Shared) (p : PV) : Value → Shared → Prop := fun v s' => Keeps s s' ∧ Rep (frz s'.heap W) p v

structure SR (W : Addr → Prop) (h : Heap) (μ : Mu) : Prop where
  wl : ∀ a, W a → ∃ o, h.get? a = some o
  ls : ∀ a xs, μ a = some xs → ∃ vs n, h.get? a = some (lObj vs n) ∧ vs.length ≤ SZ ∧ Reps (frz h W) xs vs

theorem SR.keep {W : Addr → Prop} {h h' : Heap} {μ : Mu} (S : SR W h μ) (hk : ∀ b o, h.get? b = some o → h'.get? b = some o) : SR W h' μ :=
  ⟨fun a ha => let ⟨o, ho⟩ := S.wl a ha; ⟨o, hk _ _ ho⟩, fun a xs hx => let ⟨vs, n, h1, h2, h3⟩ := S.ls a xs hx; ⟨vs, n, hk _ _ h1, h2, h3.keep hk⟩⟩
theorem SR.fresh {W : Addr → Prop} {h : Heap} {μ : Mu} (S : SR W h μ) : ¬ W h.objs.size := fun hw => by
  obtain ⟨o, ho⟩ := S.wl _ hw
  first | exact clash (fresh_none _) ho | (rw [fresh_none] at ho; cases ho)

theorem rs_lst {μ : Mu} {W : Addr → Prop} {h : Heap} (S : SR W h μ) {p : PV} {xs : List PV} {v : Value} (e : rs μ p = .lst xs) (r : Rep (frz h W) p v) :
    ∃ a vs n, v = .ref a ∧ h.get? a = some (lObj vs n) ∧ vs.length ≤ SZ ∧ Reps (frz h W) xs vs := by
  cases p with
  | own a =>
    rw [rs] at e
    cases hm : μ a with
    | none => first | exact clash hm e | (rw [hm] at e; cases e)
    | some ys =>
      first | exact clash hm e | (rw [hm] at e; cases e)
      obtain ⟨vs, n, h1, h2, h3⟩ := S.ls a xs hm
      exact ⟨a, vs, n, r, h1, h2, h3⟩
  | lst ys =>
    cases e
    have r := rep_lst.mp r
    obtain ⟨a, vs, n, rfl, hg, hl, hr⟩ := r
    exact ⟨a, vs, n, rfl, hg.1, hl, hr⟩
  | _ => cases e
theorem rs_int {μ : Mu} {p : PV} {i : Int} (e : rs μ p = .int i) : p = .int i := by
  cases p with
  | own a => rw [rs] at e; cases hm : μ a <;> rw [hm] at e <;> cases e
  | _ => exact e
theorem rs_str {μ : Mu} {p : PV} {i : List Nat} (e : rs μ p = .str i) : p = .str i := by
  cases p with
  | own a => rw [rs] at e; cases hm : μ a <;> rw [hm] at e <;> cases e
  | _ => exact e
theorem rs_tup {μ : Mu} {p : PV} {i : List PV} (e : rs μ p = .tup i) : p = .tup i := by
  cases p with
  | own a => rw [rs] at e; cases hm : μ a <;> rw [hm] at e <;> cases e
  | _ => exact e
theorem rs_rng {μ : Mu} {p : PV} {a : Int} {b : Nat} {c : Int} (e : rs μ p = .rng a b c) : p = .rng a b c := by
  cases p with
  | own a => rw [rs] at e; cases hm : μ a <;> rw [hm] at e <;> cases e
  | _ => exact e

theorem Str.len_mk (x : List Nat) : Str.length ⟨x.toArray⟩ = x.length := by simp [Str.length]
theorem Str.app_mk (x y : List Nat) : (⟨x.toArray⟩ : Str) ++ (⟨y.toArray⟩ : Str) = ⟨(x ++ y).toArray⟩ := by
  show Str.append _ _ = _
  simp [Str.append]

section
variable {prog : Program} {w : World} {A : Around} {E : Value → Shared → Prop} {s : Shared} {W : Addr → Prop} {μ : Mu}

theorem post_int {i : Int} {t n : Nat} : Post W s (.int i) (.int i t) { s with toks := n } := ⟨Keeps.tk n, t, rfl⟩
theorem post_bool {b : Bool} : Post W s (.bool b) (.bool b) s := ⟨Keeps.rfl', rep_bool.mpr rfl⟩
theorem post_str {x : List Nat} {t n : Nat} (h : x.length ≤ SZ) : Post W s (.str x) (.str ⟨x.toArray⟩ t) { s with toks := n } := ⟨Keeps.tk n, rep_str.mpr ⟨h, t, rfl⟩⟩
theorem post_tup {xs : List PV} {vs : List Value} {n tk : Nat} (S : SR W s.heap μ) (hl : vs.length ≤ SZ) (r : Reps (frz s.heap W) xs vs) :
    Post W s (.tup xs) (.ref s.heap.objs.size) { s with heap := s.heap.push (tObj vs n), toks := tk } :=
  ⟨Keeps.push _ _, rep_tup.mpr ⟨_, vs, n, rfl, ⟨Heap.get?_push_size _ rfl, S.fresh⟩, hl, r.keep fun _ _ e => Heap.get?_push_of_some _ e⟩⟩

/-- a new list: its address is new -/
noncomputable def PostL (W : Addr → Prop) (s : Shared) (xs : List PV) : Value → Shared → Prop := fun v s' =>
  Keeps s s' ∧ ∃ a vs n, v = .ref a ∧ s.heap.get? a = none ∧ s'.heap.get? a = some (lObj vs n) ∧ vs.length ≤ SZ ∧ Reps (frz s'.heap (fun b => W b ∨ b = a)) xs vs
theorem PostL.post {xs : List PV} {v : Value} {s' : Shared} (S : SR W s.heap μ) (x : PostL W s xs v s') : Post W s (.lst xs) v s' := by
  obtain ⟨k, a, vs, n, rfl, h1, h2, h3, h4⟩ := x
  refine ⟨k, ?_⟩
  exact rep_lst.mpr ⟨a, vs, n, rfl, ⟨h2, fun hw => by obtain ⟨o, ho⟩ := S.wl a hw; first | exact clash h1 ho | (rw [h1] at ho; cases ho)⟩, h3, Reps.mono (fun b o x => ⟨x.1, fun hw => x.2 (.inl hw)⟩) _ _ h4⟩
theorem postL_push {xs : List PV} {vs : List Value} {n tk : Nat} (hl : vs.length ≤ SZ) (r : Reps (frz s.heap W) xs vs) :
    PostL W s xs (.ref s.heap.objs.size) { s with heap := s.heap.push (lObj vs n), toks := tk } :=
  ⟨Keeps.push _ _, _, vs, n, rfl, fresh_none _, Heap.get?_push_size _ rfl, hl, Reps.mono (fun b o x => ⟨Heap.get?_push_of_some _ x.1, fun hw => hw.elim x.2 fun e => absurd (Heap.lt_size x.1) (by rw [e]; exact Nat.lt_irrefl _)⟩) _ _ r⟩

theorem add_lsts {a b : Addr} {vs us : List Value} {n m : Nat} {xs ys : List PV} (ha : s.heap.get? a = some (lObj vs n)) (hb : s.heap.get? b = some (lObj us m))
    (hsz : vs.length + us.length ≤ SZ) (ra : Reps (frz s.heap W) xs vs) (rb : Reps (frz s.heap W) ys us) :
    wpAny (model prog w) A (binaryOp .Add (.ref a) (.ref b)) (PostL W s (xs ++ ys)) E s := by
  refine P.add_list (items := vs.toArray) (items2 := us.toArray) (n := n) (n2 := m) ha hb ?_ (by simpa [SZ_eq] using hsz)
  have := postL_push (W := W) (s := s) (vs := vs ++ us) (n := 0) (tk := s.toks) (by simpa using hsz) (ra.append rb)
  simpa [lObj] using this
end
end Mine
end

section
open PySem PySem.W PyProof.Rows
namespace Mine

theorem rep_foldl {α : Type} (xs : List α) : ∀ (n : Nat) (acc : Array α), (List.replicate n xs.toArray).foldl (· ++ ·) acc = acc ++ (rep n xs).toArray
  | 0, acc => by simp [rep]
  | n + 1, acc => by
    rw [List.replicate_succ, List.foldl_cons, rep_foldl xs n]
    simp [rep, List.replicate_succ]
theorem rep_foldl_if {α : Type} (xs : List α) (n : Nat) : (List.replicate (if xs.toArray.isEmpty = true then 0 else n) xs.toArray).foldl (· ++ ·) #[] = (rep n xs).toArray := by
  rw [rep_foldl]
  cases xs with
  | nil => simp [rep]
  | cons x xs => simp
theorem rep_length {α : Type} (xs : List α) : ∀ n : Nat, (rep n xs).length = n * xs.length
  | 0 => by simp [rep]
  | n + 1 => by
    have := rep_length xs n
    simp only [rep, List.replicate_succ, List.flatten_cons, List.length_append] at this ⊢
    rw [this, Nat.succ_mul, Nat.add_comm]
theorem Reps.rep {g : Gr} {ps : List PV} {vs : List Value} (r : Reps g ps vs) : ∀ n : Nat, Reps g (rep n ps) (Mine.rep n vs)
  | 0 => Reps.nil
  | n + 1 => by
    have := Reps.rep r n
    simp only [Mine.rep, List.replicate_succ, List.flatten_cons] at this ⊢
    exact r.append this

section
variable {prog : Program} {w : World} {A : Around} {E : Value → Shared → Prop} {s : Shared} {W : Addr → Prop} {μ : Mu}

theorem mul_lst {l : Addr} {vs : List Value} {k : Nat} {x : Int} {u : Tok} {xs : List PV} (hl : s.heap.get? l = some (lObj vs k)) (h0 : 0 ≤ x) (hx : x < 2 ^ 60) (hsz : vs.length * x.toNat ≤ SZ)
    (r : Reps (frz s.heap W) xs vs) : wpAny (model prog w) A (binaryOp .Mult (.ref l) (.int x u)) (PostL W s (rep x.toNat xs)) E s := by
  have hsz' : vs.toArray.size * x.toNat ≤ 2 ^ 24 := by simpa [SZ] using hsz
  refine wpAny_binaryOp_repeat_ref (T := "list") (U := "int") (by decide) ⟨_, hl, rfl⟩ (fun s' => typeIs_int s' x u) noFill_list_mul F.fills_int_mul F.slot_int_rmul repeat_list F.slot_int_index.lookup
    (call_meets F.slot_int_rmul (typeIs_int s x u) F.entry_int_rmul (F.args_int_rmul_2 _ _) (int___rmul___int_list x u l vs.toArray k)
      ⟨hl, rfl, ⟨_, hl, rfl⟩, call_meets F.slot_list_mul ⟨_, hl, rfl⟩ F.entry_list_mul (F.args_list_mul_2 _ _)
        (AutoListH.list___mul___list_int_3 l vs.toArray k x u (by simp [Builtin.List.listFitsIndex]; lia) (by lia) (by simp [Builtin.List.listTooLong, sizeLine]; simpa using hsz'))
        ⟨hl, ?_⟩⟩)
  have := postL_push (W := W) (s := s) (vs := rep x.toNat vs) (n := 0) (tk := s.toks) (by rw [rep_length, Nat.mul_comm]; exact hsz) (r.rep x.toNat)
  rw [rep_foldl_if]
  exact this

theorem mul_str' {x : List Nat} {n : Int} {t u : Tok} (h0 : 0 ≤ n) (hx : n < 2 ^ 60) (hsz : x.length * n.toNat ≤ SZ) :
    wpAny (model prog w) A (binaryOp .Mult (.str ⟨x.toArray⟩ t) (.int n u)) (Post W s (.str (rep n.toNat x))) E s := by
  have hlen : (rep n.toNat x).length ≤ SZ := by rw [rep_length, Nat.mul_comm]; exact hsz
  have hxs : (⟨x.toArray⟩ : Str).length = x.length := Str.len_mk x
  refine P.mul_str (by rw [decide_eq_false (by lia), decide_eq_false (by lia)]; rfl) (fun h1 h2 => ?_) (fun _ _ => ?_) ?_
  · rw [hxs]
    have hn : 1 ≤ n := by lia
    have : (x.length : Int) ≤ (2 ^ 63 - 1) / n := by
      apply Int.le_ediv_of_mul_le (by lia)
      have e : ((x.length * n.toNat : Nat) : Int) = (x.length : Int) * n := by rw [Int.natCast_mul, Int.toNat_of_nonneg h0]
      have : ((x.length * n.toNat : Nat) : Int) ≤ ((16777216 : Nat) : Int) := Int.ofNat_le.mpr hsz
      rw [← e]; lia
    lia
  · rw [hxs]; exact decide_eq_false (Nat.not_lt.mpr hsz)
  · split
    · have e : n = 0 := by lia
      subst e
      refine ⟨by decide, ?_⟩
      have := post_str (W := W) (s := s) (x := []) (t := s.toks) (n := s.toks + 1) (by decide)
      have e0 : rep (0 : Int).toNat x = [] := by simp [rep]
      rw [e0]; exact this
    · split
      · rename_i h1 h2
        simp only [Bool.or_eq_true, beq_iff_eq] at h2
        have e : rep n.toNat x = x := by
          rcases h2 with h2 | h2
          · subst h2; simp [rep]
          · rw [hxs] at h2
            have : x = [] := List.eq_nil_of_length_eq_zero h2
            subst this; simp [rep]
        rw [e]
        exact ⟨Keeps.rfl', rep_str.mpr ⟨by rw [← e]; exact hlen, t, rfl⟩⟩
      · have e : (List.replicate n.toNat x.toArray).foldl (· ++ ·) #[] = (rep n.toNat x).toArray := by rw [rep_foldl]; simp
        show Str.length ⟨_⟩ ≤ sizeLine ∧ _
        rw [show (List.replicate n.toNat (Str.mk x.toArray).cps) = List.replicate n.toNat x.toArray from rfl, e]
        exact ⟨by rw [Str.len_mk]; exact hlen, post_str hlen⟩

theorem addV_sound {p q a b r : PV} {va vb : Value} (h : addV p q = some r) (e1 : rs μ a = p) (e2 : rs μ b = q) (S : SR W s.heap μ) (ra : Rep (frz s.heap W) a va) (rb : Rep (frz s.heap W) b vb) :
    wpAny (model prog w) A (binaryOp .Add va vb) (Post W s r) E s := by
  cases p with
  | int x =>
    cases q with
    | int y =>
      cases rs_int e1; cases rs_int e2
      obtain ⟨t, rfl⟩ := rep_int.mp ra; obtain ⟨u, rfl⟩ := rep_int.mp rb
      have h : PV.int (x + y) = r := Option.some.inj h
      subst h
      exact add_int post_int
    | _ => exact no h
  | str x =>
    cases q with
    | str y =>
      cases rs_str e1; cases rs_str e2
      obtain ⟨hsz, h⟩ := opt_if h
      subst h
      obtain ⟨_, t, rfl⟩ := rep_str.mp ra; obtain ⟨_, u, rfl⟩ := rep_str.mp rb
      refine PyProof.Rows.add_str (fun t' tk => ?_) (by rw [Str.len_mk, Str.len_mk]; exact hsz)
      rw [Str.app_mk]
      exact post_str (by rw [List.length_append]; exact hsz)
    | _ => exact no h
  | lst x =>
    cases q with
    | lst y =>
      obtain ⟨hsz, h⟩ := opt_if h
      subst h
      obtain ⟨a, vs, n, rfl, h1, h2, h3⟩ := rs_lst S e1 ra
      obtain ⟨b, us, m, rfl, h4, h5, h6⟩ := rs_lst S e2 rb
      exact wpAny_mono (add_lsts h1 h4 (by rw [h3.length, h6.length]; exact hsz) h3 h6) (fun _ _ x => x.post S) fun _ _ x => x
    | _ => exact no h
  | _ => exact no h
theorem mulV_sound {p q a b r : PV} {va vb : Value} (h : mulV p q = some r) (e1 : rs μ a = p) (e2 : rs μ b = q) (S : SR W s.heap μ) (ra : Rep (frz s.heap W) a va) (rb : Rep (frz s.heap W) b vb) :
    wpAny (model prog w) A (binaryOp .Mult va vb) (Post W s r) E s := by
  cases q with
  | int n =>
    cases rs_int e2
    obtain ⟨u, rfl⟩ := rep_int.mp rb
    cases p with
    | int x =>
      cases rs_int e1
      obtain ⟨t, rfl⟩ := rep_int.mp ra
      obtain ⟨hsz, h⟩ := opt_if h
      subst h
      exact PyProof.Rows.mul_int post_int (.of_left (intBits_le_64 (by lia) (by lia)))
    | str x =>
      cases rs_str e1
      obtain ⟨hsz, h⟩ := opt_if h
      subst h
      obtain ⟨_, t, rfl⟩ := rep_str.mp ra
      exact mul_str' hsz.1 hsz.2.2 hsz.2.1
    | lst x =>
      obtain ⟨hsz, h⟩ := opt_if h
      subst h
      obtain ⟨a, vs, m, rfl, h1, h2, h3⟩ := rs_lst S e1 ra
      exact wpAny_mono (mul_lst h1 hsz.1 hsz.2.2 (by rw [h3.length]; exact hsz.2.1) h3) (fun _ _ x => x.post S) fun _ _ x => x
    | _ => exact no h
  | _ => exact no h
theorem bin_int {op : Operator} {f : Int → Int → Option PV} {a b r : PV} {va vb : Value} (h : int2 f (rs μ a) (rs μ b) = some r) (ra : Rep (frz s.heap W) a va) (rb : Rep (frz s.heap W) b vb)
    (k : ∀ x y t u, f x y = some r → wpAny (model prog w) A (binaryOp op (.int x t) (.int y u)) (Post W s r) E s) : wpAny (model prog w) A (binaryOp op va vb) (Post W s r) E s := by
  obtain ⟨x, y, e1, e2, h⟩ := int2_inv h
  cases rs_int e1; cases rs_int e2
  obtain ⟨t, rfl⟩ := rep_int.mp ra; obtain ⟨u, rfl⟩ := rep_int.mp rb
  exact k x y t u h
theorem evBin_sound {op : Operator} {a b r : PV} {va vb : Value} (h : evBin μ op a b = some r) (S : SR W s.heap μ) (ra : Rep (frz s.heap W) a va) (rb : Rep (frz s.heap W) b vb) :
    wpAny (model prog w) A (binaryOp op va vb) (Post W s r) E s := by
  cases op with
  | Add => exact addV_sound h rfl rfl S ra rb
  | Mult => exact mulV_sound h rfl rfl S ra rb
  | Sub => exact bin_int h ra rb fun x y t u h => by cases Option.some.inj h; exact PyProof.Rows.sub_int post_int
  | FloorDiv =>
    refine bin_int h ra rb fun x y t u h => ?_
    obtain ⟨hsz, h⟩ := opt_if h
    subst h
    refine floordiv_int (by lia) ?_ (.inl (PyProof.noPylong_small (by lia)))
    rw [Int.fdiv_eq_ediv_of_nonneg x (by lia)]
    exact post_int
  | Mod =>
    refine bin_int h ra rb fun x y t u h => ?_
    obtain ⟨hsz, h⟩ := opt_if h
    subst h
    refine mod_int' (by lia) ?_
    rw [Int.fmod_eq_emod_of_nonneg x (by lia)]
    exact post_int
  | Pow =>
    refine bin_int h ra rb fun x y t u h => ?_
    obtain ⟨⟨e, h0, h1⟩, h2⟩ := opt_if h
    subst e; subst h2
    exact pow_int h0 (by have : Builtin.Int.intBits 2 = 2 := by decide +kernel
                         rw [this]; lia) post_int
  | _ => exact no h
end
end Mine
end

section
open PySem PySem.W PyProof.Rows PySem.SeqAt
namespace Mine

noncomputable def pairEq (f : PV → PV → Option Bool) (as bs : List PV) (j : Nat) : Bool := match as[j]?, bs[j]? with
  | some a, some b => (f a b).getD true
  | _, _ => true

theorem zipAll_cons {f : PV → PV → Option Bool} {a b : PV} {as bs : List PV} {c : Bool} (h : zipAll f (a :: as) (b :: bs) = some c) : ∃ x y, f a b = some x ∧ zipAll f as bs = some y ∧ c = (x && y) := by
  have h : (match f a b, zipAll f as bs with
    | some x, some y => some (x && y)
    | _, _ => none) = some c := h
  cases h1 : f a b with
  | none => rw [h1] at h; exact no h
  | some x => cases h2 : zipAll f as bs with
    | none => rw [h1, h2] at h; exact no h
    | some y => rw [h1, h2] at h; exact ⟨x, y, rfl, rfl, (Option.some.inj h).symm⟩
theorem zipAll_spec (f : PV → PV → Option Bool) : ∀ (as bs : List PV) (c : Bool), zipAll f as bs = some c →
    (∀ (j : Nat) a b, as[j]? = some a → bs[j]? = some b → ∃ x, f a b = some x) ∧ c = (List.range (min as.length bs.length)).all (pairEq f as bs)
  | [], bs, c, h => by
    cases Option.some.inj h
    exact ⟨fun j a b ha => by simp at ha, by simp⟩
  | a :: as, [], c, h => by
    cases Option.some.inj h
    exact ⟨fun j a b ha hb => by simp at hb, by simp⟩
  | a :: as, b :: bs, c, h => by
    obtain ⟨x, y, e1, e2, rfl⟩ := zipAll_cons h
    obtain ⟨h1, h2⟩ := zipAll_spec f as bs y e2
    refine ⟨fun j a' b' ha hb => ?_, ?_⟩
    · cases j with
      | zero => simp at ha hb; subst ha hb; exact ⟨x, e1⟩
      | succ j => simp at ha hb; exact h1 j a' b' ha hb
    · rw [h2]
      simp only [List.length_cons, Nat.succ_min_succ, List.range_succ_eq_map, List.all_cons, List.all_map]
      congr 1
      simp [pairEq, e1]

theorem Reps.at {g : Gr} {ps : List PV} {vs : List Value} (r : Reps g ps vs) {j : Nat} (h : j < vs.length) : ∃ p, ps[j]? = some p ∧ Rep g p vs[j] := r.get' j _ (List.getElem?_eq_getElem h)

theorem frz_fun {h : Heap} {W : Addr → Prop} {a : Addr} {o o' : Obj} (x : frz h W a o) (y : frz h W a o') : o = o' := by
  have := x.1.symm.trans y.1; injection this

theorem zipAll_same {g : Gr} {f : PV → PV → Option Bool} (hf : ∀ p q b v, f p q = some b → Rep g p v → Rep g q v → b = true) : ∀ (as bs : List PV) (vs : List Value) (c : Bool), zipAll f as bs = some c → Reps g as vs → Reps g bs vs → c = true
  | [], bs, vs, c, h, _, _ => (Option.some.inj h).symm
  | a :: as, [], vs, c, h, _, _ => (Option.some.inj h).symm
  | a :: as, b :: bs, vs, c, h, r1, r2 => by
    obtain ⟨x, y, e1, e2, rfl⟩ := zipAll_cons h
    obtain ⟨v, vs', rfl, hv, hr⟩ := reps_cons.mp r1
    obtain ⟨v2, vs2, e, hv2, hr2⟩ := reps_cons.mp r2
    cases e
    rw [hf _ _ _ _ e1 hv hv2, zipAll_same hf as bs vs' y e2 hr hr2]; rfl

theorem lObj_inj {vs us : List Value} {n m : Nat} (h : lObj vs n = lObj us m) : vs = us := by
  unfold lObj at h; injection h with _ _ h _; injection h with h _; simpa using congrArg Array.toList h
theorem tObj_inj {vs us : List Value} {n m : Nat} (h : tObj vs n = tObj us m) : vs = us := by
  unfold tObj at h; injection h with _ _ h _; injection h with h _; simpa using congrArg Array.toList h

/-- how two values come to be told alike or not -/
inductive PEq (n : Nat) : PV → PV → Bool → Prop
  | nn : PEq n .none .none true
  | nb (b : Bool) : PEq n .none (.bool b) false
  | bn (b : Bool) : PEq n (.bool b) .none false
  | bb (a b : Bool) : PEq n (.bool a) (.bool b) (a == b)
  | ii (a b : Int) : PEq n (.int a) (.int b) (a == b)
  | ss (a b : List Nat) : PEq n (.str a) (.str b) (a == b)
  | tt (a b : List PV) (c : Bool) (h : (zipAll (pveq n) a b).map (· && a.length == b.length) = some c) : PEq n (.tup a) (.tup b) c
  | ll (a b : List PV) (c : Bool) (h : (if a.length = b.length then zipAll (pveq n) a b else some false) = some c) : PEq n (.lst a) (.lst b) c
theorem peq {n : Nat} {p q : PV} {b : Bool} (e : pveq (n + 1) p q = some b) : PEq n p q b := by
  cases p with
  | none =>
    cases q with
    | none => cases Option.some.inj e; exact .nn
    | bool y => cases Option.some.inj e; exact .nb y
    | _ => exact no e
  | bool x =>
    cases q with
    | none => cases Option.some.inj e; exact .bn x
    | bool y => cases Option.some.inj e; exact .bb x y
    | _ => exact no e
  | int x =>
    cases q with
    | int y => cases Option.some.inj e; exact .ii x y
    | _ => exact no e
  | str x =>
    cases q with
    | str y => cases Option.some.inj e; exact .ss x y
    | _ => exact no e
  | tup x =>
    cases q with
    | tup y => exact .tt x y b e
    | _ => exact no e
  | lst x =>
    cases q with
    | lst y => exact .ll x y b e
    | _ => exact no e
  | _ => exact no e

theorem str_rep {g : Gr} {x y : List Nat} {v : Value} (r : Rep g (.str x) v) (r' : Rep g (.str y) v) : x = y := by
  obtain ⟨_, t, rfl⟩ := rep_str.mp r
  obtain ⟨_, u, e⟩ := rep_str.mp r'
  injection e with e _; injection e with e
  exact congrArg Array.toList e
theorem tup_rep {h : Heap} {W : Addr → Prop} {x y : List PV} {v : Value} (r : Rep (frz h W) (.tup x) v) (r' : Rep (frz h W) (.tup y) v) : ∃ vs, Reps (frz h W) x vs ∧ Reps (frz h W) y vs := by
  obtain ⟨a, vs, k, rfl, hg, _, hr⟩ := rep_tup.mp r
  obtain ⟨a', us, k', e', hg', _, hr'⟩ := rep_tup.mp r'
  cases e'
  have := tObj_inj (frz_fun hg hg'); subst this
  exact ⟨vs, hr, hr'⟩
theorem lst_rep {h : Heap} {W : Addr → Prop} {x y : List PV} {v : Value} (r : Rep (frz h W) (.lst x) v) (r' : Rep (frz h W) (.lst y) v) : ∃ vs, Reps (frz h W) x vs ∧ Reps (frz h W) y vs := by
  obtain ⟨a, vs, k, rfl, hg, _, hr⟩ := rep_lst.mp r
  obtain ⟨a', us, k', e', hg', _, hr'⟩ := rep_lst.mp r'
  cases e'
  have := lObj_inj (frz_fun hg hg'); subst this
  exact ⟨vs, hr, hr'⟩
theorem pveq_same {h : Heap} {W : Addr → Prop} : ∀ (n : Nat) (p q : PV) (b : Bool) (v : Value), pveq n p q = some b → Rep (frz h W) p v → Rep (frz h W) q v → b = true
  | 0, p, q, b, v, e, _, _ => no e
  | n + 1, p, q, b, v, e, rp, rq => by
    cases peq e with
    | nn => rfl
    | nb x => cases rep_none.mp rp; cases rep_bool.mp rq
    | bn x => cases rep_none.mp rq; cases rep_bool.mp rp
    | bb x y => cases rep_bool.mp rp; cases rep_bool.mp rq; exact beq_self_eq_true x
    | ii x y => obtain ⟨t, rfl⟩ := rep_int.mp rp; obtain ⟨u, e'⟩ := rep_int.mp rq; cases e'; exact beq_self_eq_true x
    | ss x y => cases str_rep rp rq; exact beq_self_eq_true x
    | tt x y _ hz =>
      obtain ⟨vs, hr, hr'⟩ := tup_rep rp rq
      obtain ⟨c, hz, hc⟩ := Option.map_eq_some_iff.mp hz
      rw [← hc, zipAll_same (pveq_same n) _ _ _ _ hz hr hr', ← hr.length, ← hr'.length]
      exact beq_self_eq_true vs.length
    | ll x y _ hz =>
      obtain ⟨vs, hr, hr'⟩ := lst_rep rp rq
      rw [if_pos (hr.length.symm.trans hr'.length)] at hz
      exact zipAll_same (pveq_same n) _ _ _ _ hz hr hr'

theorem isList_of {h : Heap} {a : Addr} {vs : List Value} {n : Nat} (e : h.get? a = some (lObj vs n)) : h.IsList a vs.toArray := ⟨_, e, rfl, n, rfl⟩
theorem isTuple_of {h : Heap} {a : Addr} {vs : List Value} {n : Nat} (e : h.get? a = some (tObj vs n)) : h.IsTuple a vs.toArray := ⟨_, e, rfl, n, rfl⟩

theorem str_beq_mk (x y : List Nat) : ((⟨x.toArray⟩ : Str) == ⟨y.toArray⟩) = (x == y) := by
  rw [Bool.eq_iff_iff, beq_iff_eq, beq_iff_eq]
  constructor
  · intro h; injection h with h; simpa using congrArg Array.toList h
  · rintro rfl; rfl

/-- a value whose top list may be one that is written -/
noncomputable def RV (g : Gr) (h : Heap) (p : PV) (v : Value) : Prop := match p with
  | .lst xs => ∃ a vs n, v = .ref a ∧ h.get? a = some (lObj vs n) ∧ vs.length ≤ SZ ∧ Reps g xs vs
  | p => Rep g p v

theorem rs_RV {μ : Mu} {W : Addr → Prop} {h : Heap} (S : SR W h μ) {p : PV} {v : Value} (r : Rep (frz h W) p v) : RV (frz h W) h (rs μ p) v := by
  cases p with
  | own b =>
    cases hm : μ b with
    | none =>
      have : rs μ (.own b) = .own b := by rw [rs, hm]
      rw [this]; exact r
    | some xs =>
      have : rs μ (.own b) = .lst xs := by rw [rs, hm]
      rw [this]; exact rs_lst S this r
  | lst xs => exact rs_lst S (p := .lst xs) rfl r
  | _ => exact r

section
variable {A : Around} {s : Shared} {W : Addr → Prop}

theorem pair_at {n : Nat} (ih : ∀ (A : Around) (p q : PV) (b : Bool) (v u : Value), pveq n p q = some b → Rep (frz s.heap W) p v → Rep (frz s.heap W) q u → A.units + n < cLine → EqAt A s v u b)
    {as bs : List PV} {vs us : List Value} {c : Bool} (hz : zipAll (pveq n) as bs = some c) (ra : Reps (frz s.heap W) as vs) (rb : Reps (frz s.heap W) bs us) (hu : A.units + (n + 1) < cLine) :
    ∀ j (h1 : j < vs.toArray.size) (h2 : j < us.toArray.size), EqAt A.in1 s vs.toArray[j] us.toArray[j] (pairEq (pveq n) as bs j) := by
  intro j h1 h2
  obtain ⟨p, hp, rp⟩ := ra.at (j := j) (by simpa using h1)
  obtain ⟨q, hq, rq⟩ := rb.at (j := j) (by simpa using h2)
  obtain ⟨x, hx⟩ := (zipAll_spec _ _ _ _ hz).1 j p q hp hq
  have e : pairEq (pveq n) as bs j = x := by simp [pairEq, hp, hq, hx]
  rw [e]
  have := ih A.in1 p q x _ _ hx rp rq (by show A.units + 1 + n < cLine; lia)
  simpa using this

theorem rc_lists {n : Nat} (ih : ∀ (A : Around) (p q : PV) (b : Bool) (v u : Value), pveq n p q = some b → Rep (frz s.heap W) p v → Rep (frz s.heap W) q u → A.units + n < cLine → EqAt A s v u b)
    {as bs : List PV} {c : Bool} (e : (if as.length = bs.length then zipAll (pveq n) as bs else some false) = some c) {a b : Addr} {vs us : List Value} {k m : Nat} (ha : s.heap.get? a = some (lObj vs k)) (hb : s.heap.get? b = some (lObj us m))
    (ra : Reps (frz s.heap W) as vs) (rb : Reps (frz s.heap W) bs us) (hu : A.units + (n + 1) < cLine) : RcAt A s (.ref a) (.ref b) c ∧ RcNeAt A s (.ref a) (.ref b) (!c) := by
  split at e
  · rename_i hl
    have hs : vs.toArray.size = us.toArray.size := by simp [ra.length, rb.length, hl]
    have hc := (zipAll_spec _ _ _ _ e).2
    have e2 : min as.length bs.length = vs.toArray.size := by simp [ra.length, hl]
    rw [e2] at hc
    refine ⟨?_, ?_⟩
    · rw [hc]; exact RcAt.lists (isList_of ha) (isList_of hb) hs (by lia) (pair_at ih e ra rb hu)
    · rw [hc]; exact RcNeAt.lists (isList_of ha) (isList_of hb) hs (by lia) (pair_at ih e ra rb hu)
  · rename_i hl
    cases e
    have hs : (vs.toArray.size != us.toArray.size) = true := by simp [ra.length, rb.length, hl]
    exact ⟨RcAt.lists_lengths (isList_of ha) (isList_of hb) hs (by lia), RcNeAt.lists_lengths (isList_of ha) (isList_of hb) hs (by lia)⟩

theorem rc_tuples {n : Nat} (ih : ∀ (A : Around) (p q : PV) (b : Bool) (v u : Value), pveq n p q = some b → Rep (frz s.heap W) p v → Rep (frz s.heap W) q u → A.units + n < cLine → EqAt A s v u b)
    {as bs : List PV} {c : Bool} (e : (zipAll (pveq n) as bs).map (· && as.length == bs.length) = some c) {a b : Addr} {vs us : List Value} {k m : Nat} (ha : s.heap.get? a = some (tObj vs k)) (hb : s.heap.get? b = some (tObj us m))
    (ra : Reps (frz s.heap W) as vs) (rb : Reps (frz s.heap W) bs us) (hu : A.units + (n + 1) < cLine) : RcAt A s (.ref a) (.ref b) c ∧ RcNeAt A s (.ref a) (.ref b) (!c) := by
  cases hz : zipAll (pveq n) as bs with
  | none => first | exact clash hz e | (rw [hz] at e; cases e)
  | some x =>
    first | exact clash hz e | (rw [hz] at e; cases e)
    have hc := (zipAll_spec _ _ _ _ hz).2
    have h1 : vs.toArray.size = as.length := by simp [ra.length]
    have h2 : us.toArray.size = bs.length := by simp [rb.length]
    refine ⟨?_, ?_⟩
    · rw [hc, ← h1, ← h2]; exact RcAt.tuples (isTuple_of ha) (isTuple_of hb) (by lia) (pair_at ih hz ra rb hu)
    · rw [hc, ← h1, ← h2]; exact RcNeAt.tuples (isTuple_of ha) (isTuple_of hb) (by lia) (pair_at ih hz ra rb hu)

theorem eqAt_sound : ∀ (n : Nat) (A : Around) (p q : PV) (b : Bool) (v u : Value), pveq n p q = some b → Rep (frz s.heap W) p v → Rep (frz s.heap W) q u → A.units + n < cLine → EqAt A s v u b
  | 0, A, p, q, b, v, u, e, _, _, _ => no e
  | n + 1, A, p, q, b, v, u, e, rp, rq, hu => by
    have same := pveq_same (n + 1) p q b v e rp
    cases peq e with
    | nn => cases rep_none.mp rp; cases rep_none.mp rq; exact EqAt.same _
    | nb x => cases rep_none.mp rp; cases rep_bool.mp rq; exact EqAt.none_bool _
    | bn x => cases rep_bool.mp rp; cases rep_none.mp rq; exact EqAt.bool_none _
    | bb x y => cases rep_bool.mp rp; cases rep_bool.mp rq; exact EqAt.bool_bool _ _
    | ii x y => obtain ⟨t, rfl⟩ := rep_int.mp rp; obtain ⟨t', rfl⟩ := rep_int.mp rq; exact EqAt.int_int _ _ _ _
    | ss x y =>
      obtain ⟨_, t, rfl⟩ := rep_str.mp rp; obtain ⟨_, t', rfl⟩ := rep_str.mp rq
      rw [← str_beq_mk]
      exact EqAt.str_str (A := A) (s := s) ⟨x.toArray⟩ t ⟨y.toArray⟩ t'
    | tt x y _ hz =>
      obtain ⟨a, vs, k, rfl, hg, _, hr⟩ := rep_tup.mp rp
      obtain ⟨a', us, k', rfl, hg', _, hr'⟩ := rep_tup.mp rq
      by_cases haa : a = a'
      · subst haa; rw [same rq]; exact EqAt.same _
      · exact EqAt.of_refs haa (rc_tuples (eqAt_sound n) hz hg.1 hg'.1 hr hr' hu).1
    | ll x y _ hz =>
      obtain ⟨a, vs, k, rfl, hg, _, hr⟩ := rep_lst.mp rp
      obtain ⟨a', us, k', rfl, hg', _, hr'⟩ := rep_lst.mp rq
      by_cases haa : a = a'
      · subst haa; rw [same rq]; exact EqAt.same _
      · exact EqAt.of_refs haa (rc_lists (eqAt_sound n) hz hg.1 hg'.1 hr hr' hu).1

theorem rcAt_sound {n : Nat} {p q : PV} {b : Bool} {v u : Value} (e : pveq (n + 1) p q = some b) (rp : RV (frz s.heap W) s.heap p v) (rq : RV (frz s.heap W) s.heap q u) (hu : A.units + (n + 1) < cLine) :
    RcAt A s v u b ∧ RcNeAt A s v u (!b) := by
  cases peq e with
  | nn => cases (rep_none (g := frz s.heap W)).mp rp; cases (rep_none (g := frz s.heap W)).mp rq; exact ⟨RcAt.none_none, RcNeAt.none_none⟩
  | nb x => cases (rep_none (g := frz s.heap W)).mp rp; cases (rep_bool (g := frz s.heap W)).mp rq; exact ⟨RcAt.none_bool _, RcNeAt.none_bool _⟩
  | bn x => cases (rep_bool (g := frz s.heap W)).mp rp; cases (rep_none (g := frz s.heap W)).mp rq; exact ⟨RcAt.bool_none _, RcNeAt.bool_none _⟩
  | bb x y => cases (rep_bool (g := frz s.heap W)).mp rp; cases (rep_bool (g := frz s.heap W)).mp rq; exact ⟨RcAt.bool_bool _ _, RcNeAt.bool_bool _ _⟩
  | ii x y => obtain ⟨t, rfl⟩ := (rep_int (g := frz s.heap W)).mp rp; obtain ⟨t', rfl⟩ := (rep_int (g := frz s.heap W)).mp rq; exact ⟨RcAt.int_int _ _ _ _, RcNeAt.int_int _ _ _ _⟩
  | ss x y =>
    obtain ⟨_, t, rfl⟩ := (rep_str (g := frz s.heap W)).mp rp; obtain ⟨_, t', rfl⟩ := (rep_str (g := frz s.heap W)).mp rq
    rw [← str_beq_mk]
    exact ⟨RcAt.str_str (A := A) (s := s) ⟨x.toArray⟩ t ⟨y.toArray⟩ t', RcNeAt.str_str (A := A) (s := s) ⟨x.toArray⟩ t ⟨y.toArray⟩ t'⟩
  | tt x y _ hz =>
    obtain ⟨a, vs, k, rfl, hg, _, hr⟩ := (rep_tup (g := frz s.heap W)).mp rp
    obtain ⟨a', us, k', rfl, hg', _, hr'⟩ := (rep_tup (g := frz s.heap W)).mp rq
    exact rc_tuples (eqAt_sound n) hz hg.1 hg'.1 hr hr' hu
  | ll x y _ hz =>
    obtain ⟨a, vs, k, rfl, hg, _, hr⟩ := rp
    obtain ⟨a', us, k', rfl, hg', _, hr'⟩ := rq
    exact rc_lists (eqAt_sound n) hz hg hg' hr hr' hu
end
end Mine
end

section
open PySem PySem.W PyProof.Rows PySem.SeqAt
namespace Mine

theorem zipAll_fun {g : Gr} {f : PV → PV → Option Bool} (hf : ∀ p p' q b b' v, f p q = some b → f p' q = some b' → Rep g p v → Rep g p' v → b = b') :
    ∀ (as as' bs : List PV) (vs : List Value) (c c' : Bool), zipAll f as bs = some c → zipAll f as' bs = some c' → Reps g as vs → Reps g as' vs → c = c'
  | [], as', bs, vs, c, c', h, h', r, r' => by
    cases reps_nil.mp r
    cases as' with
    | nil => cases Option.some.inj h; cases Option.some.inj h'; rfl
    | cons a' as' => obtain ⟨v, vs', e, _⟩ := reps_cons.mp r'; cases e
  | a :: as, as', [], vs, c, c', h, h', r, r' => by
    cases as' <;> (cases Option.some.inj h; cases Option.some.inj h'; rfl)
  | a :: as, as', b :: bs, vs, c, c', h, h', r, r' => by
    have r := reps_cons.mp r; obtain ⟨v, vs', rfl, hv, hr⟩ := r
    cases as' with
    | nil => cases reps_nil.mp r'
    | cons a' as' =>
      obtain ⟨v', vs'', e, hv', hr'⟩ := reps_cons.mp r'; cases e
      obtain ⟨x, y, e1, e2, rfl⟩ := zipAll_cons h
      obtain ⟨x', y', e1', e2', rfl⟩ := zipAll_cons h'
      rw [hf _ _ _ _ _ _ e1 e1' hv hv', zipAll_fun hf as as' bs vs' _ _ e2 e2' hr hr']

noncomputable def shapeP : PV → Nat
  | .none => 0
  | .bool _ => 1
  | .int _ => 2
  | .str _ => 3
  | _ => 4
noncomputable def shapeV : Value → Nat
  | .none => 0
  | .bool _ => 1
  | .int _ _ => 2
  | .str _ _ => 3
  | _ => 4
theorem shape_of {g : Gr} {p : PV} {v : Value} (r : Rep g p v) : shapeP p = shapeV v := by
  cases p with
  | none => rw [rep_none.mp r]; rfl
  | bool _ => rw [rep_bool.mp r]; rfl
  | int _ => obtain ⟨_, e⟩ := rep_int.mp r; rw [e]; rfl
  | str _ => obtain ⟨_, _, e⟩ := rep_str.mp r; rw [e]; rfl
  | tup _ => obtain ⟨_, _, _, e, _⟩ := rep_tup.mp r; rw [e]; rfl
  | lst _ => obtain ⟨_, _, _, e, _⟩ := rep_lst.mp r; rw [e]; rfl
  | own _ => rw [rep_own.mp r]; rfl
  | obj _ => rw [rep_obj.mp r]; rfl
  | app _ => obtain ⟨_, _, e, _⟩ := rep_app.mp r; rw [e]; rfl
  | rng _ _ _ => obtain ⟨_, _, _, _, _, e, _⟩ := rep_rng.mp r; rw [e]; rfl
theorem apart_nat {a b : Nat} {P : Prop} (h : a = b) (e : Nat.beq a b = false) : P := absurd h (Nat.ne_of_beq_eq_false e)
theorem lst_tup {h : Heap} {W : Addr → Prop} {x y : List PV} {v : Value} (r : Rep (frz h W) (.lst x) v) (r' : Rep (frz h W) (.tup y) v) {P : Prop} : P := by
  obtain ⟨a, vs, k, rfl, hg, _, _⟩ := rep_lst.mp r
  obtain ⟨a', us, k', e', hg', _, _⟩ := rep_tup.mp r'
  cases e'
  have e : Value.type "list" = Value.type "tuple" := congrArg Obj.cls (frz_fun hg hg')
  exact absurd e (by decide)
theorem pveq_tups {h : Heap} {W : Addr → Prop} {n : Nat} (ih : ∀ (p p' q : PV) (b b' : Bool) (v : Value), pveq n p q = some b → pveq n p' q = some b' → Rep (frz h W) p v → Rep (frz h W) p' v → b = b') {x y : List PV} {q : PV} {b b' : Bool} {v : Value}
    (e : pveq (n + 1) (.tup x) q = some b) (e' : pveq (n + 1) (.tup y) q = some b') (rp : Rep (frz h W) (.tup x) v) (rp' : Rep (frz h W) (.tup y) v) : b = b' := by
  cases q with
  | tup z =>
    obtain ⟨vs, hr, hr'⟩ := tup_rep rp rp'
    obtain ⟨c, hz, hc⟩ := Option.map_eq_some_iff.mp e
    obtain ⟨c', hz', hc'⟩ := Option.map_eq_some_iff.mp e'
    rw [← hc, ← hc', zipAll_fun ih _ _ _ _ _ _ hz hz' hr hr', ← hr.length, ← hr'.length]
  | _ => exact no e
theorem pveq_lsts {h : Heap} {W : Addr → Prop} {n : Nat} (ih : ∀ (p p' q : PV) (b b' : Bool) (v : Value), pveq n p q = some b → pveq n p' q = some b' → Rep (frz h W) p v → Rep (frz h W) p' v → b = b') {x y : List PV} {q : PV} {b b' : Bool} {v : Value}
    (e : pveq (n + 1) (.lst x) q = some b) (e' : pveq (n + 1) (.lst y) q = some b') (rp : Rep (frz h W) (.lst x) v) (rp' : Rep (frz h W) (.lst y) v) : b = b' := by
  cases q with
  | lst z =>
    obtain ⟨vs, hr, hr'⟩ := lst_rep rp rp'
    have e : (if x.length = z.length then zipAll (pveq n) x z else some false) = some b := e
    have e' : (if y.length = z.length then zipAll (pveq n) y z else some false) = some b' := e'
    rw [← hr.length] at e; rw [← hr'.length] at e'
    by_cases hl : vs.length = z.length
    · rw [if_pos hl] at e e'
      exact zipAll_fun ih _ _ _ _ _ _ e e' hr hr'
    · rw [if_neg hl] at e e'; exact Option.some.inj (e.symm.trans e')
  | _ => exact no e
theorem pveq_fun {h : Heap} {W : Addr → Prop} : ∀ (n : Nat) (p p' q : PV) (b b' : Bool) (v : Value), pveq n p q = some b → pveq n p' q = some b' → Rep (frz h W) p v → Rep (frz h W) p' v → b = b'
  | 0, p, p', q, b, b', v, e, _, _, _ => no e
  | n + 1, p, p', q, b, b', v, e, e', rp, rp' => by
    have hs : shapeP p = shapeP p' := (shape_of rp).trans (shape_of rp').symm
    have go : p = p' → b = b' := fun h => by subst h; exact Option.some.inj (e.symm.trans e')
    cases p with
    | none =>
      cases p' with
      | none => exact go rfl
      | _ => exact apart_nat hs rfl
    | bool x =>
      cases p' with
      | bool y =>
        refine go ?_
        have := (rep_bool.mp rp).symm.trans (rep_bool.mp rp')
        injection this with this; rw [this]
      | _ => exact apart_nat hs rfl
    | int x =>
      cases p' with
      | int y =>
        refine go ?_
        obtain ⟨t, e1⟩ := rep_int.mp rp
        obtain ⟨u, e2⟩ := rep_int.mp rp'
        have := e1.symm.trans e2
        injection this with this; rw [this]
      | _ => exact apart_nat hs rfl
    | str x =>
      cases p' with
      | str y => exact go (by rw [str_rep rp rp'])
      | _ => exact apart_nat hs rfl
    | tup x =>
      cases p' with
      | tup y => exact pveq_tups (pveq_fun n) e e' rp rp'
      | lst y => exact lst_tup rp' rp
      | none => exact apart_nat hs rfl
      | bool _ => exact apart_nat hs rfl
      | int _ => exact apart_nat hs rfl
      | str _ => exact apart_nat hs rfl
      | _ => exact no e'
    | lst x =>
      cases p' with
      | lst y => exact pveq_lsts (pveq_fun n) e e' rp rp'
      | tup y => exact lst_tup rp rp'
      | none => exact apart_nat hs rfl
      | bool _ => exact apart_nat hs rfl
      | int _ => exact apart_nat hs rfl
      | str _ => exact apart_nat hs rfl
      | _ => exact no e'
    | _ => exact no e

open Classical in
noncomputable def hitOf (g : Gr) (x : PV) (ys : List PV) (v : Value) : Bool := decide (∃ p ∈ ys, Rep g p v ∧ pveq 8 p x = some true)

open Classical in
theorem hitOf_true {g : Gr} {x : PV} {ys : List PV} {v : Value} : hitOf g x ys v = true ↔ ∃ p ∈ ys, Rep g p v ∧ pveq 8 p x = some true := by unfold hitOf; exact decide_eq_true_iff

theorem anyEq_spec {x : PV} : ∀ {ys : List PV} {c : Bool}, anyEq x ys = some c → (∀ y ∈ ys, ∃ b, pveq 8 y x = some b) ∧ (c = true ↔ ∃ y ∈ ys, pveq 8 y x = some true)
  | [], c, h => by simp [anyEq] at h; subst h; simp
  | y :: ys, c, h => by
    rw [anyEq] at h
    split at h
    · rename_i a b e1 e2
      cases h
      obtain ⟨h1, h2⟩ := anyEq_spec e2
      refine ⟨fun z hz => ?_, ?_⟩
      · rcases List.mem_cons.mp hz with rfl | hz
        · exact ⟨a, e1⟩
        · exact h1 z hz
      · simp only [Bool.or_eq_true, h2, List.mem_cons, exists_eq_or_imp, e1, Option.some.injEq]
    · cases h

theorem Reps.mem_of {g : Gr} {ps : List PV} {vs : List Value} (r : Reps g ps vs) {v : Value} (hv : v ∈ vs) : ∃ p ∈ ps, Rep g p v := by
  obtain ⟨i, hi, rfl⟩ := List.getElem_of_mem hv
  obtain ⟨p, hp, rp⟩ := r.at hi
  exact ⟨p, List.mem_of_getElem? hp, rp⟩
theorem Reps.mem_to {g : Gr} {ps : List PV} {vs : List Value} (r : Reps g ps vs) {p : PV} (hp : p ∈ ps) : ∃ v ∈ vs, Rep g p v := by
  obtain ⟨i, hi, rfl⟩ := List.getElem_of_mem hp
  obtain ⟨v, hv, rv⟩ := r.get i _ (List.getElem?_eq_getElem hi)
  exact ⟨v, List.mem_of_getElem? hv, rv⟩

section
variable {prog : Program} {w : World} {A : Around} {E : Value → Shared → Prop} {s : Shared} {W : Addr → Prop} {μ : Mu}

theorem hit_at {x : PV} {u : Value} {ys : List PV} {vs : List Value} {c : Bool} (e : anyEq x ys = some c) (rx : Rep (frz s.heap W) x u) (r : Reps (frz s.heap W) ys vs) (hu : A.units + 10 < cLine) :
    (∀ y, y ∈ vs.toArray → EqAt A.in1 s y u (hitOf (frz s.heap W) x ys y)) ∧ vs.toArray.any (hitOf (frz s.heap W) x ys) = c := by
  obtain ⟨h1, h2⟩ := anyEq_spec e
  have key : ∀ v ∈ vs, ∀ p ∈ ys, Rep (frz s.heap W) p v → ∀ b, pveq 8 p x = some b → hitOf (frz s.heap W) x ys v = b := by
    intro v hv p hp rp b hb
    cases b with
    | true => exact hitOf_true.mpr ⟨p, hp, rp, hb⟩
    | false =>
      rw [Bool.eq_false_iff]
      intro hh
      obtain ⟨p', hp', rp', hb'⟩ := hitOf_true.mp hh
      exact absurd (pveq_fun 8 _ _ _ _ _ _ hb hb' rp rp') (by simp)
  refine ⟨fun y hy => ?_, ?_⟩
  · have hy' : y ∈ vs := by simpa using hy
    obtain ⟨p, hp, rp⟩ := r.mem_of hy'
    obtain ⟨b, hb⟩ := h1 p hp
    rw [key y hy' p hp rp b hb]
    exact eqAt_sound 8 A.in1 p x b y u hb rp rx (by show A.units + 1 + 8 < cLine; lia)
  · rw [Bool.eq_iff_iff, h2, Array.any_eq_true']
    constructor
    · rintro ⟨v, hv, hh⟩
      have hv' : v ∈ vs := by simpa using hv
      obtain ⟨p, hp, _, hb⟩ := hitOf_true.mp hh
      exact ⟨p, hp, hb⟩
    · rintro ⟨p, hp, hb⟩
      obtain ⟨v, hv, rv⟩ := r.mem_to hp
      exact ⟨v, by simpa using hv, key v hv p hp rv true hb⟩

/-- both ways to ask for the very object -/
noncomputable def IsBoth (prog : Program) (w : World) (A : Around) (E : Value → Shared → Prop) (W : Addr → Prop) (s : Shared) (va vb : Value) (c : Bool) : Prop :=
  wpAny (model prog w) A (compareOp .Is va vb) (Post W s (.bool c)) E s ∧ wpAny (model prog w) A (compareOp .IsNot va vb) (Post W s (.bool !c)) E s
theorem is_other {va vb : Value} (hp : plainIs va vb = true) (hne : va ≠ vb) : IsBoth prog w A E W s va vb false :=
  ⟨wpAny_is_other hp hne post_bool, wpAny_isNot_other hp hne post_bool⟩
theorem is_none {va vb u : Value} (hb : vb = .none) (ha : va = u) (hp : plainIs u .none = true := by rfl) (hne : u ≠ .none := by exact nofun) : IsBoth prog w A E W s va vb false := by
  subst hb; subst ha
  exact is_other hp hne
theorem is_so_str {x : List Nat} {a : Addr} {va vb : Value} (ha : Rep (frz s.heap W) (.str x) va) (hb : vb = .ref a) : IsBoth prog w A E W s va vb false ∧ IsBoth prog w A E W s vb va false := by
  obtain ⟨_, t, rfl⟩ := rep_str.mp ha
  subst hb
  exact ⟨is_other rfl (fun h => by cases h), is_other rfl (fun h => by cases h)⟩
theorem pvis_sound {a b : PV} {c : Bool} {va vb : Value} (h : pvis a b = some c) (ra : Rep (frz s.heap W) a va) (rb : Rep (frz s.heap W) b vb) : IsBoth prog w A E W s va vb c := by
  cases b with
  | none =>
    have hb := rep_none.mp rb
    cases a with
    | none =>
      cases Option.some.inj h
      cases rep_none.mp ra; subst hb
      exact ⟨wpAny_is_self rfl post_bool, wpAny_isNot_self rfl post_bool⟩
    | bool x => cases Option.some.inj h; exact is_none hb (rep_bool.mp ra)
    | int x => cases Option.some.inj h; exact (let ⟨_, e⟩ := rep_int.mp ra; is_none hb e)
    | str x => cases Option.some.inj h; exact (let ⟨_, _, e⟩ := rep_str.mp ra; is_none hb e)
    | lst x => cases Option.some.inj h; exact (let ⟨_, _, _, e, _⟩ := rep_lst.mp ra; is_none hb e)
    | tup x => cases Option.some.inj h; exact (let ⟨_, _, _, e, _⟩ := rep_tup.mp ra; is_none hb e)
    | _ => exact no h
  | obj o =>
    cases a with
    | str x => cases Option.some.inj h; exact (is_so_str ra (rep_obj.mp rb)).1
    | obj o' =>
      obtain ⟨e, h2⟩ := opt_if h
      subst e; subst h2
      cases rep_obj.mp ra; cases rep_obj.mp rb
      exact ⟨wpAny_is_ref_self post_bool, wpAny_isNot_ref_self post_bool⟩
    | _ => exact no h
  | str x =>
    cases a with
    | obj o => cases Option.some.inj h; exact (is_so_str rb (rep_obj.mp ra)).2
    | _ => exact no h
  | _ => exact no h
/-- both ways to ask whether it is in -/
noncomputable def InBoth (prog : Program) (w : World) (A : Around) (E : Value → Shared → Prop) (W : Addr → Prop) (s : Shared) (va vb : Value) (c : Bool) : Prop :=
  wpAny (model prog w) A (compareOp .In va vb) (Post W s (.bool c)) E s ∧ wpAny (model prog w) A (compareOp .NotIn va vb) (Post W s (.bool !c)) E s
theorem pvin_sound {a b p : PV} {c : Bool} {va vb : Value} (h : pvin a p = some c) (e1 : rs μ b = p) (S : SR W s.heap μ) (ra : Rep (frz s.heap W) a va) (rb : Rep (frz s.heap W) b vb) (hu : A.units + 10 < cLine) : InBoth prog w A E W s va vb c := by
  cases p with
  | lst ys =>
    obtain ⟨l, vs, n, rfl, h1, h2, h3⟩ := rs_lst S e1 rb
    have hc : anyEq a ys = some c := h
    obtain ⟨k1, k2⟩ := hit_at (A := A) hc ra h3 hu
    exact ⟨in_listAt _ (isList_of h1) k1 (by rw [k2]; exact post_bool), notIn_listAt _ (isList_of h1) k1 (by rw [k2]; exact post_bool)⟩
  | tup ys =>
    have e2 := rs_tup e1; subst e2
    obtain ⟨l, vs, n, rfl, h1, h2, h3⟩ := rep_tup.mp rb
    have hc : anyEq a ys = some c := h
    obtain ⟨k1, k2⟩ := hit_at (A := A) hc ra h3 hu
    exact ⟨in_tupleAt _ (isTuple_of h1.1) k1 (by rw [k2]; exact post_bool), notIn_tupleAt _ (isTuple_of h1.1) k1 (by rw [k2]; exact post_bool)⟩
  | str x =>
    have e2 := rs_str e1; subst e2
    cases a with
    | str z =>
      cases z with
      | nil => exact no h
      | cons ch z =>
        cases z with
        | cons _ _ => exact no h
        | nil =>
          cases Option.some.inj h
          obtain ⟨_, t, rfl⟩ := rep_str.mp rb
          obtain ⟨_, u, rfl⟩ := rep_str.mp ra
          exact ⟨P.in_str (by rw [StrLaws.found_one]; exact post_bool), P.notIn_str (by rw [StrLaws.found_one]; exact post_bool)⟩
    | _ => exact no h
  | _ => exact no h
theorem cmp_int {op : CmpOp} {f : Int → Int → Option PV} {a b r : PV} {va vb : Value} (h : int2 f a b = some r) (ra : Rep (frz s.heap W) a va) (rb : Rep (frz s.heap W) b vb)
    (k : ∀ x y t u, f x y = some r → wpAny (model prog w) A (compareOp op (.int x t) (.int y u)) (Post W s r) E s) : wpAny (model prog w) A (compareOp op va vb) (Post W s r) E s := by
  obtain ⟨x, y, e1, e2, h⟩ := int2_inv h
  subst e1; subst e2
  obtain ⟨t, rfl⟩ := rep_int.mp ra; obtain ⟨u, rfl⟩ := rep_int.mp rb
  exact k x y t u h
theorem evCmp_sound {op : CmpOp} {a b r : PV} {va vb : Value} (h : evCmp μ op a b = some r) (S : SR W s.heap μ) (ra : Rep (frz s.heap W) a va) (rb : Rep (frz s.heap W) b vb) (hu : A.units + 10 < cLine) :
    wpAny (model prog w) A (compareOp op va vb) (Post W s r) E s := by
  have hu8 : A.units + 8 < cLine := Nat.lt_of_le_of_lt (Nat.add_le_add_left (by decide) _) hu
  cases op with
  | Eq =>
    obtain ⟨c, hc, rfl⟩ := Option.map_eq_some_iff.mp h
    exact (rcAt_sound hc (rs_RV S ra) (rs_RV S rb) hu8).1 prog w E _ post_bool
  | NotEq =>
    obtain ⟨c, hc, rfl⟩ := Option.map_eq_some_iff.mp h
    exact (rcAt_sound hc (rs_RV S ra) (rs_RV S rb) hu8).2 prog w E _ post_bool
  | Lt => exact cmp_int h ra rb fun x y t u h => by cases Option.some.inj h; exact PyProof.Rows.lt_int post_bool
  | LtE => exact cmp_int h ra rb fun x y t u h => by cases Option.some.inj h; exact PyProof.Rows.le_int post_bool
  | Gt => exact cmp_int h ra rb fun x y t u h => by cases Option.some.inj h; exact PyProof.Rows.gt_int post_bool
  | GtE => exact cmp_int h ra rb fun x y t u h => by cases Option.some.inj h; exact PyProof.Rows.ge_int post_bool
  | Is =>
    obtain ⟨c, hc, rfl⟩ := Option.map_eq_some_iff.mp h
    exact (pvis_sound hc ra rb).1
  | IsNot =>
    obtain ⟨c, hc, rfl⟩ := Option.map_eq_some_iff.mp h
    exact (pvis_sound hc ra rb).2
  | In =>
    obtain ⟨c, hc, rfl⟩ := Option.map_eq_some_iff.mp h
    exact (pvin_sound hc rfl S ra rb hu).1
  | NotIn =>
    obtain ⟨c, hc, rfl⟩ := Option.map_eq_some_iff.mp h
    exact (pvin_sound hc rfl S ra rb hu).2
end
end Mine
end

section
open PySem PySem.W PyProof.Rows PySem.SeqAt
namespace Mine

theorem getI_spec {α : Type} {xs : List α} {k : Int} {x : α} (h : getI xs k = some x) :
    (0 ≤ k ∧ k < xs.length ∧ xs[k.toNat]? = some x) ∨ (k < 0 ∧ -(xs.length : Int) ≤ k ∧ xs[(k + xs.length).toNat]? = some x) := by
  unfold getI at h
  split at h
  · rename_i h0
    refine .inl ⟨h0, ?_, h⟩
    have : k.toNat < xs.length := by
      rcases Nat.lt_or_ge k.toNat xs.length with h' | h'
      · exact h'
      · rw [List.getElem?_eq_none h'] at h; cases h
    omega
  · split at h
    · exact .inr ⟨by omega, by assumption, h⟩
    · cases h

theorem seqIndex_of_getI {α : Type} {xs : List α} {k : Int} {x : α} (h : getI xs k = some x) : ∃ j, seqIndex? k xs.length = some j ∧ xs[j]? = some x := by
  rcases getI_spec h with ⟨h0, h1, h2⟩ | ⟨h0, h1, h2⟩
  · exact ⟨_, seqIndex_of h0 h1, h2⟩
  · exact ⟨_, seqIndex_neg h0 h1, h2⟩

section
variable {prog : Program} {w : World} {A : Around} {E : Value → Shared → Prop} {s : Shared} {W : Addr → Prop} {μ : Mu} {env : Env}

/-- a subscript behind its two operands -/
theorem sub_any {value slice : Expr} {T id : String} {o i : Value} {Q : Value → Shared → Prop} (hl : typeLookup (.type T) "__getitem__" = pure (some (.builtin id))) (hT : s.TypeIs o T)
    (h : wpAny (model prog w) A (getItem o i) Q E s) :
    wpAny (model prog w) A (getitemInPython o >>= fun b => subscripted slice b o i >>= fun r => letTemporaryGo value o r >>= fun _ => pure r) Q E s := by
  refine wpAny_bind ?_
  rw [getitemInPython_of_ne hT.not_modules]
  refine wpAny_bind (wpAny_specialOf hT hl ?_)
  have fin : ∀ ops, wpAny (model prog w) A (operate ops (getItem o i)) (fun r s₃ => wpAny (model prog w) A (letTemporaryGo value o r >>= fun _ => pure r) Q E s₃) E s :=
    fun ops => wpAny_operating (wpAny_mono h (fun r s₃ h₃ => wpAny_bind (wpAny_letTemporaryGo (wpAny_pure h₃))) fun _ _ x => x)
  have fin' : wpAny (model prog w) A (subscripted slice false o i) (fun r s₃ => wpAny (model prog w) A (letTemporaryGo value o r >>= fun _ => pure r) Q E s₃) E s := by
    cases slice with
    | Slice a b c d => cases c <;> exact fin _
    | _ => exact fin _
  exact wpAny_pure (wpAny_bind fin')

theorem evIdx_sound {a i r : PV} {va vi : Value} {value slice : Expr} (h : evIdx μ a i = some r) (S : SR W s.heap μ) (ra : Rep (frz s.heap W) a va) (ri : Rep (frz s.heap W) i vi) :
    wpAny (model prog w) A (getitemInPython va >>= fun b => subscripted slice b va vi >>= fun r => letTemporaryGo value va r >>= fun _ => pure r) (Post W s r) E s := by
  cases i with
  | int k =>
    obtain ⟨t, rfl⟩ := rep_int.mp ri
    have gen : ∀ p, rs μ a = p → (match p with
      | .lst xs => getI xs k
      | .tup xs => getI xs k
      | .str xs => (getI xs k).map fun c => PV.str [c]
      | _ => none) = some r → wpAny (model prog w) A (getitemInPython va >>= fun b => subscripted slice b va (.int k t) >>= fun r => letTemporaryGo value va r >>= fun _ => pure r) (Post W s r) E s := by
      intro p e1 h
      cases p with
      | lst xs =>
        have h : getI xs k = some r := h
        obtain ⟨l, vs, n, rfl, h1, h2, h3⟩ := rs_lst S e1 ra
        refine sub_any slot_list_getitem.lookup (isList_of h1).typeIs ?_
        have hl := h3.length
        unfold SZ at h2
        rcases getI_spec h with ⟨g0, g1, g2⟩ | ⟨g0, g1, g2⟩
        · obtain ⟨v, hv, rv⟩ := h3.get _ _ g2
          exact wpAny_getItem_list (isList_of h1) g0 (by omega) (by simpa using hv) ⟨Keeps.rfl', rv⟩
        · obtain ⟨v, hv, rv⟩ := h3.get _ _ g2
          exact wpAny_getItem_list_neg (isList_of h1) g0 (by simp; omega) (by omega) (by simpa [hl] using hv) ⟨Keeps.rfl', rv⟩
      | tup xs =>
        have h : getI xs k = some r := h
        have e2 := rs_tup e1; subst e2
        obtain ⟨l, vs, n, rfl, h1, h2, h3⟩ := rep_tup.mp ra
        refine sub_any F.slot_tuple_getitem.lookup (isTuple_of h1.1).typeIs ?_
        have hl := h3.length
        unfold SZ at h2
        obtain ⟨j, hj, hx⟩ := seqIndex_of_getI h
        obtain ⟨v, hv, rv⟩ := h3.get _ _ hx
        have hb := getI_spec h
        exact P.getItem_tuple (items := vs.toArray) (n := n) (k := j) (y := v) h1.1 (by omega) (by omega) (by simpa [hl] using hj) (by simpa using hv) ⟨Keeps.rfl', rv⟩
      | str xs =>
        have e2 := rs_str e1; subst e2
        obtain ⟨c, hc, rfl⟩ := Option.map_eq_some_iff.mp h
        obtain ⟨h2, t, rfl⟩ := rep_str.mp ra
        unfold SZ at h2
        obtain ⟨j, hj, hx⟩ := seqIndex_of_getI hc
        have hb := getI_spec hc
        refine sub_any F.slot_str_getitem.lookup (typeIs_str s _ t) ?_
        refine P.getItem_str (c := c) (by rw [decide_eq_false (by omega), decide_eq_false (by omega)]; rfl) ?_ (post_str (by simp [SZ]))
        rw [Str.len_mk, hj]
        simpa using hx
      | _ => exact no h
    exact gen _ rfl h
  | _ => exact no h

theorem clip_eq : clip = clipAt := rfl
theorem sl_pick (items : List Value) (lo hi : Option Int) : slicePick items.toArray lo hi none = (sl items lo hi).toArray := by
  rw [slicePick_plain]
  simp [sl, clip_eq]
theorem Reps.sl {g : Gr} {ps : List PV} {vs : List Value} (r : Reps g ps vs) (lo hi : Option Int) : Reps g (sl ps lo hi) (Mine.sl vs lo hi) := by
  unfold Mine.sl
  rw [r.length]
  exact (r.drop _).take _
theorem sl_length {α : Type} (xs : List α) (lo hi : Option Int) : (sl xs lo hi).length ≤ xs.length := by
  unfold sl
  simp only [List.length_take, List.length_drop]
  omega

theorem strIdx_eq (lo hi : Option Int) (n : Nat) : Builtin.Str.strSliceIndices lo hi 1 n = sliceRange (sliceBounds lo hi none n).1 (sliceBounds lo hi none n).2.1 (sliceBounds lo hi none n).2.2 := by
  cases lo <;> cases hi <;> simp [Builtin.Str.strSliceIndices, sliceBounds]

theorem sl_str (x : List Nat) (lo hi : Option Int) : (Builtin.Str.strSliceIndices lo hi 1 x.length).filterMap (x.toArray[·]?) = sl x lo hi := by
  rw [strIdx_eq, sliceBounds_plain]
  simp only [sliceRange_one, pick_run]
  simp [sl, clip_eq]
theorem sl_str_len (x : List Nat) (lo hi : Option Int) : (Builtin.Str.strSliceIndices lo hi 1 x.length).length = (hi.elim x.length (clip x.length) - lo.elim 0 (clip x.length)) := by
  rw [strIdx_eq, sliceBounds_plain]
  simp only [sliceRange_one]
  simp [clip_eq]

noncomputable def tokOf : Value → Option (Int × Tok)
  | .int i t => some (i, t)
  | _ => none
theorem part_of {p : PV} {o : Option Int} {v : Value} {g : Gr} (h : optI p = some o) (r : Rep g p v) : IsPart v o ∧ v = partValue (tokOf v) ∧ (tokOf v).map (·.1) = o := by
  cases p with
  | none => cases Option.some.inj h; cases rep_none.mp r; exact ⟨.none, rfl, rfl⟩
  | int i => cases Option.some.inj h; obtain ⟨t, rfl⟩ := rep_int.mp r; exact ⟨.int i t, rfl, rfl⟩
  | _ => exact no h

noncomputable def slObj (l u st : Value) : Obj := { cls := .type "slice", data := .fields #[l, u, st] }

/-- a slice of a list is a new list -/
theorem slc_list {l a : Addr} {vs : List Value} {n : Nat} {xs : List PV} {vl vu : Value} {lo hi : Option Int} (h1 : s.heap.get? l = some (lObj vs n)) (h2 : vs.length ≤ SZ) (h3 : Reps (frz s.heap W) xs vs)
    (hs : s.heap.get? a = some (slObj vl vu .none)) (pl : IsPart vl lo) (pu : IsPart vu hi) :
    wpAny (model prog w) A (getItem (.ref l) (.ref a)) (PostL W s (sl xs lo hi)) E s := by
  refine wpAny_getItem_list_slice (isList_of h1) ⟨_, hs, rfl, rfl⟩ pl pu .none (by simp) ?_ (by simpa [SZ_eq] using h2)
  rw [sl_pick]
  exact postL_push (n := 0) (tk := s.toks) (Nat.le_trans (sl_length _ _ _) h2) (h3.sl lo hi)

theorem slc_str {x : List Nat} {t : Tok} {a : Addr} {vl vu : Value} {lo hi : Option Int} (hx : x.length ≤ SZ) (hs : s.heap.get? a = some (slObj vl vu .none)) (pl : vl = partValue (tokOf vl) ∧ (tokOf vl).map (·.1) = lo) (pu : vu = partValue (tokOf vu) ∧ (tokOf vu).map (·.1) = hi) :
    wpAny (model prog w) A (getItem (.str ⟨x.toArray⟩ t) (.ref a)) (Post W s (.str (sl x lo hi))) E s := by
  have hsl : (sl x lo hi).length ≤ SZ := Nat.le_trans (sl_length _ _ _) hx
  refine wpAny_getItem_str_slice (l := tokOf vl) (u := tokOf vu) (st := none) ⟨_, hs, rfl, by rw [← pl.1, ← pu.1]; rfl⟩ rfl ?_
  unfold sliceMade slicePicked
  rw [pl.2, pu.2, Str.len_mk]
  show Made.post (if ((1 : Int) == 1 && (Builtin.Str.strSliceIndices lo hi 1 x.length).length == x.length) = true then _ else _) _ _
  split
  · rename_i hh
    have hlen : (Builtin.Str.strSliceIndices lo hi 1 x.length).length = x.length := by simpa using hh
    rw [sl_str_len] at hlen
    have e : sl x lo hi = x := by
      unfold sl
      have h1 : lo.elim 0 (clip x.length) ≤ x.length := by cases lo <;> simp [clip]; omega
      have h2 : hi.elim x.length (clip x.length) ≤ x.length := by cases hi <;> simp [clip]; omega
      by_cases hx0 : x.length = 0
      · have : x = [] := List.eq_nil_of_length_eq_zero hx0
        subst this; simp
      · have h3 : lo.elim 0 (clip x.length) = 0 := by omega
        rw [h3] at hlen ⊢
        rw [hlen]; simp
    rw [e]
    exact ⟨Keeps.rfl', by rw [rep_str]; exact ⟨hx, t, rfl⟩⟩
  · show Str.length ⟨_⟩ ≤ sizeLine ∧ _
    rw [show ((Str.mk x.toArray).cps) = x.toArray from rfl, show (none.map (fun x : Int × Tok => x.1)).getD 1 = 1 from rfl, sl_str]
    exact ⟨by rw [Str.len_mk]; exact hsl, post_str hsl⟩
end
end Mine
end

section
open PySem PySem.W PyProof.Rows PySem.SeqAt
namespace Mine

theorem rangeSize_down (a b : Int) : Builtin.Range.rangeSize a b (-1) = if b < a then a - b else 0 := by
  unfold Builtin.Range.rangeSize
  simp only [show ¬ ((-1 : Int) > 0) by decide, if_false]
  split <;> (try simp) <;> lia
theorem small_down {a b : Int} (ha : -(2 ^ 62) ≤ a) (ha' : a < 2 ^ 62) (hb : -(2 ^ 62) ≤ b) (hb' : b < 2 ^ 62) : Builtin.Range.small a b (-1) = true := by
  unfold Builtin.Range.small
  rw [rangeSize_down]
  simp only [Builtin.Range.rangeFitsLong, Bool.and_eq_true, Bool.or_eq_true, decide_eq_true_eq, beq_iff_eq, show ¬ ((-1 : Int) > 0) by decide, if_false]
  split <;> refine ⟨⟨⟨⟨⟨?_, ?_⟩, ?_, ?_⟩, ?_, ?_⟩, ?_, ?_⟩, ?_⟩ <;> lia

theorem boot_len : bootBuiltins "len" = some (.builtin "len") := by decide +kernel
theorem boot_range : bootBuiltins "range" = some (.type "range") := by decide +kernel
theorem boot_list : bootBuiltins "list" = some (.type "list") := by decide +kernel
theorem boot_min : bootBuiltins "min" = some (.builtin "min") := by decide +kernel
theorem boot_chr : bootBuiltins "chr" = some (.builtin "chr") := by decide +kernel

theorem strsAre_of {g : Gr} {sep : List Nat} : ∀ {xs : List PV} {vs : List Value} {y : List Nat}, joinStrs sep xs = some y → Reps g xs vs →
    ∃ ys : List (List Nat), StrsAre vs (ys.map fun c => (⟨c.toArray⟩ : Str)) ∧ Str.join ⟨sep.toArray⟩ (ys.map fun c => (⟨c.toArray⟩ : Str)) = ⟨y.toArray⟩ ∧ (ys.map List.length).sum + ys.length * sep.length ≤ y.length + sep.length
  | [], vs, y, h, r => by
    cases Option.some.inj h
    cases reps_nil.mp r
    exact ⟨[], .nil, rfl, by simp⟩
  | [.str x], vs, y, h, r => by
    cases Option.some.inj h
    have r := reps_cons.mp r
    obtain ⟨v, vs', rfl, hv, hr⟩ := r
    cases reps_nil.mp hr
    obtain ⟨_, t, rfl⟩ := rep_str.mp hv
    exact ⟨[x], .cons _ _ .nil, rfl, by simp⟩
  | .str x :: p :: xs, vs, y, h, r => by
    obtain ⟨z, hz, rfl⟩ := map_inv (o := joinStrs sep (p :: xs)) (f := fun y => x ++ sep ++ y) h
    have r := reps_cons.mp r
    obtain ⟨v, vs', rfl, hv, hr⟩ := r
    obtain ⟨_, t, rfl⟩ := rep_str.mp hv
    obtain ⟨ys, h1, h2, h3⟩ := strsAre_of hz hr
    cases ys with
    | nil =>
      simp at h1
      cases h1
      have hr := reps_cons.mp hr; obtain ⟨_, _, e, _⟩ := hr; cases e
    | cons q ys =>
      refine ⟨x :: q :: ys, .cons _ _ h1, ?_, ?_⟩
      · show ⟨x.toArray⟩ ++ _ ++ Str.join _ _ = _
        rw [h2, Str.app_mk, Str.app_mk]
      · simp only [List.map_cons, List.sum_cons, List.length_cons, List.length_append, Nat.succ_mul] at h3 ⊢
        lia
  | .none :: _, vs, y, h, r => no h
  | .bool _ :: _, vs, y, h, r => no h
  | .int _ :: _, vs, y, h, r => no h
  | .tup _ :: _, vs, y, h, r => no h
  | .lst _ :: _, vs, y, h, r => no h
  | .own _ :: _, vs, y, h, r => no h
  | .obj _ :: _, vs, y, h, r => no h
  | .app _ :: _, vs, y, h, r => no h
  | .rng _ _ _ :: _, vs, y, h, r => no h

theorem reps_ints_from {g : Gr} {lo st : Int} : ∀ (l : List Value) (k : Nat), (∀ (j : Nat) (v : Value), l[j]? = some v → ∃ t, v = Value.int (lo + ((k + j : Nat) : Int) * st) t) → Reps g ((List.range' k l.length).map fun (i : Nat) => PV.int (lo + (i : Int) * st)) l
  | [], k, _ => reps_nil.mpr rfl
  | v :: l, k, hk => by
    rw [List.length_cons, List.range'_succ, List.map_cons]
    refine Reps.cons ?_ (reps_ints_from l (k + 1) fun j u hj => ?_)
    · obtain ⟨t, rfl⟩ := hk 0 v (by simp)
      rw [rep_int]; exact ⟨t, by simp⟩
    · obtain ⟨t, rfl⟩ := hk (j + 1) u (by simpa using hj)
      refine ⟨t, ?_⟩
      rw [show k + (j + 1) = k + 1 + j by lia]
theorem reps_ints {g : Gr} {lo st : Int} {n : Nat} {acc : Array Value} (h : ItemsOf (fun i v => ∃ t, v = Value.int (lo + (i : Int) * st) t) acc n) : Reps g (intsFrom lo n st) acc.toList := by
  obtain ⟨hs, hi⟩ := h
  have := reps_ints_from (g := g) (lo := lo) (st := st) acc.toList 0 fun j v hj => by
    obtain ⟨t, rfl⟩ := hi j v (by simpa using hj)
    exact ⟨t, by simp⟩
  unfold intsFrom
  rw [← hs, List.range_eq_range']
  simpa using this

section
variable {prog : Program} {w : World} {A : Around} {E : Value → Shared → Prop} {s : Shared} {W : Addr → Prop} {μ : Mu} {env : Env}

theorem reps_one {g : Gr} {p : PV} {vs : List Value} (r : Reps g [p] vs) : ∃ v, vs = [v] ∧ Rep g p v := by
  have r := reps_cons.mp r; obtain ⟨v, vs', rfl, h, hr⟩ := r
  cases reps_nil.mp hr; exact ⟨v, rfl, h⟩
theorem reps_two {g : Gr} {p q : PV} {vs : List Value} (r : Reps g [p, q] vs) : ∃ v u, vs = [v, u] ∧ Rep g p v ∧ Rep g q u := by
  have r := reps_cons.mp r; obtain ⟨v, vs', rfl, h, hr⟩ := r
  obtain ⟨u, rfl, hu⟩ := reps_one hr; exact ⟨v, u, rfl, h, hu⟩
theorem reps_three {g : Gr} {p q z : PV} {vs : List Value} (r : Reps g [p, q, z] vs) : ∃ v u x, vs = [v, u, x] ∧ Rep g p v ∧ Rep g q u ∧ Rep g z x := by
  have r := reps_cons.mp r; obtain ⟨v, vs', rfl, h, hr⟩ := r
  obtain ⟨u, x, rfl, hu, hx⟩ := reps_two hr; exact ⟨v, u, x, rfl, h, hu, hx⟩

theorem post_rng {lo b st : Int} {n : Nat} {t u x : Tok} {tk : Nat} (S : SR W s.heap μ) (h1 : Builtin.Range.small lo b st = true) (h2 : Builtin.Range.rangeSize lo b st = (n : Int)) :
    Post W s (.rng lo n st) (.ref s.heap.objs.size) { s with heap := s.heap.push (rObj lo b st t u x), toks := tk } :=
  ⟨Keeps.push _ _, by rw [rep_rng]; exact ⟨_, b, t, u, x, rfl, ⟨Heap.get?_push_size _ rfl, S.fresh⟩, h1, h2⟩⟩

theorem list_rng {lo st : Int} {n : Nat} {v : Value} (hh : A.handled = none) (r : Rep (frz s.heap W) (.rng lo n st) v) (hn : n ≤ SZ) :
    wpAny (model prog w) A (call (.type "list") [v]) (PostL W s (intsFrom lo n st)) E s := by
  obtain ⟨q, b, t, u, x, rfl, hg, h1, h2⟩ := rep_rng.mp r
  refine call_list_range hh hg.1 h1 h2 (by unfold SZ at hn; lia) fun h' tk acc c hk hg' hi => ?_
  refine ⟨⟨h', tk, rfl, hk⟩, _, acc.toList, c, rfl, fresh_none _, by simpa [lObj] using hg', by rw [Array.length_toList, hi.1]; exact hn, reps_ints hi⟩

theorem len_sound {p q r : PV} {v : Value} (h : lenV q = some r) (e : rs μ p = q) (S : SR W s.heap μ) (rv : Rep (frz s.heap W) p v) : wpAny (model prog w) A (call (.builtin "len") [v]) (Post W s r) E s := by
  cases q with
  | lst xs =>
    obtain ⟨l, vs, n, rfl, h1, h2, h3⟩ := rs_lst S e rv
    cases Option.some.inj h
    unfold SZ at h2
    refine PySem.Calls.call_len_list (isList_of h1) (by simp; lia) ?_
    rw [show (vs.toArray.size : Int) = (vs.length : Int) by simp, h3.length]
    exact post_int
  | tup xs =>
    have e2 := rs_tup e; subst e2
    cases Option.some.inj h
    obtain ⟨l, vs, n, rfl, h1, h2, h3⟩ := rep_tup.mp rv
    unfold SZ at h2
    refine P.len_tuple (items := vs.toArray) (n := n) h1.1 (by simp; lia) ?_
    rw [show (vs.toArray.size : Int) = (vs.length : Int) by simp, h3.length]
    exact post_int
  | str xs =>
    have e2 := rs_str e; subst e2
    cases Option.some.inj h
    obtain ⟨h2, t, rfl⟩ := rep_str.mp rv
    unfold SZ at h2
    refine P.len_str (by rw [Str.len_mk]; lia) ?_
    rw [Str.len_mk]
    exact post_int
  | _ => exact no h
theorem range_sound {args : List PV} {r : PV} {vs : List Value} (h : rangeV args = some r) (S : SR W s.heap μ) (R : Reps (frz s.heap W) args vs) : wpAny (model prog w) A (call (.type "range") vs) (Post W s r) E s := by
  cases args with
  | nil => exact no h
  | cons p args =>
    cases args with
    | nil =>
      obtain ⟨v, rfl, rv⟩ := reps_one R
      obtain ⟨b, rfl, h⟩ := int1_inv h
      obtain ⟨hb, h⟩ := opt_if h
      subst h
      obtain ⟨t, rfl⟩ := rep_int.mp rv
      refine call_range_1 (post_rng S (small_one (by lia) (by lia) (by lia) (by lia)) ?_)
      rw [rangeSize_one]; split <;> lia
    | cons q args =>
      cases args with
      | nil =>
        obtain ⟨v, u, rfl, rv, ru⟩ := reps_two R
        obtain ⟨a, b, rfl, rfl, h⟩ := int2_inv h
        obtain ⟨hb, h⟩ := opt_if h
        subst h
        obtain ⟨t, rfl⟩ := rep_int.mp rv
        obtain ⟨t', rfl⟩ := rep_int.mp ru
        refine call_range_2 (post_rng S (small_one (by lia) (by lia) (by lia) (by lia)) ?_)
        rw [rangeSize_one]; split <;> lia
      | cons z args =>
        cases args with
        | nil =>
          obtain ⟨v, u, x, rfl, rv, ru, rx⟩ := reps_three R
          obtain ⟨c, rfl, h⟩ := int1_inv h
          obtain ⟨a, b, rfl, rfl, h⟩ := int2_inv h
          obtain ⟨⟨_, _, rfl⟩, h3⟩ := opt_if h
          subst h3
          obtain ⟨t, rfl⟩ := rep_int.mp rv
          obtain ⟨t', rfl⟩ := rep_int.mp ru
          obtain ⟨t'', rfl⟩ := rep_int.mp rx
          refine call_range_3 (by decide) (post_rng S (small_down (by lia) (by lia) (by lia) (by lia)) ?_) (.inl (PyProof.noPylong_small (by decide)))
          rw [rangeSize_down]; split <;> lia
        | cons _ _ => exact no h

/-- the built-in functions, each with its call -/
theorem evCall_sound {f : Str} {args : List PV} {r : PV} {vs : List Value} (h : evCall μ f args = some r) (S : SR W s.heap μ) (R : Reps (frz s.heap W) args vs) (hh : A.handled = none) :
    ∃ fv, bootBuiltins f = some fv ∧ (∃ id, fv = .builtin id ∨ fv = .type id) ∧ wpAny (model prog w) A (call fv vs) (Post W s r) E s := by
  unfold evCall at h
  by_cases hf : f = "len"
  · rw [if_pos hf] at h; subst hf
    obtain ⟨p, rfl, h⟩ := arg1_inv h
    obtain ⟨v, rfl, rv⟩ := reps_one R
    exact ⟨_, boot_len, ⟨_, .inl rfl⟩, len_sound h rfl S rv⟩
  rw [if_neg hf] at h
  by_cases hf : f = "range"
  · rw [if_pos hf] at h; subst hf
    exact ⟨_, boot_range, ⟨_, .inr rfl⟩, range_sound h S R⟩
  rw [if_neg hf] at h
  by_cases hf : f = "list"
  · rw [if_pos hf] at h; subst hf
    obtain ⟨p, rfl, h⟩ := arg1_inv h
    obtain ⟨v, rfl, rv⟩ := reps_one R
    refine ⟨_, boot_list, ⟨_, .inr rfl⟩, ?_⟩
    cases p with
    | rng lo n st =>
      obtain ⟨hn, h⟩ := opt_if h
      subst h
      exact wpAny_mono (list_rng hh rv hn) (fun _ _ x => x.post S) fun _ _ x => x
    | _ => exact no h
  rw [if_neg hf] at h
  by_cases hf : f = "min"
  · rw [if_pos hf] at h; subst hf
    obtain ⟨p, q, rfl, h⟩ := arg2_inv h
    obtain ⟨v, u, rfl, rv, ru⟩ := reps_two R
    obtain ⟨a, b, rfl, rfl, h⟩ := int2_inv h
    cases Option.some.inj h
    obtain ⟨t, rfl⟩ := rep_int.mp rv
    obtain ⟨t', rfl⟩ := rep_int.mp ru
    refine ⟨_, boot_min, ⟨_, .inl rfl⟩, min_two_ints hh fun h' tk hk => ⟨⟨h', tk, rfl, hk⟩, ?_⟩⟩
    rw [rep_int]
    by_cases hc : b < a
    · rw [if_pos hc]; exact ⟨t', by congr 1; lia⟩
    · rw [if_neg hc]; exact ⟨t, by congr 1; lia⟩
  rw [if_neg hf] at h
  by_cases hf : f = "chr"
  · rw [if_pos hf] at h; subst hf
    obtain ⟨p, rfl, h⟩ := arg1_inv h
    obtain ⟨v, rfl, rv⟩ := reps_one R
    obtain ⟨a, rfl, h⟩ := int1_inv h
    obtain ⟨hc, h⟩ := opt_if h
    subst h
    obtain ⟨t, rfl⟩ := rep_int.mp rv
    exact ⟨_, boot_chr, ⟨_, .inl rfl⟩, P.chr_of_int (by rw [decide_eq_false (by lia), decide_eq_false (by lia)]; rfl) (post_str (x := [a.toNat]) (by simp [SZ]))⟩
  rw [if_neg hf] at h
  exact no h

theorem join_sound {sep y : List Nat} {xs : List PV} {v : Value} {t : Tok} {p : PV} (hj : joinStrs sep xs = some y) (hsz : y.length + sep.length ≤ SZ) (S : SR W s.heap μ) (e : rs μ p = .lst xs) (r : Rep (frz s.heap W) p v) :
    wpAny (model prog w) A (call (.builtin "str.join") [.str ⟨sep.toArray⟩ t, v]) (Post W s (.str y)) E s := by
  obtain ⟨l, vs, n, rfl, h1, h2, h3⟩ := rs_lst S e r
  obtain ⟨ys, k1, k2, k3⟩ := strsAre_of hj h3
  refine join_list (isList_of h1) (by simpa using k1) ?_ fun t' k => ?_
  · unfold SZ at hsz
    rw [Str.len_mk, List.map_map, List.length_map]
    have : (ys.map (Str.length ∘ fun c => (⟨c.toArray⟩ : Str))) = ys.map List.length := by
      apply List.map_congr_left; intro c _; exact Str.len_mk c
    rw [this]; lia
  · show Post W s (.str y) (.str (Builtin.Str.glued _ _) t') _
    rw [StrLaws.glued_eq_join, k2]
    exact post_str (by lia)
end
end Mine
end

section
open PySem PySem.W PyProof.Rows PySem.SeqAt
namespace Mine

theorem rs_lst2 {μ : Mu} {W : Addr → Prop} {h : Heap} (S : SR W h μ) {p : PV} {xs : List PV} {v : Value} (e : rs μ p = .lst xs) (r : Rep (frz h W) p v) :
    ∃ a vs n, v = .ref a ∧ h.get? a = some (lObj vs n) ∧ vs.length ≤ SZ ∧ Reps (frz h W) xs vs ∧ (¬ W a ∨ (μ a).isSome = true) := by
  cases p with
  | own a =>
    rw [rs] at e
    cases hm : μ a with
    | none => first | exact clash hm e | (rw [hm] at e; cases e)
    | some ys =>
      first | exact clash hm e | (rw [hm] at e; cases e)
      obtain ⟨vs, n, h1, h2, h3⟩ := S.ls a xs hm
      exact ⟨a, vs, n, r, h1, h2, h3, .inr (by rw [hm]; rfl)⟩
  | lst ys =>
    cases e
    have r := rep_lst.mp r
    obtain ⟨a, vs, n, rfl, hg, hl, hr⟩ := r
    exact ⟨a, vs, n, rfl, hg.1, hl, hr, .inl hg.2⟩
  | _ => cases e

/-- an iterator over items, not yet begun -/
inductive Itr (prog : Program) (w : World) (A : Around) (W : Addr → Prop) (μ : Mu) (s s₂ : Shared) (items : List PV) (it : Value) : Prop
  | mk (I : Addr) (fp : List Addr) (n : Nat) (P : Nat → Value → Prop) (St : Nat → Heap → Prop) (e : it = .ref I) (hn : n = items.length) (walk : Walks prog w A I fp [I] n P St) (hst : St 0 s₂.heap) (hI : s.heap.get? I = none)
    (hfp : ∀ b ∈ fp, b = I ∨ ((∃ o, s.heap.get? b = some o) ∧ (¬ W b ∨ (μ b).isSome = true))) (hIfp : I ∈ fp)
    (hP : ∀ i u, P i u → ∃ q, items[i]? = some q ∧ Rep (frz s.heap W) q u)
    (hgo : ∀ (i : Nat) (s' : Shared) (tgt : Expr) (v : Value) (Q : Unit → Shared → Prop) (E : Value → Shared → Prop), St i s'.heap → Q () s' → wpAny (model prog w) A (letOwnedTupleGo tgt (.ref I) v) Q E s')
    (hex : ∀ (i : Nat) (h : Heap), St i h → ∃ o, h.get? I = some o) (keeps : Keeps s s₂)

section
variable {prog : Program} {w : World} {A : Around} {E : Value → Shared → Prop} {s : Shared} {W : Addr → Prop} {μ : Mu} {env : Env}

theorem letGo_any {target : Expr} {I : Addr} {o : Obj} {T : String} {xs : Array Value} {v : Value} {Q' : Unit → Shared → Prop} {s' : Shared} (ho : s'.heap.get? I = some o) (hc : o.cls = .type T) (hd : o.data = .fields xs)
    (hT : ["enumerate", "zip", "dict_itemiterator", "dict_reverseitemiterator", "odict_iterator", "itertools.zip_longest", "itertools.pairwise"].contains T = false) (h : Q' () s') :
    wpAny (model prog w) A (letOwnedTupleGo target (.ref I) v) Q' E s' := by
  unfold letOwnedTupleGo
  cases target <;> first
    | exact wpAny_pure h
    | (cases v <;> first
        | exact wpAny_pure h
        | (refine wpAny_bind (wpAny_load ho ?_)
           rw [hc, hd]
           simp only [hT, Bool.false_and, Bool.false_eq_true, if_false]
           exact wpAny_pure h))

theorem iter_lst {v : Value} {xs : List PV} (h : ∃ a vs n, v = .ref a ∧ s.heap.get? a = some (lObj vs n) ∧ vs.length ≤ SZ ∧ Reps (frz s.heap W) xs vs ∧ (¬ W a ∨ (μ a).isSome = true)) (hh : A.handled = none) :
    wpAny (model prog w) A (pyIter v) (fun it s₂ => Itr prog w A W μ s s₂ xs it) E s := by
  obtain ⟨l, vs, n, rfl, h1, h2, h3, h4⟩ := h
  have hlt : l < s.heap.objs.size := Heap.lt_size h1
  refine wpAny_pyIter_list (isList_of h1) ⟨s.heap.objs.size, [s.heap.objs.size, l], _, _, _, rfl, ?_, Walks.list hh s.heap.objs.size l (Nat.ne_of_lt hlt) vs.toArray, ⟨⟨_, Heap.get?_push_size _ rfl, rfl, rfl⟩, (isList_of h1).at fun o e => Heap.get?_push_of_some _ e⟩, fresh_none _, ?_, List.mem_cons_self, ?_, ?_, fun i h st => let ⟨o, ho, _⟩ := st.1; ⟨o, ho⟩, Keeps.push _ _⟩
  · simp [h3.length]
  · intro b hb
    rcases List.mem_cons.mp hb with rfl | hb
    · exact .inl rfl
    · rw [List.mem_singleton.mp hb]; exact .inr ⟨⟨_, h1⟩, h4⟩
  · intro i u hu
    exact h3.get' i u (by simpa using hu)
  · intro i s' tgt v Q E st hQ
    exact letGo_listiter st.1 hQ
theorem iter_tup {v : Value} {xs : List PV} (r : Rep (frz s.heap W) (.tup xs) v) (hh : A.handled = none) : wpAny (model prog w) A (pyIter v) (fun it s₂ => Itr prog w A W μ s s₂ xs it) E s := by
  obtain ⟨l, vs, n, rfl, h1, h2, h3⟩ := rep_tup.mp r
  have hlt : l < s.heap.objs.size := Heap.lt_size h1.1
  refine wpAny_pyIter_tuple (isTuple_of h1.1) ⟨s.heap.objs.size, [s.heap.objs.size, l], _, _, _, rfl, ?_, Walks.tuple hh s.heap.objs.size l (Nat.ne_of_lt hlt) vs.toArray, ⟨⟨_, Heap.get?_push_size _ rfl, rfl, rfl⟩, (isTuple_of h1.1).at fun o e => Heap.get?_push_of_some _ e⟩, fresh_none _, ?_, List.mem_cons_self, ?_, ?_, fun i h st => let ⟨o, ho, _⟩ := st.1; ⟨o, ho⟩, Keeps.push _ _⟩
  · simp [h3.length]
  · intro b hb
    rcases List.mem_cons.mp hb with rfl | hb
    · exact .inl rfl
    · rw [List.mem_singleton.mp hb]; exact .inr ⟨⟨_, h1.1⟩, .inl h1.2⟩
  · intro i u hu
    exact h3.get' i u (by simpa using hu)
  · intro i s' tgt v Q E st hQ
    exact letGo_tupleiter st.1 hQ
theorem iter_str {v : Value} {xs : List Nat} (r : Rep (frz s.heap W) (.str xs) v) (hh : A.handled = none) : wpAny (model prog w) A (pyIter v) (fun it s₂ => Itr prog w A W μ s s₂ (xs.map fun c => .str [c]) it) E s := by
  obtain ⟨h2, t, rfl⟩ := rep_str.mp r
  have item : ∀ i u, SignAt ⟨xs.toArray⟩ i u → ∃ q, (xs.map fun c => PV.str [c])[i]? = some q ∧ Rep (frz s.heap W) q u := by
    rintro i u ⟨c, tk, hc, rfl⟩
    have hc' : xs[i]? = some c := by simpa using hc
    exact ⟨.str [c], by simp [hc'], rep_str.mpr ⟨by simp [SZ], tk, rfl⟩⟩
  have hsz : ((⟨xs.toArray⟩ : Str).cps.size) = (xs.map fun c => PV.str [c]).length := by simp
  cases ha : (⟨xs.toArray⟩ : Str).cps.all (· < 128)
  · refine wpAny_pyIter_wide ha ⟨s.heap.objs.size, [s.heap.objs.size], _, _, _, rfl, hsz, Walks.strWide hh _ ⟨xs.toArray⟩ t, ⟨_, Heap.get?_push_size _ rfl, rfl, rfl⟩, fresh_none _, fun b hb => .inl (List.mem_singleton.mp hb), List.mem_cons_self, item, ?_, fun i h st => let ⟨o, ho, _⟩ := st; ⟨o, ho⟩, Keeps.push _ _⟩
    intro i s' tgt v Q E st hQ
    obtain ⟨o, ho, hc, hd⟩ := st
    exact letGo_any ho hc hd (by decide) hQ
  · refine wpAny_pyIter_ascii ha ⟨s.heap.objs.size, [s.heap.objs.size], _, _, _, rfl, hsz, Walks.strAscii hh _ ⟨xs.toArray⟩ t, ⟨_, Heap.get?_push_size _ rfl, rfl, rfl⟩, fresh_none _, fun b hb => .inl (List.mem_singleton.mp hb), List.mem_cons_self, item, ?_, fun i h st => let ⟨o, ho, _⟩ := st; ⟨o, ho⟩, Keeps.push _ _⟩
    intro i s' tgt v Q E st hQ
    obtain ⟨o, ho, hc, hd⟩ := st
    exact letGo_any ho hc hd (by decide) hQ
theorem iter_rng {v : Value} {lo : Int} {n : Nat} {st : Int} (r : Rep (frz s.heap W) (.rng lo n st) v) (hh : A.handled = none) : wpAny (model prog w) A (pyIter v) (fun it s₂ => Itr prog w A W μ s s₂ (intsFrom lo n st) it) E s := by
  obtain ⟨q, b, t, u, x, rfl, hg, h1, h2⟩ := rep_rng.mp r
  have hsz : n = (intsFrom lo n st).length := by simp [intsFrom]
  refine wpAny_pyIter_range hg.1 h1 ?_
  refine ⟨s.heap.objs.size, [s.heap.objs.size], n, _, _, rfl, hsz, (Walks.range hh s.heap.objs.size lo st n).bound, ?_, fresh_none _, fun b hb => .inl (List.mem_singleton.mp hb), List.mem_cons_self, ?_, ?_, fun i h st => ⟨_, st⟩, Keeps.push _ _⟩
  · show IsRangeIter _ _ _ _ _
    rw [h2]
    simpa using Heap.get?_push_size s.heap (o := { cls := .type "range_iterator", data := .fields #[rawInt lo, rawInt n, rawInt st] }) rfl
  · rintro i u ⟨hi, tk, rfl⟩
    exact ⟨.int (lo + (i : Int) * st), by simp [intsFrom, hi], rep_int.mpr ⟨tk, rfl⟩⟩
  · intro i s' tgt v Q E st hQ
    exact letGo_any st rfl rfl (by decide) hQ

theorem iter_sound {p : PV} {items : List PV} {v : Value} (h : iter μ p = some items) (S : SR W s.heap μ) (r : Rep (frz s.heap W) p v) (hh : A.handled = none) :
    wpAny (model prog w) A (pyIter v) (fun it s₂ => Itr prog w A W μ s s₂ items it) E s := by
  have gen : ∀ q, rs μ p = q → iterV q = some items → wpAny (model prog w) A (pyIter v) (fun it s₂ => Itr prog w A W μ s s₂ items it) E s := by
   intro q e h
   cases q with
   | lst xs => cases Option.some.inj h; exact iter_lst (rs_lst2 S e r) hh
   | tup xs => cases Option.some.inj h; have e2 := rs_tup e; subst e2; exact iter_tup r hh
   | str xs => cases Option.some.inj h; have e2 := rs_str e; subst e2; exact iter_str r hh
   | rng lo n st => cases Option.some.inj h; have e2 := rs_rng e; subst e2; exact iter_rng r hh
   | _ => exact no h
  exact gen _ rfl h
end
end Mine
end

section
open PySem PySem.W PyProof.Rows PySem.SeqAt
namespace Mine

/-- what the law's module holds at the call: the heap then, the two tables of names -/
structure Cx where
  h0 : Heap
  mg : Str → Option Value
  mb : Str → Option Value
  tk0 : Nat

structure CxOk (C : Cx) : Prop where
  g : C.h0.Ns mainGlobals C.mg
  b : C.h0.Ns builtinsNs C.mb
  lim : C.h0.NoLimit
  bi : ∀ x ∈ biNames, C.mg x = none ∧ C.mb x = bootBuiltins x
  bi2 : ∀ x ∈ biMore, C.mg x = none ∧ C.mb x = bootBuiltins x

noncomputable def VarAt (h : Heap) (env : Env) (x : Str) (v : Value) : Prop :=
  (env.kindOf x = some .local ∧ ∃ m, h.Ns env.locals m ∧ m x = some v) ∨
  ((env.kindOf x = some .cell ∨ env.kindOf x = some .free) ∧ ∃ c, env.cells.lookup x = some c ∧ h.IsCell c (some v))

structure ER (C : Cx) (W : Addr → Prop) (env : Env) (s : Shared) (ρ : Rho) (μ : Mu) : Prop where
  kind : env.scope.kind = .function
  gl : env.globals = mainGlobals
  bl : env.builtins = builtinsNs
  base : ∀ b o, C.h0.get? b = some o → s.heap.get? b = some o
  wb : ∀ a, W a → C.h0.get? a = none
  sr : SR W s.heap μ
  vars : ∀ x p, ρ x = some p → ∃ v, VarAt s.heap env x v ∧ Rep (frz s.heap W) p v
  tk : C.tk0 ≤ s.toks
  has : ∀ x, env.kindOf x = some .cell ∨ env.kindOf x = some .free → ∃ c cv, env.cells.lookup x = some c ∧ s.heap.IsCell c cv
  apart : ∀ x y c, env.cells.lookup x = some c → env.cells.lookup y = some c → x = y
  cel : ∀ x c, env.cells.lookup x = some c → ∃ cv, s.heap.IsCell c cv

theorem VarAt.keep {h h' : Heap} {env : Env} {x : Str} {v : Value} (r : VarAt h env x v) (hk : ∀ b o, h.get? b = some o → h'.get? b = some o) : VarAt h' env x v := by
  rcases r with ⟨h1, m, hn, hm⟩ | ⟨h1, c, hc, hi⟩
  · exact .inl ⟨h1, m, hn.keeps hk, hm⟩
  · exact .inr ⟨h1, c, hc, hi.keeps hk⟩

theorem ER.keeps {C : Cx} {W : Addr → Prop} {env : Env} {s s' : Shared} {ρ : Rho} {μ : Mu} (r : ER C W env s ρ μ) (k : Keeps s s') (ht : s.toks ≤ s'.toks) : ER C W env s' ρ μ where
  kind := r.kind
  gl := r.gl
  bl := r.bl
  base := fun b o e => Keeps.k k b o (r.base b o e)
  wb := r.wb
  sr := r.sr.keep (Keeps.k k)
  vars := fun x p h => let ⟨v, h1, h2⟩ := r.vars x p h; ⟨v, h1.keep (Keeps.k k), h2.keep (Keeps.k k)⟩
  tk := Nat.le_trans r.tk ht
  has := fun x h => let ⟨c, cv, h1, h2⟩ := r.has x h; ⟨c, cv, h1, h2.keeps (Keeps.k k)⟩
  apart := r.apart
  cel := fun x c h => let ⟨cv, h2⟩ := r.cel x c h; ⟨cv, h2.keeps (Keeps.k k)⟩

section
variable {prog : Program} {w : World} {A : Around} {E : Value → Shared → Prop} {s : Shared} {W : Addr → Prop} {μ : Mu} {ρ : Rho} {env : Env} {C : Cx}

theorem name_sound {x : Str} {p : PV} {pos : Pos} (r : ER C W env s ρ μ) (h : ρ x = some p) (hx : (x == ("__debug__" : Str) || x == ("__classdict__" : Str)) = false) :
    wpAny (model prog w) A (eval (.Name x pos) env) (Post W s p) E s := by
  obtain ⟨h1, h2⟩ := Bool.or_eq_false_iff.mp hx
  obtain ⟨v, hv, rv⟩ := r.vars x p h
  refine wpAny_Name ?_ h1
  rcases hv with ⟨hk, m, hn, hm⟩ | ⟨hk | hk, c, hc, hi⟩
  · exact wpAny_loadName_local r.kind hk hn hm ⟨Keeps.rfl', rv⟩
  · exact wpAny_loadName_cell r.kind hk hc hi ⟨Keeps.rfl', rv⟩
  · exact wpAny_loadName_free r.kind hk hc hi ⟨Keeps.rfl', rv⟩ h2

/-- where a name is kept -/
noncomputable def slotOf (env : Env) (x : Str) : Addr := match env.kindOf x with
  | some .local => env.locals
  | _ => (env.cells.lookup x).getD env.locals

theorem ns_not_list {h : Heap} {a : Addr} {m : Str → Option Value} {vs : List Value} {n : Nat} (hn : h.Ns a m) (hl : h.get? a = some (lObj vs n)) : False := by
  obtain ⟨o, es, ep, ho, hd, _⟩ := hn
  first | exact clash ho hl | (rw [ho] at hl; cases hl); cases hd
theorem cell_not_list {h : Heap} {a : Addr} {v : Option Value} {vs : List Value} {n : Nat} (hn : h.IsCell a v) (hl : h.get? a = some (lObj vs n)) : False := by
  obtain ⟨o, ho, hd⟩ := hn
  first | exact clash ho hl | (rw [ho] at hl; cases hl); cases hd
theorem cell_not_ns {h : Heap} {a : Addr} {v : Option Value} {m : Str → Option Value} (hn : h.IsCell a v) (hl : h.Ns a m) : False := by
  obtain ⟨o, ho, hd⟩ := hn
  obtain ⟨o', es, ep, ho', hd', _⟩ := hl
  first | exact clash ho ho' | (rw [ho] at ho'; cases ho'); first | exact clash hd hd' | (rw [hd] at hd'; cases hd')

theorem frz_same {h h' : Heap} {W : Addr → Prop} {a : Addr} (hw : W a) (hs : Heap.SameBut a h h') : ∀ b o, frz h W b o → frz h' W b o :=
  fun b o x => ⟨hs.extBut b o (fun e => x.2 (e ▸ hw)) x.1, x.2⟩

theorem store_sound {x : Str} {p : PV} {v : Value} (r : ER C W env s ρ μ) (hns : ∃ m, s.heap.Ns env.locals m) (hk : env.kindOf x = some .local ∨ env.kindOf x = some .cell) (hw : W (slotOf env x)) (rv : Rep (frz s.heap W) p v) :
    wpAny (model prog w) A (storeName env x v) (fun _ s' => (∃ h' tk, s' = { s with heap := h', toks := tk } ∧ Heap.SameBut (slotOf env x) s.heap h' ∧ s.toks ≤ tk) ∧ ER C W env s' (upd ρ x p) μ ∧ (∃ m, s'.heap.Ns env.locals m)) E s := by
  obtain ⟨m0, hns⟩ := hns
  rcases hk with hk | hk
  · have hsl : slotOf env x = env.locals := by simp [slotOf, hk]
    rw [hsl] at hw ⊢
    refine wpAny_storeName_local hk hns (fun h' hn' hs' => ⟨⟨h', _, rfl, hs', Nat.le_succ _⟩, ?_, _, hn'⟩) (by rw [r.kind]; rfl)
    have hf := frz_same hw hs'
    refine ⟨r.kind, r.gl, r.bl, fun b o e => hs'.extBut b o (fun eb => ?_) (r.base b o e), r.wb, ⟨fun a ha => ?_, fun a xs hx => ?_⟩, fun y q hy => ?_, Nat.le_succ_of_le r.tk, fun y hy => ?_, r.apart, fun y c hc => ?_⟩
    · have := r.wb _ hw; rw [← eb, e] at this; cases this
    · by_cases ea : a = env.locals
      · subst ea; obtain ⟨o, _, _, ho, _⟩ := hn'; exact ⟨o, ho⟩
      · obtain ⟨o, ho⟩ := r.sr.wl a ha; exact ⟨o, hs'.extBut a o ea ho⟩
    · obtain ⟨vs, n, h1, h2, h3⟩ := r.sr.ls a xs hx
      exact ⟨vs, n, hs'.extBut _ _ (fun ea => ns_not_list hns (ea ▸ h1)) h1, h2, Reps.mono hf _ _ h3⟩
    · unfold upd at hy
      by_cases eyx : y = x
      · subst eyx
        simp at hy; subst hy
        exact ⟨v, .inl ⟨hk, _, hn', by simp⟩, Rep.mono hf _ _ rv⟩
      · rw [if_neg eyx] at hy
        obtain ⟨u, hu, ru⟩ := r.vars y q hy
        refine ⟨u, ?_, Rep.mono hf _ _ ru⟩
        rcases hu with ⟨k1, m1, hn1, hm1⟩ | ⟨k1, c, hc, hi⟩
        · refine .inl ⟨k1, _, hn', ?_⟩
          rw [if_neg eyx]
          obtain ⟨o, es, ep, ho, hd, _, hf1⟩ := hn1
          obtain ⟨o', es', ep', ho', hd', _, hf2⟩ := hns
          first | exact clash ho ho' | (rw [ho] at ho'; cases ho'); first | exact clash hd hd' | (rw [hd] at hd'; cases hd')
          rw [← hf2 y, hf1 y]; exact hm1
        · exact .inr ⟨k1, c, hc, hi.sameBut hs' fun ec => cell_not_ns hi (ec ▸ hns)⟩
    · obtain ⟨c, cv, h1, h2⟩ := r.has y hy
      exact ⟨c, cv, h1, h2.sameBut hs' fun ec => cell_not_ns h2 (ec ▸ hns)⟩
    · obtain ⟨cv, h2⟩ := r.cel y c hc
      exact ⟨cv, h2.sameBut hs' fun ec => cell_not_ns h2 (ec ▸ hns)⟩
  · obtain ⟨c, cv, hc, hcv⟩ := r.has x (.inl hk)
    have hsl : slotOf env x = c := by simp [slotOf, hk, hc]
    rw [hsl] at hw ⊢
    refine wpAny_storeName_cell r.kind hk hc hcv fun h' hc' hs' => ⟨⟨h', _, rfl, hs', Nat.le_refl _⟩, ?_, m0, hns.sameBut hs' fun e => cell_not_ns hcv (e ▸ hns)⟩
    have hf := frz_same hw hs'
    refine ⟨r.kind, r.gl, r.bl, fun b o e => hs'.extBut b o (fun eb => ?_) (r.base b o e), r.wb, ⟨fun a ha => ?_, fun a xs hx => ?_⟩, fun y q hy => ?_, r.tk, fun y hy => ?_, r.apart, fun y c1 hc1 => ?_⟩
    · have := r.wb _ hw; rw [← eb, e] at this; cases this
    · by_cases ea : a = c
      · subst ea; obtain ⟨o, ho, _⟩ := hc'; exact ⟨o, ho⟩
      · obtain ⟨o, ho⟩ := r.sr.wl a ha; exact ⟨o, hs'.extBut a o ea ho⟩
    · obtain ⟨vs, n, h1, h2, h3⟩ := r.sr.ls a xs hx
      exact ⟨vs, n, hs'.extBut _ _ (fun ea => cell_not_list hcv (ea ▸ h1)) h1, h2, Reps.mono hf _ _ h3⟩
    · unfold upd at hy
      by_cases eyx : y = x
      · subst eyx
        simp at hy; subst hy
        exact ⟨v, .inr ⟨.inl hk, c, hc, hc'⟩, Rep.mono hf _ _ rv⟩
      · rw [if_neg eyx] at hy
        obtain ⟨u, hu, ru⟩ := r.vars y q hy
        refine ⟨u, ?_, Rep.mono hf _ _ ru⟩
        rcases hu with ⟨k1, m1, hn1, hm1⟩ | ⟨k1, c1, hc1, hi⟩
        · exact .inl ⟨k1, m1, hn1.sameBut hs' (fun e => cell_not_ns hcv (e ▸ hn1)), hm1⟩
        · exact .inr ⟨k1, c1, hc1, hi.sameBut hs' fun ec => eyx (r.apart y x c1 hc1 (ec ▸ hc))⟩
    · by_cases eyx : y = x
      · subst eyx; exact ⟨c, _, hc, hc'⟩
      · obtain ⟨c1, cv1, h1, h2⟩ := r.has y hy
        exact ⟨c1, cv1, h1, h2.sameBut hs' fun ec => eyx (r.apart y x c1 h1 (ec ▸ hc))⟩
    · by_cases ec : c1 = c
      · subst ec; exact ⟨_, hc'⟩
      · obtain ⟨cv1, h2⟩ := r.cel y c1 hc1
        exact ⟨cv1, h2.sameBut hs' ec⟩
end
end Mine
end

section
open PySem PySem.W PyProof.Rows PySem.SeqAt
namespace Mine

/-- the state goes on: all is kept but what M tells -/
noncomputable def KB (M : Addr → Prop) (s s' : Shared) : Prop :=
  (∃ h' tk, s' = { s with heap := h', toks := tk }) ∧ (∀ b o, ¬ M b → s.heap.get? b = some o → s'.heap.get? b = some o) ∧ s.toks ≤ s'.toks

theorem KB.rfl' {M : Addr → Prop} {s : Shared} : KB M s s := ⟨⟨_, _, rfl⟩, fun _ _ _ e => e, Nat.le_refl _⟩
theorem KB.tr {M : Addr → Prop} {a b c : Shared} (x : KB M a b) (y : KB M b c) : KB M a c := by
  obtain ⟨⟨h1, t1, rfl⟩, k1, l1⟩ := x
  obtain ⟨⟨h2, t2, rfl⟩, k2, l2⟩ := y
  exact ⟨⟨h2, t2, rfl⟩, fun b o hb e => k2 b o hb (k1 b o hb e), Nat.le_trans l1 l2⟩
theorem KB.of_keeps {M : Addr → Prop} {s s' : Shared} (k : Keeps s s') (ht : s.toks ≤ s'.toks) : KB M s s' := by
  obtain ⟨h1, t1, rfl, k1⟩ := k
  exact ⟨⟨h1, t1, rfl⟩, fun b o _ e => k1 b o e, ht⟩
theorem KB.mono {M M' : Addr → Prop} {s s' : Shared} (x : KB M s s') (h : ∀ b, M b → M' b) : KB M' s s' :=
  ⟨x.1, fun b o hb e => x.2.1 b o (fun hm => hb (h b hm)) e, x.2.2⟩
/-- what M tells is not in the first state: then all is kept -/
theorem KB.keeps {M : Addr → Prop} {s s' : Shared} (x : KB M s s') (h : ∀ b, M b → s.heap.get? b = none) : Keeps s s' := by
  obtain ⟨⟨h1, t1, rfl⟩, k1, _⟩ := x
  exact ⟨h1, t1, rfl, fun b o e => k1 b o (fun hm => by rw [h b hm] at e; cases e) e⟩

structure Room (lv : Nat) (A : Around) : Prop where
  hd : A.handled = none
  dp : A.depth + lv + 1 ≤ 900
  un : A.units + 4 * lv + 100 ≤ 9000
theorem Room.hu {lv : Nat} {A : Around} (r : Room lv A) : A.units + 10 < cLine := by have := r.un; show _ < 9900; lia

section
variable {prog : Program} {w : World} {A : Around} {E : Value → Shared → Prop} {s : Shared} {W M : Addr → Prop} {μ : Mu} {ρ ρ' : Rho} {env : Env} {C : Cx}

theorem store_KB {x : Str} {p : PV} {v : Value} (r : ER C W env s ρ μ) (hns : ∃ m, s.heap.Ns env.locals m) (hk : env.kindOf x = some .local ∨ env.kindOf x = some .cell) (hw : W (slotOf env x)) (hm : M (slotOf env x)) (rv : Rep (frz s.heap W) p v) :
    wpAny (model prog w) A (storeName env x v) (fun _ s' => KB M s s' ∧ ER C W env s' (upd ρ x p) μ ∧ (∃ m, s'.heap.Ns env.locals m)) E s :=
  wpAny_mono (store_sound r hns hk hw rv) (fun _ s' h => by
    obtain ⟨⟨h', tk, rfl, hs, ht⟩, h2⟩ := h
    exact ⟨⟨⟨h', tk, rfl⟩, fun b o hb e => hs.extBut b o (fun eb => hb (eb ▸ hm)) e, ht⟩, h2⟩) fun _ _ e => e

theorem namesOf_none {es : List Expr} {x : Str} {pos : Pos} {xs : List Str} (h : namesOf es = none) (hx : namesOf (.Name x pos :: es) = some xs) : (none : Option (List Str)) = some xs := by
  have hx : (match some x, namesOf es with
    | some x, some xs => some (x :: xs)
    | _, _ => none) = some xs := hx
  rw [h] at hx; exact hx
theorem namesOf_some {es : List Expr} {x : Str} {pos : Pos} {xs ys : List Str} (h : namesOf es = some ys) (hx : namesOf (.Name x pos :: es) = some xs) : xs = x :: ys := by
  have hx : (match some x, namesOf es with
    | some x, some xs => some (x :: xs)
    | _, _ => none) = some xs := hx
  rw [h] at hx; exact (Option.some.inj hx).symm
theorem trTgt_none {es : List Expr} {k : Nat} {pos : Pos} (h : namesOf es = none) : trTgt (.Tuple es k pos) = .bad := by
  show (match namesOf es with
    | some xs => MTgt.many xs
    | none => .bad) = _
  rw [h]
theorem trTgt_some {es : List Expr} {k : Nat} {pos : Pos} {xs : List Str} (h : namesOf es = some xs) : trTgt (.Tuple es k pos) = .many xs := by
  show (match namesOf es with
    | some xs => MTgt.many xs
    | none => .bad) = _
  rw [h]
theorem assignNames_sound : ∀ (es : List Expr) (xs : List Str) (ps : List PV) (vs : List Value) (ρ ρ' : Rho) (s : Shared), namesOf es = some xs →
    updMany ρ xs ps = some ρ' → ER C W env s ρ μ → (∃ m, s.heap.Ns env.locals m) → (∀ x ∈ xs, (env.kindOf x = some .local ∨ env.kindOf x = some .cell) ∧ W (slotOf env x) ∧ M (slotOf env x)) → Reps (frz s.heap W) ps vs → (∀ b, M b → W b) →
    wpAny (model prog w) A (assignInOrder ((assignEach es env).map (·.2)) vs) (fun _ s' => KB M s s' ∧ ER C W env s' ρ' μ ∧ (∃ m, s'.heap.Ns env.locals m)) E s
  | [], xs, ps, vs, ρ, ρ', s, hx, hu, r, hns, _, rp, _ => by
    cases Option.some.inj hx
    cases ps with
    | nil =>
      cases reps_nil.mp rp
      cases Option.some.inj hu
      exact wpAny_pure ⟨KB.rfl', r, hns⟩
    | cons p ps => exact no hu
  | e :: es, xs, ps, vs, ρ, ρ', s, hx, hu, r, hns, hok, rp, hMW => by
    cases e with
    | Name x pos =>
      cases hys : namesOf es with
      | none => exact no (namesOf_none hys hx)
      | some ys =>
      cases namesOf_some hys hx
      cases ps with
      | nil => exact no hu
      | cons p ps =>
        have rp := reps_cons.mp rp
        obtain ⟨v, vs', rfl, rv, rr⟩ := rp
        have hu : updMany (upd ρ x p) ys ps = some ρ' := hu
        obtain ⟨k1, k2, k3⟩ := hok x List.mem_cons_self
        show wpAny _ _ (holding vs' (assign (.Name x pos) env v) >>= fun _ => assignInOrder ((assignEach es env).map (·.2)) vs') _ _ _
        refine wpAny_bind (wpAny_holding (wpAny_assign_Name (wpAny_mono (store_KB r hns k1 k2 k3 rv) (fun _ s₁ h₁ => ?_) fun _ _ e => e)))
        obtain ⟨kb, r1, n1⟩ := h₁
        have rr' : Reps (frz s₁.heap W) ps vs' := Reps.mono (fun b o x => ⟨kb.2.1 b o (fun hm => x.2 (hMW b hm)) x.1, x.2⟩) _ _ rr
        refine wpAny_mono (assignNames_sound es ys ps vs' _ ρ' s₁ hys hu r1 n1 (fun y hy => hok y (List.mem_cons_of_mem _ hy)) rr' hMW) (fun _ s₂ h₂ => ⟨kb.tr h₂.1, h₂.2⟩) fun _ _ e => e
    | _ => exact no hx

theorem names_star (env : Env) : ∀ (es : List Expr) (xs : List Str), namesOf es = some xs → (assignEach es env).findIdx? (·.1) = none ∧ (assignEach es env).length = xs.length
  | [], xs, h => by cases Option.some.inj h; exact ⟨rfl, rfl⟩
  | e :: es, xs, h => by
    cases e with
    | Name x pos =>
      cases hys : namesOf es with
      | none => exact no (namesOf_none hys h)
      | some ys =>
      cases namesOf_some hys h
      obtain ⟨h1, h2⟩ := names_star env es ys hys
      refine ⟨?_, ?_⟩
      · show List.findIdx? _ ((false, assign (.Name x pos) env) :: assignEach es env) = none
        rw [List.findIdx?_cons]; simp [h1]
      · show ((false, assign (.Name x pos) env) :: assignEach es env).length = _
        simp [h2]
    | _ => exact no h

theorem updMany_len : ∀ (ρ ρ' : Rho) (xs : List Str) (ps : List PV), updMany ρ xs ps = some ρ' → xs.length = ps.length
  | ρ, ρ', [], [], _ => rfl
  | ρ, ρ', x :: xs, p :: ps, h => congrArg Nat.succ (updMany_len (upd ρ x p) ρ' xs ps h)
  | ρ, ρ', [], _ :: _, h => no h
  | ρ, ρ', _ :: _, [], h => no h

theorem assign_sound {tgt : Expr} {q : PV} {v : Value} (hh : A.handled = none) (hb : bindT ρ (trTgt tgt) q = some ρ') (r : ER C W env s ρ μ) (hns : ∃ m, s.heap.Ns env.locals m)
    (hok : ∀ x ∈ tgtNames (trTgt tgt), (env.kindOf x = some .local ∨ env.kindOf x = some .cell) ∧ W (slotOf env x) ∧ M (slotOf env x)) (hMW : ∀ b, M b → W b) (rv : Rep (frz s.heap W) q v) :
    wpAny (model prog w) A (assign tgt env v) (fun _ s' => KB M s s' ∧ ER C W env s' ρ' μ ∧ (∃ m, s'.heap.Ns env.locals m)) E s := by
  cases tgt with
  | Name x pos =>
    cases Option.some.inj hb
    obtain ⟨k1, k2, k3⟩ := hok x List.mem_cons_self
    exact wpAny_assign_Name (store_KB r hns k1 k2 k3 rv)
  | Tuple es k pos =>
    cases hm : namesOf es with
    | none =>
      rw [trTgt_none hm] at hb
      exact no hb
    | some xs =>
      rw [trTgt_some hm] at hb hok
      cases q with
      | tup ps =>
        have hb : updMany ρ xs ps = some ρ' := hb
        obtain ⟨a, vs, n, rfl, hg, _, hr⟩ := rep_tup.mp rv
        obtain ⟨st1, st2⟩ := names_star env es xs hm
        refine wpAny_assign_Tuple hh (isTuple_of hg.1) (by rw [st2]; simp [hr.length, updMany_len _ _ _ _ hb]) st1 fun h' he => ?_
        have hk : ∀ b o, s.heap.get? b = some o → h'.get? b = some o := fun b o e => he b o (Nat.ne_of_lt (Heap.lt_size e)) e
        have K : Keeps s { s with heap := h' } := ⟨h', s.toks, rfl, hk⟩
        have r1 := r.keeps K (Nat.le_refl _)
        obtain ⟨m, hn⟩ := hns
        refine wpAny_mono (assignNames_sound es xs ps vs ρ ρ' { s with heap := h' } hm hb r1 ⟨m, hn.keeps hk⟩ hok (hr.keep hk) hMW) (fun _ s₂ h₂ => ⟨(KB.of_keeps K (Nat.le_refl _)).tr h₂.1, h₂.2⟩) fun _ _ e => e
      | _ => exact no hb
  | _ => exact no hb
end
end Mine
end

section
open PySem PySem.W PyProof.Rows PySem.SeqAt
namespace Mine

noncomputable abbrev testsOf (ifs : List Expr) (env : Env) : Sem Bool :=
  forIn ifs true fun c r => if r = true then do let ok ← isTrue c env (eval c env); pure (ForInStep.yield ok) else pure (ForInStep.yield r)

noncomputable abbrev turnTree (e : Expr) (d : Nat) (g : Comprehension) (it acc : Value) (env : Env) (STEP : Sem Fin) : Sem Fin :=
  standAt g.iter.pos >>= fun _ => pyNext it >>= fun r => match r with
    | none => pure (.done .next)
    | some v => letOwnedTupleGo g.target it v >>= fun _ => assign g.target env v >>= fun _ => testsOf g.ifs env >>= fun ok =>
        if ok = true then STEP else again (.compLoop e d it acc env)

noncomputable abbrev emitTree (elt : Expr) (acc : Value) (env : Env) (c : Code) : Sem Fin := (eval elt env >>= fun x => call (.builtin "list.append") [acc, x] >>= fun _ => pure ()) >>= fun _ => again c

theorem turn_one (elt t i : Expr) (fs : List Expr) (sc : Scope) (pos : Pos) (it acc : Value) (env : Env) :
    compTurn (.ListComp elt [⟨t, i, fs, 0⟩] sc pos) 0 it acc env = turnTree (.ListComp elt [⟨t, i, fs, 0⟩] sc pos) 0 ⟨t, i, fs, 0⟩ it acc env (emitTree elt acc env (.compLoop (.ListComp elt [⟨t, i, fs, 0⟩] sc pos) 0 it acc env)) := by rfl

noncomputable abbrev innerTree (e : Expr) (i2 : Expr) (acc : Value) (env : Env) (c : Code) : Sem Fin :=
  eval i2 env >>= fun x => standAt i2.pos >>= fun _ => foldedSetIterable i2 env x >>= fun x => holding [x] (pyIter x) >>= fun it2 => runOwn (.compStart e 1 it2 acc env) env >>= fun _ => again c

theorem turn_two0 (elt t i t2 i2 : Expr) (fs fs2 : List Expr) (sc : Scope) (pos : Pos) (it acc : Value) (env : Env) :
    compTurn (.ListComp elt [⟨t, i, fs, 0⟩, ⟨t2, i2, fs2, 0⟩] sc pos) 0 it acc env =
      turnTree (.ListComp elt [⟨t, i, fs, 0⟩, ⟨t2, i2, fs2, 0⟩] sc pos) 0 ⟨t, i, fs, 0⟩ it acc env (innerTree (.ListComp elt [⟨t, i, fs, 0⟩, ⟨t2, i2, fs2, 0⟩] sc pos) i2 acc env (.compLoop (.ListComp elt [⟨t, i, fs, 0⟩, ⟨t2, i2, fs2, 0⟩] sc pos) 0 it acc env)) := by rfl
theorem turn_two1 (elt t i t2 i2 : Expr) (fs fs2 : List Expr) (sc : Scope) (pos : Pos) (it acc : Value) (env : Env) :
    compTurn (.ListComp elt [⟨t, i, fs, 0⟩, ⟨t2, i2, fs2, 0⟩] sc pos) 1 it acc env =
      turnTree (.ListComp elt [⟨t, i, fs, 0⟩, ⟨t2, i2, fs2, 0⟩] sc pos) 1 ⟨t2, i2, fs2, 0⟩ it acc env (emitTree elt acc env (.compLoop (.ListComp elt [⟨t, i, fs, 0⟩, ⟨t2, i2, fs2, 0⟩] sc pos) 1 it acc env)) := by rfl

section
variable {prog : Program} {w : World} {A : Around} {E : Value → Shared → Prop} {R : Result → Shared → Prop} {s : Shared}

theorem compLoop_any {elt : Expr} {gens : List Comprehension} {sc : Scope} {pos : Pos} {d : Nat} {g : Comprehension} {it acc : Value} {env : Env} {STEP : Sem Fin}
    (heq : compTurn (.ListComp elt gens sc pos) d it acc env = turnTree (.ListComp elt gens sc pos) d g it acc env STEP) (I : Nat → Shared → Prop)
    (turn : ∀ n s E', I n s → wpAny (model prog w) A (pyNext it) (fun r s₁ => match r with
      | none => R (.ok .next) s₁
      | some v => wpAny (model prog w) A (letOwnedTupleGo g.target it v) (fun _ s₁' => wpAny (model prog w) A (assign g.target env v) (fun _ s₂ =>
          wpAny (model prog w) A (testsOf g.ifs env) (fun ok s₃ =>
            if ok = true then wpAny (model prog w) A STEP (fun fin s₅ => fin = .again (.compLoop (.ListComp elt gens sc pos) d it acc env) ∧ ∃ m, m < n ∧ I m s₅) E' s₃
            else ∃ m, m < n ∧ I m s₃) E' s₂) E' s₁') E' s₁) E' s)
    (n : Nat) (h : I n s) :
    codeAny (model prog w) A (.compLoop (.ListComp elt gens sc pos) d it acc env) R s := by
  refine codeAny_loop rfl I (fun n s hI => ?_) n h
  show wpAny _ A ((compTurn (.ListComp elt gens sc pos) d it acc env).onRaise (fun x => do noteFrame x env; theTreesLotGoes x)) _ _ s
  refine wpAny_noted ?_
  rw [heq]
  refine wpAny_bind (wpAny_standAt (wpAny_bind (wpAny_mono (turn n s _ hI) (fun r s₁ h₁ => ?_) fun _ _ h' => h')))
  cases r with
  | none => exact wpAny_pure h₁
  | some v =>
    refine wpAny_bind (wpAny_mono h₁ (fun _ s₁' h₁' => ?_) fun _ _ h' => h')
    refine wpAny_bind (wpAny_mono h₁' (fun _ s₂ h₂ => wpAny_bind (wpAny_mono h₂ (fun ok s₃ h₃ => ?_) fun _ _ h' => h')) fun _ _ h' => h')
    cases ok with
    | false => exact wpAny_pure ⟨rfl, h₃⟩
    | true => exact wpAny_mono h₃ (fun fin s₅ h₅ => by obtain ⟨rfl, h₅⟩ := h₅; exact ⟨rfl, h₅⟩) fun _ _ h' => h'

theorem compStart_any {elt : Expr} {gens : List Comprehension} {sc : Scope} {pos : Pos} {d : Nat} {g : Comprehension} {it acc : Value} {env : Env} (hg : gens[d]? = some g) (ha : g.is_async = 0)
    (h0 : codeAny (model prog w) A (.compLoop (.ListComp elt gens sc pos) d it acc env) R s)
    (h : ∀ E', wpAny (model prog w) A (pyIter it) (fun it' s' => it' = it ∧ s' = s) E' s) :
    codeAny (model prog w) A (.compStart (.ListComp elt gens sc pos) d it acc env) R s := by
  refine codeAny_of_tree ?_
  show wpAny _ _ ((compStart (.ListComp elt gens sc pos) d it acc env).onRaise (fun x => do noteFrame x env; standAt theWindowsPlace)) _ _ s
  refine wpAny_notedAt ?_
  unfold compStart
  rw [show clausesOf (.ListComp elt gens sc pos) = gens from rfl]
  simp only [hg, ha, Option.elim_some, bne_self_eq_false, Bool.false_eq_true, if_false]
  refine wpAny_bind (wpAny_askSetting (wpAny_ite ?_))
  split
  · exact wpAny_pure (And.intro rfl h0)
  · refine wpAny_bind (wpAny_rule ?_)
    refine wpAny_bind (wpAny_standAt (wpAny_bind (wpAny_mono (h _) (fun it' s' h' => ?_) fun _ _ x => x)))
    obtain ⟨rfl, rfl⟩ := h'
    exact wpAny_pure (And.intro rfl h0)
end
end Mine
end

section
open PySem PySem.W PyProof.Rows PySem.SeqAt
namespace Mine

structure CI (C : Cx) (W : Addr → Prop) (cenv : Env) (D : Addr) (ρ : Rho) (μ : Mu) (acc : List PV) (s : Shared) : Prop where
  er : ER C W cenv s ρ μ
  ns : ∃ m, s.heap.Ns cenv.locals m
  d : ∃ vs n, s.heap.get? D = some (lObj vs n) ∧ Reps (frz s.heap W) acc vs

theorem ER.weaken {C : Cx} {W : Addr → Prop} {env : Env} {s : Shared} {ρ ρ' : Rho} {μ : Mu} (r : ER C W env s ρ' μ) (h : ∀ x p, ρ x = some p → ρ' x = some p) : ER C W env s ρ μ :=
  { r with vars := fun x p hx => r.vars x p (h x p hx) }

/-- fewer addresses may be written -/
theorem ER.shrink {C : Cx} {W W' : Addr → Prop} {env : Env} {s : Shared} {ρ : Rho} {μ : Mu} (r : ER C W' env s ρ μ) (h : ∀ a, W a → W' a) : ER C W env s ρ μ where
  kind := r.kind
  gl := r.gl
  bl := r.bl
  base := r.base
  wb := fun a ha => r.wb a (h a ha)
  sr := ⟨fun a ha => r.sr.wl a (h a ha), fun a xs hx => let ⟨vs, n, h1, h2, h3⟩ := r.sr.ls a xs hx; ⟨vs, n, h1, h2, Reps.mono (fun b o x => ⟨x.1, fun hw => x.2 (h b hw)⟩) _ _ h3⟩⟩
  vars := fun x p hx => let ⟨v, h1, h2⟩ := r.vars x p hx; ⟨v, h1, Rep.mono (fun b o x => ⟨x.1, fun hw => x.2 (h b hw)⟩) _ _ h2⟩
  tk := r.tk
  has := r.has
  apart := r.apart
  cel := r.cel

/-- what is new may be written -/
theorem ER.extend {C : Cx} {W W' : Addr → Prop} {env : Env} {s s' : Shared} {ρ : Rho} {μ : Mu} (r : ER C W env s ρ μ) (k : Keeps s s') (ht : s.toks ≤ s'.toks)
    (h : ∀ a, W' a → W a ∨ (s.heap.get? a = none ∧ ∃ o, s'.heap.get? a = some o)) : ER C W' env s' ρ μ := by
  have hf : ∀ a o, frz s.heap W a o → frz s'.heap W' a o := fun a o x => ⟨Keeps.k k a o x.1, fun hw => by
    rcases h a hw with h1 | ⟨h1, _⟩
    · exact x.2 h1
    · first | exact clash x.1 h1 | (rw [x.1] at h1; cases h1)⟩
  have r' := r.keeps k ht
  refine ⟨r.kind, r.gl, r.bl, r'.base, fun a ha => ?_, ⟨fun a ha => ?_, fun a xs hx => ?_⟩, fun x p hx => ?_, r'.tk, r'.has, r.apart, r'.cel⟩
  · rcases h a ha with h1 | ⟨h1, _⟩
    · exact r.wb a h1
    · cases e : C.h0.get? a with
      | none => rfl
      | some o => rw [r.base a o e] at h1; cases h1
  · rcases h a ha with h1 | ⟨_, h1⟩
    · obtain ⟨o, ho⟩ := r.sr.wl a h1; exact ⟨o, Keeps.k k a o ho⟩
    · exact h1
  · obtain ⟨vs, n, h1, h2, h3⟩ := r.sr.ls a xs hx
    exact ⟨vs, n, Keeps.k k _ _ h1, h2, Reps.mono hf _ _ h3⟩
  · obtain ⟨v, h1, h2⟩ := r.vars x p hx
    exact ⟨v, h1.keep (Keeps.k k), Rep.mono hf _ _ h2⟩

inductive Run {α β : Type} (R : α → List β → Prop) : List α → List β → Prop
  | nil : Run R [] []
  | cons {q qs a r} : R q a → Run R qs r → Run R (q :: qs) (a ++ r)

theorem compRun_run {f : PV → Option (List PV)} {R : PV → List PV → Prop} (hf : ∀ q a, f q = some a → R q a) : ∀ {qs ys : List PV}, compRun f qs = some ys → Run R qs ys
  | [], ys, h => by cases Option.some.inj h; exact .nil
  | q :: qs, ys, h => by
    obtain ⟨a, r, e1, e2, e3⟩ := oLL_inv (a := f q) (b := compRun f qs) (f := fun a r => some (a ++ r)) h
    cases Option.some.inj e3
    exact .cons (hf q a e1) (compRun_run hf e2)

section
variable {prog : Program} {w : World} {A : Around} {E : Value → Shared → Prop} {R₀ : Result → Shared → Prop} {s : Shared} {W M : Addr → Prop} {μ : Mu} {ρ : Rho} {cenv : Env} {C : Cx}

/-- one turn of a comprehension's loop puts a behind acc -/
noncomputable def TurnOk (prog : Program) (w : World) (A : Around) (C : Cx) (W M : Addr → Prop) (cenv : Env) (D : Addr) (ρ : Rho) (μ : Mu) (g : Comprehension) (STEP : Sem Fin) (c : Code) (Y : List PV → Shared → Prop) (q : PV) (a : List PV) : Prop :=
  ∀ (s : Shared) (v : Value) (acc : List PV) (E' : Value → Shared → Prop), CI C W cenv D ρ μ acc s → Y acc s → Rep (frz s.heap W) q v → acc.length + a.length ≤ SZ →
    wpAny (model prog w) A (assign g.target cenv v) (fun _ s₂ => wpAny (model prog w) A (testsOf g.ifs cenv) (fun ok s₃ =>
      if ok = true then wpAny (model prog w) A STEP (fun fin s₅ => fin = .again c ∧ CI C W cenv D ρ μ (acc ++ a) s₅ ∧ Y (acc ++ a) s₅ ∧ KB M s s₅) E' s₃
      else CI C W cenv D ρ μ (acc ++ a) s₃ ∧ Y (acc ++ a) s₃ ∧ KB M s s₃) E' s₂) E' s


theorem ci_step {W' : Addr → Prop} {D I : Addr} {acc : List PV} {h' : Heap} {tk : Nat} (ci : CI C W cenv D ρ μ acc s) (hk : ∀ b o, b ≠ I → s.heap.get? b = some o → h'.get? b = some o) (htk : s.toks ≤ tk)
    (hWI : W I) (hDI : D ≠ I) (hLI : cenv.locals ≠ I) (hcell : ∀ x c, cenv.cells.lookup x = some c → c ≠ I) (hμI : μ I = none)
    (hW' : ∀ a, W' a → W a ∧ (a = I → ∃ o, h'.get? I = some o)) : CI C W' cenv D ρ μ acc { s with heap := h', toks := tk } := by
  have hf : ∀ a o, frz s.heap W a o → frz h' W' a o := fun a o x => ⟨hk a o (fun e => x.2 (e ▸ hWI)) x.1, fun hw => x.2 (hW' a hw).1⟩
  obtain ⟨er, ⟨m, hm⟩, vs, k, hd, hr⟩ := ci
  have hns' : h'.Ns cenv.locals m := hm.at' fun o e => hk _ o hLI e
  refine ⟨⟨er.kind, er.gl, er.bl, fun b o e => hk b o (fun eb => ?_) (er.base b o e), fun a ha => er.wb a (hW' a ha).1, ⟨fun a ha => ?_, fun a xs hx => ?_⟩, fun x p hx => ?_, Nat.le_trans er.tk htk, fun x hx => ?_, er.apart, fun x c hc => ?_⟩, ⟨m, hns'⟩, vs, k, hk _ _ hDI hd, Reps.mono hf _ _ hr⟩
  · have := er.wb I hWI; rw [← eb, e] at this; cases this
  · by_cases ea : a = I
    · subst ea; exact (hW' a ha).2 rfl
    · obtain ⟨o, ho⟩ := er.sr.wl a (hW' a ha).1; exact ⟨o, hk a o ea ho⟩
  · obtain ⟨us, j, h1, h2, h3⟩ := er.sr.ls a xs hx
    exact ⟨us, j, hk _ _ (fun ea => by rw [ea, hμI] at hx; cases hx) h1, h2, Reps.mono hf _ _ h3⟩
  · obtain ⟨v, h1, h2⟩ := er.vars x p hx
    refine ⟨v, ?_, Rep.mono hf _ _ h2⟩
    rcases h1 with ⟨k1, m1, hn1, hm1⟩ | ⟨k1, c, hc, hi⟩
    · exact .inl ⟨k1, m1, hn1.at' fun o e => hk _ o hLI e, hm1⟩
    · obtain ⟨o, ho, hd'⟩ := hi
      exact .inr ⟨k1, c, hc, o, hk _ _ (hcell x c hc) ho, hd'⟩
  · obtain ⟨c, cv, h1, o, ho, hd'⟩ := er.has x hx
    exact ⟨c, cv, h1, o, hk _ _ (hcell x c h1) ho, hd'⟩
  · obtain ⟨cv, o, ho, hd'⟩ := er.cel x c hc
    exact ⟨cv, o, hk _ _ (hcell x c hc) ho, hd'⟩

theorem level_sound {elt : Expr} {gens : List Comprehension} {sc : Scope} {pos : Pos} {d : Nat} {g : Comprehension} {D I : Addr} {fp : List Addr} {n : Nat} {P : Nat → Value → Prop} {St : Nat → Heap → Prop} {STEP : Sem Fin} {gr : Gr}
    {items ys acc : List PV} {W' : Addr → Prop} {Y : List PV → Shared → Prop}
    (heq : compTurn (.ListComp elt gens sc pos) d (.ref I) (.ref D) cenv = turnTree (.ListComp elt gens sc pos) d g (.ref I) (.ref D) cenv STEP)
    (hn : n = items.length) (Wk : Walks prog w A I fp [I] n P St) (hP : ∀ i u, P i u → ∃ q, items[i]? = some q ∧ Rep gr q u)
    (hgo : ∀ (i : Nat) (s' : Shared) (tgt : Expr) (v : Value) (Q : Unit → Shared → Prop) (E : Value → Shared → Prop), St i s'.heap → Q () s' → wpAny (model prog w) A (letOwnedTupleGo tgt (.ref I) v) Q E s')
    (hex : ∀ (i : Nat) (h : Heap), St i h → ∃ o, h.get? I = some o)
    (hWI : W I) (hMW : ∀ b, M b → W b) (hDI : D ≠ I) (hLI : cenv.locals ≠ I) (hfp : ∀ b ∈ fp, ¬ M b) (hcell : ∀ x c, cenv.cells.lookup x = some c → c ≠ I) (hμI : μ I = none)
    (hgr : ∀ a o, gr a o → s.heap.get? a = some o ∧ ¬ W a) (hW' : ∀ a, W' a → W a ∧ a ≠ I)
    (hrun : Run (TurnOk prog w A C W M cenv D ρ μ g STEP (.compLoop (.ListComp elt gens sc pos) d (.ref I) (.ref D) cenv) Y) items ys)
    (hYI : ∀ acc (s' : Shared) h' tk, (∀ b o, b ≠ I → s'.heap.get? b = some o → h'.get? b = some o) → Y acc s' → Y acc { s' with heap := h', toks := tk })
    (hst : St 0 s.heap) (hci : CI C W cenv D ρ μ acc s) (hy : Y acc s) (hsz : acc.length + ys.length ≤ SZ)
    (hR : ∀ s', CI C W' cenv D ρ μ (acc ++ ys) s' → Y (acc ++ ys) s' → KB (fun b => M b ∨ b = I) s s' → R₀ (.ok .next) s') :
    codeAny (model prog w) A (.compLoop (.ListComp elt gens sc pos) d (.ref I) (.ref D) cenv) R₀ s := by
  refine compLoop_any heq
    (fun k s' => ∃ done rest ys1 ys2, items = done ++ rest ∧ k = rest.length + 1 ∧ ys = ys1 ++ ys2 ∧ Run (TurnOk prog w A C W M cenv D ρ μ g STEP (.compLoop (.ListComp elt gens sc pos) d (.ref I) (.ref D) cenv) Y) rest ys2 ∧
      CI C W cenv D ρ μ (acc ++ ys1) s' ∧ Y (acc ++ ys1) s' ∧ St done.length s'.heap ∧ KB (fun b => M b ∨ b = I) s s')
    (fun k s' E' hI => ?_) (items.length + 1) ⟨[], items, [], ys, rfl, rfl, rfl, hrun, by simpa using hci, by simpa using hy, hst, KB.rfl'⟩
  obtain ⟨done, rest, ys1, ys2, rfl, rfl, rfl, hrun', ci, hy', hst', kb⟩ := hI
  cases hrun' with
  | nil =>
    refine wpAny_with_toks (n := s'.toks) (Nat.le_refl _) (Wk.done s' _ _ (by rw [hn]; simpa using hst') fun h' tk hk htk => ?_)
    have hk' : ∀ b o, b ≠ I → s'.heap.get? b = some o → h'.get? b = some o := fun b o hb e => hk b o (by simpa using hb) e
    have ci' : CI C W' cenv D ρ μ (acc ++ ys1) { s' with heap := h', toks := tk } := ci_step ci hk' htk hWI hDI hLI hcell hμI fun a ha => ⟨(hW' a ha).1, fun e => absurd e (hW' a ha).2⟩
    exact hR _ (by simpa using ci') (by simpa using hYI _ _ h' tk hk' hy') (kb.tr ⟨⟨h', tk, rfl⟩, fun b o hb e => hk' b o (fun hm => hb (.inr hm)) e, htk⟩)
  | @cons q qs a r hq hrest =>
    have hlt : done.length < n := by rw [hn]; simp
    refine wpAny_with_toks (n := s'.toks) (Nat.le_refl _) (Wk.item done.length s' _ _ hlt hst' fun v h' tk hPv hst₁ hk htk => ?_)
    have hk' : ∀ b o, b ≠ I → s'.heap.get? b = some o → h'.get? b = some o := fun b o hb e => hk b o (by simpa using hb) e
    have ci' : CI C W cenv D ρ μ (acc ++ ys1) { s' with heap := h', toks := tk } := ci_step ci hk' htk hWI hDI hLI hcell hμI fun a ha => ⟨ha, fun _ => hex _ _ hst₁⟩
    have kb1 : KB (fun b => M b ∨ b = I) s { s' with heap := h', toks := tk } := kb.tr ⟨⟨h', tk, rfl⟩, fun b o hb e => hk' b o (fun hm => hb (.inr hm)) e, htk⟩
    obtain ⟨q', hq', rq⟩ := hP _ _ hPv
    have : q' = q := by simpa using hq'.symm
    subst this
    have rq' : Rep (frz h' W) q' v := Rep.mono (fun a o x => ⟨kb1.2.1 a o (fun hm => (hgr a o x).2 (hm.elim (hMW a) fun e => e ▸ hWI)) (hgr a o x).1, (hgr a o x).2⟩) _ _ rq
    refine hgo _ _ _ _ _ _ hst₁ ?_
    have hsz' : (acc ++ ys1).length + a.length ≤ SZ := by simp at hsz ⊢; lia
    have fin : ∀ s₅ : Shared, CI C W cenv D ρ μ (acc ++ ys1 ++ a) s₅ → Y (acc ++ ys1 ++ a) s₅ → KB M { s' with heap := h', toks := tk } s₅ →
        ∃ m, m < (q' :: qs).length + 1 ∧ ∃ done' rest ys1' ys2', done ++ q' :: qs = done' ++ rest ∧ m = rest.length + 1 ∧ ys1 ++ (a ++ r) = ys1' ++ ys2' ∧
          Run (TurnOk prog w A C W M cenv D ρ μ g STEP (.compLoop (.ListComp elt gens sc pos) d (.ref I) (.ref D) cenv) Y) rest ys2' ∧ CI C W cenv D ρ μ (acc ++ ys1') s₅ ∧ Y (acc ++ ys1') s₅ ∧ St done'.length s₅.heap ∧ KB (fun b => M b ∨ b = I) s s₅ := by
      intro s₅ c5 y5 k5
      refine ⟨qs.length + 1, by simp, done ++ [q'], qs, ys1 ++ a, r, by simp, rfl, by simp, hrest, by simpa using c5, by simpa using y5, ?_, kb1.tr (k5.mono fun b hb => .inl hb)⟩
      have := Wk.frame _ _ s₅.heap hst₁ fun b hb o e => k5.2.1 b o (hfp b hb) e
      simpa using this
    refine wpAny_mono (hq { s' with heap := h', toks := tk } v (acc ++ ys1) _ ci' (hYI _ _ h' tk hk' hy') rq' hsz') (fun _ s₂ h₂ => wpAny_mono h₂ (fun ok s₃ h₃ => ?_) fun _ _ e => e) fun _ _ e => e
    cases ok with
    | true => exact wpAny_mono h₃ (fun f s₅ h₅ => ⟨h₅.1, fin s₅ h₅.2.1 h₅.2.2.1 h₅.2.2.2⟩) fun _ _ e => e
    | false => exact fin s₃ h₃.1 h₃.2.1 h₃.2.2
end
end Mine
end

section
open PySem PySem.W PyProof.Rows PySem.SeqAt
namespace Mine

noncomputable def SE (prog : Program) (w : World) (C : Cx) (lv : Nat) (μ : Mu) (Γ : Names) (e : Expr) (ρ : Rho) (p : PV) : Prop :=
  ∀ (A : Around) (E : Value → Shared → Prop) (W : Addr → Prop) (env : Env) (s : Shared), Room lv A → env.scope.names = Γ → ER C W env s ρ μ → wpAny (model prog w) A (eval e env) (Post W s p) E s

noncomputable def ST (prog : Program) (w : World) (C : Cx) (lv : Nat) (μ : Mu) (Γ : Names) (e : Expr) (ρ : Rho) (b : Bool) : Prop :=
  ∀ (A : Around) (E : Value → Shared → Prop) (W : Addr → Prop) (env : Env) (s : Shared), Room lv A → env.scope.names = Γ → ER C W env s ρ μ → wpAny (model prog w) A (isTrue e env (eval e env)) (fun r s' => r = b ∧ Keeps s s') E s

noncomputable def STs (prog : Program) (w : World) (C : Cx) (lv : Nat) (μ : Mu) (Γ : Names) (ifs : List Expr) (ρ : Rho) (b : Bool) : Prop :=
  ∀ (A : Around) (E : Value → Shared → Prop) (W : Addr → Prop) (env : Env) (s : Shared), Room lv A → env.scope.names = Γ → ER C W env s ρ μ → wpAny (model prog w) A (testsOf ifs env) (fun r s' => r = b ∧ Keeps s s') E s

theorem upd_le {ρ : Rho} {x : Str} {p : PV} (h : ρ x = none) : ∀ y q, ρ y = some q → upd ρ x p y = some q := by
  intro y q hy
  unfold upd
  split
  · rename_i e; subst e; first | exact clash h hy | (rw [h] at hy; cases hy)
  · exact hy
theorem updMany_le : ∀ (xs : List Str) (ps : List PV) (ρ ρ' : Rho), updMany ρ xs ps = some ρ' → (∀ x ∈ xs, ρ x = none) → ∀ y q, ρ y = some q → ρ' y = some q
  | [], [], ρ, ρ', h, _, y, q, hy => by cases Option.some.inj h; exact hy
  | x :: xs, p :: ps, ρ, ρ', h, hn, y, q, hy => by
    have h : updMany (upd ρ x p) xs ps = some ρ' := h
    have key : ∀ (xs : List Str) (ps : List PV) (ρ₁ ρ' : Rho), updMany ρ₁ xs ps = some ρ' → (∀ x ∈ xs, ρ x = none) → ρ₁ y = some q → ρ' y = some q := by
      intro xs
      induction xs with
      | nil => intro ps ρ₁ ρ' h _ hy; cases ps with
        | nil => cases Option.some.inj h; exact hy
        | cons _ _ => exact no h
      | cons z zs ih =>
        intro ps ρ₁ ρ' h hn hy1
        cases ps with
        | nil => exact no h
        | cons p ps =>
          refine ih ps (upd ρ₁ z p) ρ' h (fun x hx => hn x (List.mem_cons_of_mem _ hx)) ?_
          unfold upd
          rw [if_neg]
          · exact hy1
          · rintro rfl; rw [hn y List.mem_cons_self] at hy; cases hy
    exact key xs ps _ ρ' h (fun x hx => hn x (List.mem_cons_of_mem _ hx)) (upd_le (hn x List.mem_cons_self) y q hy)
  | [], _ :: _, ρ, ρ', h, _, _, _, _ => no h
  | _ :: _, [], ρ, ρ', h, _, _, _, _ => no h
theorem bindT_le {ρ ρ' : Rho} {t : MTgt} {q : PV} (h : bindT ρ t q = some ρ') (hn : ∀ x ∈ tgtNames t, ρ x = none) : ∀ y p, ρ y = some p → ρ' y = some p := by
  cases t with
  | one x => cases Option.some.inj h; exact upd_le (hn x List.mem_cons_self)
  | many xs =>
    cases q with
    | tup ps => exact updMany_le xs ps ρ ρ' h hn
    | _ => exact no h
  | bad => exact no h

section
variable {prog : Program} {w : World} {A : Around} {E : Value → Shared → Prop} {s : Shared} {W M : Addr → Prop} {μ : Mu} {ρ ρ' : Rho} {cenv env : Env} {C : Cx} {lv : Nat}

theorem er_change {a : Addr} {h' : Heap} {tk : Nat} (er : ER C W env s ρ μ) (hk : ∀ b o, b ≠ a → s.heap.get? b = some o → h'.get? b = some o) (htk : s.toks ≤ tk) (hw : W a) (hl : env.locals ≠ a)
    (hcell : ∀ x c, env.cells.lookup x = some c → c ≠ a) (hμ : μ a = none) (hex : ∃ o, h'.get? a = some o) : ER C W env { s with heap := h', toks := tk } ρ μ := by
  have hf : ∀ b o, frz s.heap W b o → frz h' W b o := fun b o x => ⟨hk b o (fun e => x.2 (e ▸ hw)) x.1, x.2⟩
  refine ⟨er.kind, er.gl, er.bl, fun b o e => hk b o (fun eb => ?_) (er.base b o e), er.wb, ⟨fun b hb => ?_, fun b xs hx => ?_⟩, fun x p hx => ?_, Nat.le_trans er.tk htk, fun x hx => ?_, er.apart, fun x c hc => ?_⟩
  · have := er.wb a hw; rw [← eb, e] at this; cases this
  · by_cases ea : b = a
    · subst ea; exact hex
    · obtain ⟨o, ho⟩ := er.sr.wl b hb; exact ⟨o, hk b o ea ho⟩
  · obtain ⟨us, j, h1, h2, h3⟩ := er.sr.ls b xs hx
    exact ⟨us, j, hk _ _ (fun ea => by rw [ea, hμ] at hx; cases hx) h1, h2, Reps.mono hf _ _ h3⟩
  · obtain ⟨v, h1, h2⟩ := er.vars x p hx
    refine ⟨v, ?_, Rep.mono hf _ _ h2⟩
    rcases h1 with ⟨k1, m1, hn1, hm1⟩ | ⟨k1, c, hc, hi⟩
    · exact .inl ⟨k1, m1, hn1.at' fun o e => hk _ o hl e, hm1⟩
    · obtain ⟨o, ho, hd'⟩ := hi
      exact .inr ⟨k1, c, hc, o, hk _ _ (hcell x c hc) ho, hd'⟩
  · obtain ⟨c, cv, h1, o, ho, hd'⟩ := er.has x hx
    exact ⟨c, cv, h1, o, hk _ _ (hcell x c h1) ho, hd'⟩
  · obtain ⟨cv, o, ho, hd'⟩ := er.cel x c hc
    exact ⟨cv, o, hk _ _ (hcell x c hc) ho, hd'⟩

/-- the names of a target: own names, unbound so far -/
structure TgtOk (env : Env) (W M : Addr → Prop) (ρ : Rho) (t : MTgt) : Prop where
  kind : ∀ x ∈ tgtNames t, env.kindOf x = some .local ∨ env.kindOf x = some .cell
  w : ∀ x ∈ tgtNames t, M (slotOf env x)
  none : ∀ x ∈ tgtNames t, ρ x = none

theorem slot_not_list {D : Addr} {x : Str} {vs : List Value} {n : Nat} (er : ER C W env s ρ μ) (hns : ∃ m, s.heap.Ns env.locals m) (hk : env.kindOf x = some .local ∨ env.kindOf x = some .cell) (hd : s.heap.get? D = some (lObj vs n)) : D ≠ slotOf env x := by
  obtain ⟨m, hm⟩ := hns
  rintro rfl
  rcases hk with hk | hk
  · have hsl : slotOf env x = env.locals := by simp [slotOf, hk]
    rw [hsl] at hd; exact ns_not_list hm hd
  · obtain ⟨c, cv, hc, hcv⟩ := er.has x (.inl hk)
    have hsl : slotOf env x = c := by simp [slotOf, hk, hc]
    rw [hsl] at hd; exact cell_not_list hcv hd

/-- the head of a turn: the item is bound, the accumulator stands -/
theorem turn_head {tgt : Expr} {q : PV} {v : Value} {D : Addr} {acc : List PV} (hr : Room lv A) (hb : bindT ρ (trTgt tgt) q = some ρ') (ht : TgtOk cenv W M ρ (trTgt tgt)) (hMW : ∀ b, M b → W b)
    (ci : CI C W cenv D ρ μ acc s) (rq : Rep (frz s.heap W) q v) :
    wpAny (model prog w) A (assign tgt cenv v) (fun _ s₂ => CI C W cenv D ρ' μ acc s₂ ∧ KB M s s₂) E s := by
  obtain ⟨er, hns, vs, n, hd, hr'⟩ := ci
  refine wpAny_mono (assign_sound (M := fun b => ∃ x ∈ tgtNames (trTgt tgt), b = slotOf cenv x) hr.hd hb er hns (fun x hx => ⟨ht.kind x hx, hMW _ (ht.w x hx), x, hx, rfl⟩) (fun b ⟨x, hx, e⟩ => e ▸ hMW _ (ht.w x hx)) rq) (fun _ s₂ h₂ => ?_) fun _ _ e => e
  obtain ⟨kb, er2, ns2⟩ := h₂
  have hf : ∀ a o, frz s.heap W a o → frz s₂.heap W a o := fun a o x => ⟨kb.2.1 a o (fun ⟨y, hy, e⟩ => x.2 (e ▸ hMW _ (ht.w y hy))) x.1, x.2⟩
  exact ⟨⟨er2, ns2, vs, n, kb.2.1 D _ (fun ⟨y, hy, e⟩ => slot_not_list er hns (ht.kind y hy) hd e) hd, Reps.mono hf _ _ hr'⟩, kb.mono fun b ⟨x, hx, e⟩ => e ▸ ht.w x hx⟩

theorem CI.keeps {D : Addr} {acc : List PV} {s' : Shared} (ci : CI C W cenv D ρ μ acc s) (k : Keeps s s') (ht : s.toks ≤ s'.toks) : CI C W cenv D ρ μ acc s' := by
  obtain ⟨er, ⟨m, hm⟩, vs, n, hd, hr'⟩ := ci
  exact ⟨er.keeps k ht, ⟨m, hm.keeps (Keeps.k k)⟩, vs, n, Keeps.k k _ _ hd, hr'.keep (Keeps.k k)⟩
theorem CI.weaken {D : Addr} {acc : List PV} (ci : CI C W cenv D ρ' μ acc s) (h : ∀ x p, ρ x = some p → ρ' x = some p) : CI C W cenv D ρ μ acc s :=
  ⟨ci.er.weaken h, ci.ns, ci.d⟩

theorem tests_ci {Γ : Names} {ifs : List Expr} {b : Bool} {D : Addr} {acc : List PV} {Q : Bool → Shared → Prop} (hr : Room lv A) (hΓ : cenv.scope.names = Γ) (ht : STs prog w C lv μ Γ ifs ρ b) (ci : CI C W cenv D ρ μ acc s)
    (h : ∀ s₃, CI C W cenv D ρ μ acc s₃ → KB M s s₃ → Q b s₃) : wpAny (model prog w) A (testsOf ifs cenv) Q E s :=
  wpAny_with_toks (n := s.toks) (Nat.le_refl _) (wpAny_mono (ht A _ W cenv s hr hΓ ci.er) (fun ok s₃ h₃ htk => by
    obtain ⟨rfl, k⟩ := h₃
    exact h s₃ (ci.keeps k htk) (KB.of_keeps k htk)) fun _ _ e => e)

/-- nothing more is asked -/
noncomputable def noY : List PV → Shared → Prop := fun _ _ => True

theorem turn_emit {Γ : Names} {g : Comprehension} {elt : Expr} {D : Addr} {c : Code} {q : PV} {a : List PV} {b : Bool} (hr : Room lv A) (hΓ : cenv.scope.names = Γ) (hb : bindT ρ (trTgt g.target) q = some ρ') (ht : TgtOk cenv W M ρ (trTgt g.target))
    (hMW : ∀ b, M b → W b) (hMD : M D) (hDL : cenv.locals ≠ D) (hDc : ∀ x c, cenv.cells.lookup x = some c → c ≠ D) (hμD : μ D = none)
    (htests : STs prog w C lv μ Γ g.ifs ρ' b) (helt : b = true → ∃ y, SE prog w C lv μ Γ elt ρ' y ∧ a = [y]) (hnil : b = false → a = []) :
    TurnOk prog w A C W M cenv D ρ μ g (emitTree elt (.ref D) cenv c) c noY q a := by
  intro s v acc E' ci _ rq hsz
  refine wpAny_mono (turn_head hr hb ht hMW ci rq) (fun _ s₂ h₂ => ?_) fun _ _ e => e
  obtain ⟨ci2, kb2⟩ := h₂
  refine tests_ci (M := M) hr hΓ htests ci2 fun s₃ ci3 kb3 => ?_
  have le := bindT_le hb ht.none
  cases hbb : b with
  | false =>
    rw [hnil hbb]
    simp only [Bool.false_eq_true, if_false, List.append_nil]
    exact ⟨ci3.weaken le, trivial, kb2.tr kb3⟩
  | true =>
    obtain ⟨y, hy, rfl⟩ := helt hbb
    simp only [if_true]
    refine wpAny_bind (wpAny_bind ?_)
    refine wpAny_with_toks (n := s₃.toks) (Nat.le_refl _) (wpAny_mono (hy A _ W cenv s₃ hr hΓ ci3.er) (fun x s₄ h₄ htk4 => ?_) fun _ _ e _ => e)
    obtain ⟨k4, ry⟩ := h₄
    have ci4 := ci3.keeps k4 htk4
    obtain ⟨er4, ⟨m4, hm4⟩, vs, n, hd, hrr⟩ := ci4
    have hl := hrr.length
    refine wpAny_bind (wpAny_list_append_plain (items := vs.toArray) ⟨n, hd⟩ (fun h' hp hs' => ?_) (by simp [SZ_eq] at hsz ⊢; lia))
    refine wpAny_pure (wpAny_pure ⟨rfl, ?_, trivial, ?_⟩)
    · have er5 := er_change (a := D) (h' := h') (tk := s₄.toks) er4 (fun b o hb e => hs'.extBut b o hb e) (Nat.le_refl _) (hMW _ hMD) hDL hDc hμD (by obtain ⟨k, e⟩ := hp; exact ⟨_, e⟩)
      obtain ⟨k, hp⟩ := hp
      refine ⟨er5.weaken le, ⟨m4, hm4.sameBut hs' hDL⟩, vs ++ [x], k, by rw [hp]; simp [lObj], ?_⟩
      have hf : ∀ a o, frz s₄.heap W a o → frz h' W a o := fun a o z => ⟨hs'.extBut a o (fun e => z.2 (e ▸ hMW _ hMD)) z.1, z.2⟩
      exact (Reps.mono hf _ _ hrr).append (Reps.cons (Rep.mono hf _ _ ry) Reps.nil)
    · refine kb2.tr (kb3.tr ((KB.of_keeps k4 htk4).tr ⟨⟨h', _, rfl⟩, fun b o hb e => hs'.extBut b o (fun eb => hb (eb ▸ hMD)) e, Nat.le_refl _⟩))
end
end Mine
end

section
open PySem PySem.W PyProof.Rows PySem.SeqAt
namespace Mine

section
variable {prog : Program} {w : World} {A : Around} {E : Value → Shared → Prop} {s : Shared} {W M : Addr → Prop} {μ : Mu} {ρ ρ' : Rho} {cenv env : Env} {C : Cx} {lv : Nat}

theorem CI.extend {D : Addr} {acc : List PV} {s' : Shared} {W' : Addr → Prop} (ci : CI C W cenv D ρ μ acc s) (k : Keeps s s') (ht : s.toks ≤ s'.toks)
    (h : ∀ a, W' a → W a ∨ (s.heap.get? a = none ∧ ∃ o, s'.heap.get? a = some o)) : CI C W' cenv D ρ μ acc s' := by
  obtain ⟨er, ⟨m, hm⟩, vs, n, hd, hr'⟩ := ci
  refine ⟨er.extend k ht h, ⟨m, hm.keeps (Keeps.k k)⟩, vs, n, Keeps.k k _ _ hd, Reps.mono (fun a o x => ⟨Keeps.k k a o x.1, fun hw => ?_⟩) _ _ hr'⟩
  rcases h a hw with h1 | ⟨h1, _⟩
  · exact x.2 h1
  · first | exact clash x.1 h1 | (rw [x.1] at h1; cases h1)

theorem turn_inner {Γ : Names} {elt t i t2 i2 : Expr} {fs fs2 : List Expr} {sc : Scope} {pos : Pos} {D : Addr} {c : Code} {q p2 : PV} {a items2 : List PV} {b : Bool} (hr : Room lv A) (hΓ : cenv.scope.names = Γ)
    (hb : bindT ρ (trTgt t) q = some ρ') (ht : TgtOk cenv W M ρ (trTgt t))
    (hMW : ∀ b, M b → W b) (hMD : M D) (hMμ : ∀ b, M b → μ b = none)
    (htests : STs prog w C lv μ Γ fs ρ' b) (hnil : b = false → a = [])
    (hin : b = true → SE prog w C lv μ Γ i2 ρ' p2 ∧ iter μ p2 = some items2 ∧ (∀ e x, foldedSetIterable i2 e x = pure x) ∧
      ∀ (W2 : Addr → Prop) (c2 : Code), (∀ b, M b → W2 b) → (cenv.locals ≠ D) → (∀ x c, cenv.cells.lookup x = some c → c ≠ D) → Run (TurnOk prog w A C W2 M cenv D ρ' μ ⟨t2, i2, fs2, 0⟩ (emitTree elt (.ref D) cenv c2) c2 noY) items2 a)
    (hDL : cenv.locals ≠ D) (hDc : ∀ x c, cenv.cells.lookup x = some c → c ≠ D) :
    TurnOk prog w A C W M cenv D ρ μ ⟨t, i, fs, 0⟩ (innerTree (.ListComp elt [⟨t, i, fs, 0⟩, ⟨t2, i2, fs2, 0⟩] sc pos) i2 (.ref D) cenv c) c noY q a := by
  intro s v acc E' ci _ rq hsz
  refine wpAny_mono (turn_head hr hb ht hMW ci rq) (fun _ s₂ h₂ => ?_) fun _ _ e => e
  obtain ⟨ci2, kb2⟩ := h₂
  refine tests_ci (M := M) hr hΓ htests ci2 fun s₃ ci3 kb3 => ?_
  have le := bindT_le hb ht.none
  cases hbb : b with
  | false =>
    rw [hnil hbb]
    simp only [Bool.false_eq_true, if_false, List.append_nil]
    exact ⟨ci3.weaken le, trivial, kb2.tr kb3⟩
  | true =>
    obtain ⟨hse, hit, hfold, hrun⟩ := hin hbb
    simp only [if_true]
    refine wpAny_bind (wpAny_with_toks (n := s₃.toks) (Nat.le_refl _) (wpAny_mono (hse A _ W cenv s₃ hr hΓ ci3.er) (fun x s₄ h₄ htk4 => ?_) fun _ _ e _ => e))
    obtain ⟨k4, rx⟩ := h₄
    have ci4 := ci3.keeps k4 htk4
    refine wpAny_bind (wpAny_standAt (wpAny_bind (wpAny_of_eq (hfold cenv x) (wpAny_bind (wpAny_holding ?_)))))
    refine wpAny_with_toks (n := s₄.toks) (Nat.le_refl _) (wpAny_mono (iter_sound hit ci4.er.sr rx hr.hd) (fun it s₅ h₅ htk5 => ?_) fun _ _ e _ => e)
    obtain ⟨I, fp, n, P, St, rfl, hn, Wk, hst, hI, hfp, hIfp, hP, hgo, hex, k5⟩ := h₅
    have ci5 : CI C (fun b => W b ∨ b = I) cenv D ρ' μ acc s₅ := ci4.extend k5 htk5 fun a ha => by
      rcases ha with ha | rfl
      · exact .inl ha
      · exact .inr ⟨hI, hex _ _ hst⟩
    have neI : ∀ b o, s₄.heap.get? b = some o → b ≠ I := fun b o e eb => by rw [eb, hI] at e; cases e
    obtain ⟨m4, hm4⟩ := ci4.ns
    obtain ⟨vs4, n4, hd4, _⟩ := ci4.d
    have hLI : cenv.locals ≠ I := by obtain ⟨o, _, _, ho, _⟩ := hm4; exact neI _ o ho
    have hDI : D ≠ I := neI _ _ hd4
    refine wpAny_bind (wpAny_runOwn (h := none) ?_)
    have key : codeAny (model prog w) A (.compLoop (.ListComp elt [⟨t, i, fs, 0⟩, ⟨t2, i2, fs2, 0⟩] sc pos) 1 (.ref I) (.ref D) cenv)
        (fun r s' => match r with
          | .ok f => wpAny (model prog w) A (again c) (fun fin s₅ => fin = .again c ∧ CI C W cenv D ρ μ (acc ++ a) s₅ ∧ noY (acc ++ a) s₅ ∧ KB M s s₅) E' s'
          | .error e => cameBackBy (model prog w) A cenv E' e s') s₅ := by
      refine level_sound (M := M) (W' := W) (gr := frz s₄.heap W) (turn_two1 elt t i t2 i2 fs fs2 sc pos (.ref I) (.ref D) cenv) hn Wk hP hgo hex (.inr rfl) (fun b hb => .inl (hMW b hb)) hDI hLI ?_ ?_ ?_ ?_ ?_ (hrun _ _ (fun b hb => .inl (hMW b hb)) hDL hDc) (fun _ _ _ _ _ h => h) hst ci5 trivial hsz ?_
      · intro b hb hm
        rcases hfp b hb with rfl | ⟨_, h1 | h1⟩
        · have hw := hMW b hm
          obtain ⟨o, ho⟩ := ci4.er.sr.wl b hw
          exact neI b o ho rfl
        · exact h1 (hMW b hm)
        · rw [hMμ b hm] at h1; cases h1
      · intro x cc hc
        obtain ⟨cv, o, ho, _⟩ := ci4.er.cel x cc hc
        exact neI _ o ho
      · cases hm : μ I with
        | none => rfl
        | some xs => obtain ⟨vs, n, h1, _⟩ := ci4.er.sr.ls I xs hm; exact absurd rfl (neI I _ h1)
      · intro a o x
        exact ⟨Keeps.k k5 a o x.1, fun hw => hw.elim x.2 fun e => neI a o x.1 e⟩
      · intro a ha
        obtain ⟨o, ho⟩ := ci4.er.sr.wl a ha
        exact ⟨.inl ha, neI a o ho⟩
      · intro s' ci' _ kb'
        refine wpAny_pure ⟨rfl, ci'.weaken le, trivial, ?_⟩
        have kb4 : KB M s s₄ := kb2.tr (kb3.tr (KB.of_keeps k4 htk4))
        have kbx := (kb4.mono (fun b hb => (.inl hb : M b ∨ b = I))).tr ((KB.of_keeps k5 htk5).tr kb')
        exact ⟨kbx.1, fun b o hb e => kb'.2.1 b o (fun h => h.elim hb (neI b o (kb4.2.1 b o hb e))) (Keeps.k k5 b o (kb4.2.1 b o hb e)), kbx.2.2⟩
    exact compStart_any (g := ⟨t2, i2, fs2, 0⟩) rfl rfl key fun E'' => Wk.self 0 s₅ _ _ hst ⟨rfl, rfl⟩
end
end Mine
end

section
open PySem PySem.W PyProof.Rows PySem.SeqAt
namespace Mine

theorem relab_lookup (Γ : Names) : ∀ (ns : Names) (x : Str), (relab ns Γ).lookup x = (ns.lookup x).map fun k => if k == .free && Γ.lookup x == some .cell then .cell else k
  | [], x => rfl
  | (n, k) :: r, x => by
    have ih := relab_lookup Γ r x
    have e : relab ((n, k) :: r) Γ = (n, if k == .free && Γ.lookup n == some .cell then NameKind.cell else k) :: relab r Γ := by
      simp only [relab, List.map_cons]; split <;> rfl
    rw [e, List.lookup_cons, List.lookup_cons]
    cases hx : x == n with
    | true => have := beq_iff_eq.mp hx; subst this; rfl
    | false => exact ih

theorem relabel_names {sc : Scope} {env : Env} (hk : env.scope.kind = .function) : (relabel sc env).names = relab sc.names env.scope.names := by
  have : (env.scope.kind == ScopeKind.function) = true := by rw [hk]; rfl
  simp only [relabel, relab, this, Bool.and_true]
  rfl

/-- every free name has its cell -/
theorem closure_go (env : Env) : ∀ (ns : Names) (acc : List (Str × Addr)), (∀ x ∈ ns, x.2 = .free → ∃ c, env.cells.lookup x.1 = some c) →
    ∃ cl, (forIn (m := Sem) ns acc fun x r => if (x.2 == .free) = true then (do let a ← cellOf env x.1; pure (ForInStep.yield ((x.1, a) :: r))) else pure (ForInStep.yield r)) = pure cl ∧
      (∀ x, (x, NameKind.free) ∈ ns → cl.lookup x = env.cells.lookup x) ∧ (∀ x, (x, NameKind.free) ∉ ns → cl.lookup x = acc.lookup x)
  | [], acc, _ => ⟨acc, rfl, fun x h => (nomatch h), fun x _ => rfl⟩
  | (n, k) :: r, acc, h => by
    rw [List.forIn_cons]
    cases hk : k == NameKind.free with
    | false =>
      have hne : ∀ x, (x, NameKind.free) ∈ (n, k) :: r → (x, NameKind.free) ∈ r := by
        intro x hx
        rcases List.mem_cons.mp hx with e | hx
        · cases e; cases hk
        · exact hx
      obtain ⟨cl, h1, h2, h3⟩ := closure_go env r acc fun x hx => h x (List.mem_cons_of_mem _ hx)
      refine ⟨cl, ?_, fun x hx => h2 x (hne x hx), fun x hx => h3 x fun hx' => hx (List.mem_cons_of_mem _ hx')⟩
      simpa [hk] using h1
    | true =>
      have hk' : k = .free := by cases k <;> first | rfl | cases hk
      subst hk'
      obtain ⟨c, hc⟩ := h (n, .free) List.mem_cons_self rfl
      obtain ⟨cl, h1, h2, h3⟩ := closure_go env r ((n, c) :: acc) fun x hx => h x (List.mem_cons_of_mem _ hx)
      refine ⟨cl, ?_, fun x hx => ?_, fun x hx => ?_⟩
      · simp only [beq_self_eq_true, if_true, cellOf, hc]; exact h1
      · by_cases hr : (x, NameKind.free) ∈ r
        · exact h2 x hr
        · have e : x = n := by rcases List.mem_cons.mp hx with e | hx
                               · cases e; rfl
                               · exact absurd hx hr
          subst e
          rw [h3 x hr, List.lookup_cons]; simp [hc]
      · rw [h3 x fun hx' => hx (List.mem_cons_of_mem _ hx'), List.lookup_cons]
        have : (x == n) = false := by
          cases e : x == n with
          | false => rfl
          | true => rw [beq_iff_eq.mp e] at hx; exact absurd List.mem_cons_self hx
        rw [this]

theorem closure_sound {sc : Scope} {env : Env} (h : ∀ x ∈ sc.names, x.2 = .free → ∃ c, env.cells.lookup x.1 = some c) :
    ∃ cl, closureFor sc env = pure cl ∧ (∀ x, (x, NameKind.free) ∈ sc.names → cl.lookup x = env.cells.lookup x) ∧ (∀ x, (x, NameKind.free) ∉ sc.names → cl.lookup x = none) := by
  obtain ⟨cl, h1, h2, h3⟩ := closure_go env sc.names [] h
  refine ⟨cl, ?_, h2, h3⟩
  unfold closureFor
  have : (forIn (m := Sem) sc.names ([] : List (Str × Addr)) fun x r => match x with
      | (name, kind) => if (kind == .free) = true then (do let a ← cellOf env name; pure (ForInStep.yield ((name, a) :: r))) else pure (ForInStep.yield r)) = pure cl := h1
  simp only [this]
  rfl

structure CO (h : Heap) (cs : List (Str × Addr)) : Prop where
  cel : ∀ x c, cs.lookup x = some c → ∃ cv, h.IsCell c cv
  apart : ∀ x y c, cs.lookup x = some c → cs.lookup y = some c → x = y

theorem cellsFrom_co : ∀ (ns : Names) (h : Heap) (acc : List (Str × Addr)), CO h acc → CO (pushCells h ns) (cellsFrom h.objs.size ns acc)
  | [], _, _, x => x
  | (n, k) :: r, h, acc, x => by
    unfold pushCells cellsFrom
    split
    · have := cellsFrom_co r (h.push { cls := .type "cell", data := .cell none }) ((n, h.objs.size) :: acc)
        ⟨fun y c hy => by
          rw [List.lookup_cons] at hy
          cases e : y == n with
          | true => first | exact clash e hy | (rw [e] at hy; cases hy); exact ⟨none, _, Heap.get?_push_size _ rfl, rfl⟩
          | false => rw [e] at hy; obtain ⟨cv, hcv⟩ := x.cel y c hy; exact ⟨cv, hcv.keeps fun b o e => Heap.get?_push_of_some _ e⟩,
        fun y z c hy hz => by
          rw [List.lookup_cons] at hy hz
          cases e : y == n with
          | true =>
            first | exact clash e hy | (rw [e] at hy; cases hy)
            cases e2 : z == n with
            | true => rw [beq_iff_eq.mp e, beq_iff_eq.mp e2]
            | false => rw [e2] at hz; obtain ⟨cv, hcv⟩ := x.cel z _ hz; exact absurd hcv.lt (Nat.lt_irrefl _)
          | false =>
            rw [e] at hy
            cases e2 : z == n with
            | true => first | exact clash e2 hz | (rw [e2] at hz; cases hz); obtain ⟨cv, hcv⟩ := x.cel y _ hy; exact absurd hcv.lt (Nat.lt_irrefl _)
            | false => rw [e2] at hz; exact x.apart y z c hy hz⟩
      rwa [Heap.size_push] at this
    · exact cellsFrom_co r h acc x

theorem cellsFrom_new (x : Str) (lo : Nat) : ∀ (ns : Names) (n : Nat) (acc : List (Str × Addr)), lo ≤ n → ((∃ c, acc.lookup x = some c ∧ lo ≤ c) ∨ (x, NameKind.cell) ∈ ns) → ∃ c, (cellsFrom n ns acc).lookup x = some c ∧ lo ≤ c
  | [], n, acc, _, h => h.elim id fun h => (nomatch h)
  | (y, k) :: r, n, acc, hn, h => by
    unfold cellsFrom
    split
    · refine cellsFrom_new x lo r (n + 1) _ (by lia) ?_
      by_cases e : x = y
      · subst e; exact .inl ⟨n, by simp, hn⟩
      · rcases h with ⟨c, hc, hl⟩ | h
        · refine .inl ⟨c, ?_, hl⟩
          rw [List.lookup_cons]
          have : (x == y) = false := by simpa using e
          rw [this]; exact hc
        · rcases List.mem_cons.mp h with h | h
          · cases h; exact absurd rfl e
          · exact .inr h
    · rename_i hk
      refine cellsFrom_new x lo r n acc hn ?_
      rcases h with h | h
      · exact .inl h
      · rcases List.mem_cons.mp h with h | h
        · cases h; exact absurd rfl hk
        · exact .inr h
theorem cellsFrom_old (x : Str) : ∀ (ns : Names) (n : Nat) (acc : List (Str × Addr)), (x, NameKind.cell) ∉ ns → (cellsFrom n ns acc).lookup x = acc.lookup x
  | [], n, acc, _ => rfl
  | (y, k) :: r, n, acc, h => by
    unfold cellsFrom
    have hr : (x, NameKind.cell) ∉ r := fun hr => h (List.mem_cons_of_mem _ hr)
    split
    · rename_i hk
      have hk' : k = .cell := by cases k <;> first | rfl | cases hk
      subst hk'
      rw [cellsFrom_old x r _ _ hr, List.lookup_cons]
      have : (x == y) = false := by
        cases e : x == y with
        | false => rfl
        | true => rw [beq_iff_eq.mp e] at h; exact absurd List.mem_cons_self h
      rw [this]
    · exact cellsFrom_old x r _ _ hr

section
variable {prog : Program} {w : World} {A : Around} {E : Value → Shared → Prop} {s : Shared} {W M : Addr → Prop} {μ : Mu} {ρ ρ' : Rho} {cenv env : Env} {C : Cx} {lv : Nat}

theorem newEnv_sound {sc : Scope} {gl : Addr} {cl : List (Str × Addr)} {qual : Str} {Q : Env → Shared → Prop}
    (h : Q { scope := sc, locals := s.heap.objs.size, globals := gl, cells := cellsFrom (s.heap.objs.size + 1) sc.names cl, qual := qual, func := none, code := env.code, frame := env.frame, builtins := env.builtins }
      { s with heap := pushCells (s.heap.push { cls := .type "dict", data := .dict #[] }) sc.names }) :
    wpAny (model prog w) A (newFunctionEnv sc gl cl [] qual none .none (some env)) Q E s := by
  unfold newFunctionEnv
  simp only [Option.isSome_some, if_true]
  refine wpAny_bind (wpAny_alloc (wpAny_bind (wpAny_layCells _ (fun name kind cells => by cases hkc : kind == NameKind.cell <;> simp [hkc]) _ _ _ _ ?_)))
  rw [List.forIn_nil]
  refine wpAny_bind (wpAny_pure (wpAny_pure ?_))
  rw [show ({ s with heap := s.heap.push { cls := .type "dict", data := .dict #[] } } : Shared).heap.objs.size = s.heap.objs.size + 1 from Heap.size_push ..]
  exact h

structure CompOk (sc : Scope) (Γ : Names) : Prop where
  kind : sc.kind = .function
  uniq : ∀ x ∈ sc.names, sc.names.lookup x.1 = some x.2
  free : ∀ x ∈ sc.names, x.2 = .free → Γ.lookup x.1 = some .cell ∨ Γ.lookup x.1 = some .free

theorem compOk_ok {sc : Scope} {Γ : Names} (h : compOk sc Γ = true) : CompOk sc Γ := by
  unfold compOk at h
  simp only [Bool.and_eq_true, List.all_eq_true, Bool.or_eq_true, bne_iff_ne, beq_iff_eq, ne_eq] at h
  refine ⟨h.1, fun x hx => (h.2 x hx).1, fun x hx hf => ?_⟩
  rcases (h.2 x hx).2 with (h1 | h1) | h1
  · exact absurd hf h1
  · exact .inl h1
  · exact .inr h1

theorem frees_mem {ns : Names} {x : Str} : x ∈ frees ns ↔ (x, NameKind.free) ∈ ns := by
  unfold frees
  rw [List.mem_map]
  constructor
  · rintro ⟨⟨y, k⟩, hm, rfl⟩
    obtain ⟨h1, h2⟩ := List.mem_filter.mp hm
    have : k = .free := by cases k <;> first | rfl | cases h2
    subst this; exact h1
  · intro h
    exact ⟨_, List.mem_filter.mpr ⟨h, rfl⟩, rfl⟩

/-- the comprehension's own environment, all of it new -/
theorem cenv_er {sc : Scope} {Γ : Names} {cl : List (Str × Addr)} {W' : Addr → Prop} {s₄ : Shared} (er : ER C W env s ρ μ) (hΓ : env.scope.names = Γ) (ok : CompOk sc Γ)
    (hcl1 : ∀ x, (x, NameKind.free) ∈ sc.names → cl.lookup x = env.cells.lookup x) (hcl2 : ∀ x, (x, NameKind.free) ∉ sc.names → cl.lookup x = none)
    (hs : s₄ = { s with heap := pushCells (s.heap.push { cls := .type "dict", data := .dict #[] }) sc.names })
    (hce : cenv = { scope := relabel sc env, locals := s.heap.objs.size, globals := env.globals, cells := cellsFrom (s.heap.objs.size + 1) sc.names cl, qual := env.qual, func := none, code := env.code, frame := env.frame, builtins := env.builtins })
    (hW : ∀ a, W' a → W a ∨ (s.heap.get? a = none ∧ ∃ o, s₄.heap.get? a = some o)) :
    ER C W' cenv s₄ (restr (frees sc.names) ρ) μ ∧ (∃ m, s₄.heap.Ns cenv.locals m) ∧ Keeps s s₄ ∧ cenv.scope.names = relab sc.names Γ ∧ cenv.locals = s.heap.objs.size ∧
      (∀ x, ownName sc.names x = true → (cenv.kindOf x = some .local ∨ cenv.kindOf x = some .cell) ∧ s.heap.get? (slotOf cenv x) = none ∧ (∃ o, s₄.heap.get? (slotOf cenv x) = some o) ∧ restr (frees sc.names) ρ x = none) := by
  have hk0 : ∀ b o, s.heap.get? b = some o → s₄.heap.get? b = some o := fun b o e => by rw [hs]; exact pushCells_keeps _ _ _ _ (Heap.get?_push_of_some _ e)
  have K : Keeps s s₄ := ⟨s₄.heap, s.toks, by rw [hs], hk0⟩
  have ht : s.toks ≤ s₄.toks := by rw [hs]; exact Nat.le_refl _
  have ex := er.extend K ht hW
  have hnm : cenv.scope.names = relab sc.names Γ := by rw [hce, ← hΓ]; exact relabel_names er.kind
  have hkd : ∀ x, cenv.kindOf x = (sc.names.lookup x).map fun k => if k == .free && Γ.lookup x == some .cell then .cell else k := fun x => by
    show cenv.scope.names.lookup x = _; rw [hnm]; exact relab_lookup Γ sc.names x
  have hfc : ∀ x, (x, NameKind.free) ∈ sc.names → (x, NameKind.cell) ∉ sc.names := fun x h1 h2 => by
    have := ok.uniq _ h1; rw [ok.uniq _ h2] at this; cases this
  have hcells : cenv.cells = cellsFrom (s.heap.objs.size + 1) sc.names cl := by rw [hce]
  have hloc : cenv.locals = s.heap.objs.size := by rw [hce]
  have ns4 : s₄.heap.Ns s.heap.objs.size fun _ => none := by rw [hs]; exact (Heap.Ns.new s.heap (.type "dict")).keeps (pushCells_keeps _ _)
  have hco : CO s₄.heap cenv.cells := by
    rw [hcells, hs]
    have := cellsFrom_co sc.names (s.heap.push { cls := .type "dict", data := .dict #[] }) cl ⟨fun x c hx => ?_, fun x y c hx hy => ?_⟩
    · rwa [Heap.size_push] at this
    · by_cases hf : (x, NameKind.free) ∈ sc.names
      · rw [hcl1 x hf] at hx; obtain ⟨cv, h1⟩ := er.cel x c hx; exact ⟨cv, h1.keeps fun b o e => Heap.get?_push_of_some _ e⟩
      · rw [hcl2 x hf] at hx; cases hx
    · by_cases hf : (x, NameKind.free) ∈ sc.names
      · by_cases hg : (y, NameKind.free) ∈ sc.names
        · rw [hcl1 x hf] at hx; rw [hcl1 y hg] at hy; exact er.apart x y c hx hy
        · rw [hcl2 y hg] at hy; cases hy
      · rw [hcl2 x hf] at hx; cases hx
  have hfl : ∀ x, (x, NameKind.free) ∈ sc.names → cenv.cells.lookup x = env.cells.lookup x := fun x hf => by
    rw [hcells, cellsFrom_old x _ _ _ (hfc x hf), hcl1 x hf]
  have hfk : ∀ x, (x, NameKind.free) ∈ sc.names → env.kindOf x = some .cell ∨ env.kindOf x = some .free := fun x hf => by
    have := ok.free _ hf rfl; rw [← hΓ] at this; exact this
  have kinds : ∀ x, cenv.kindOf x = some .cell ∨ cenv.kindOf x = some .free → (x, NameKind.free) ∈ sc.names ∨ (x, NameKind.cell) ∈ sc.names := by
    intro x hx
    rw [hkd x] at hx
    cases hl : sc.names.lookup x with
    | none => rw [hl] at hx; simp at hx
    | some k =>
      rw [hl] at hx
      cases k with
      | free => exact .inl (mem_of_lookup hl)
      | cell => exact .inr (mem_of_lookup hl)
      | _ => simp at hx
  refine ⟨⟨by rw [hce]; exact ok.kind, by rw [hce]; exact er.gl, by rw [hce]; exact er.bl, ex.base, ex.wb, ex.sr, fun x p hx => ?_, ex.tk, fun x hx => ?_, hco.apart, hco.cel⟩, ⟨_, by rw [hloc]; exact ns4⟩, K, hnm, hloc, fun x hx => ?_⟩
  · unfold restr at hx
    split at hx
    · rename_i hf
      have hf := frees_mem.mp hf
      obtain ⟨v, h1, h2⟩ := ex.vars x p hx
      refine ⟨v, ?_, h2⟩
      rcases h1 with ⟨k1, _⟩ | ⟨k1, c, hc, hi⟩
      · rcases hfk x hf with h | h <;> rw [h] at k1 <;> cases k1
      · refine .inr ⟨?_, c, by rw [hfl x hf]; exact hc, hi⟩
        rw [hkd x, ok.uniq _ hf]
        simp only [Option.map_some, beq_self_eq_true, Bool.true_and]
        split <;> simp
    · cases hx
  · rcases kinds x hx with hf | hc
    · obtain ⟨c, cv, h1, h2⟩ := ex.has x (hfk x hf)
      exact ⟨c, cv, by rw [hfl x hf]; exact h1, h2⟩
    · obtain ⟨c, h1, _⟩ := cellsFrom_new x 0 sc.names (s.heap.objs.size + 1) cl (Nat.zero_le _) (.inr hc)
      rw [← hcells] at h1
      obtain ⟨cv, h2⟩ := hco.cel x c h1
      exact ⟨c, cv, h1, h2⟩
  · have hr : restr (frees sc.names) ρ x = none := by
      unfold restr
      rw [if_neg]
      intro hf
      have := ok.uniq _ (frees_mem.mp hf)
      unfold ownName at hx
      first | exact clash this hx | (rw [this] at hx; cases hx)
    unfold ownName at hx
    have fresh : ∀ b, s.heap.objs.size ≤ b → s.heap.get? b = none := fun b hb => by
      cases e : s.heap.get? b with
      | none => rfl
      | some o => exact absurd (Heap.lt_size e) (Nat.not_lt.mpr hb)
    rcases Bool.or_eq_true_iff.mp hx with h | h
    · have h := beq_iff_eq.mp h
      have hk : cenv.kindOf x = some .local := by rw [hkd x, h]; rfl
      have hsl : slotOf cenv x = s.heap.objs.size := by rw [← hloc]; simp [slotOf, hk]
      refine ⟨.inl hk, by rw [hsl]; exact fresh _ (Nat.le_refl _), ?_, hr⟩
      rw [hsl]; obtain ⟨o, _, _, ho, _⟩ := ns4; exact ⟨o, ho⟩
    · have h := beq_iff_eq.mp h
      have hk : cenv.kindOf x = some .cell := by rw [hkd x, h]; rfl
      obtain ⟨c, h1, h2⟩ := cellsFrom_new x (s.heap.objs.size + 1) sc.names (s.heap.objs.size + 1) cl (Nat.le_refl _) (.inr (mem_of_lookup h))
      rw [← hcells] at h1
      have hsl : slotOf cenv x = c := by simp [slotOf, hk, h1]
      refine ⟨.inr hk, by rw [hsl]; exact fresh _ (by lia), ?_, hr⟩
      rw [hsl]; obtain ⟨cv, o, ho, _⟩ := hco.cel x c h1; exact ⟨o, ho⟩
end
end Mine
end

section
open PySem PySem.W PyProof.Rows PySem.SeqAt
namespace Mine
section
variable {prog : Program} {w : World} {A : Around} {E : Value → Shared → Prop} {s : Shared} {W : Addr → Prop} {μ : Mu} {ρ ρ' : Rho} {env : Env} {C : Cx} {lv : Nat}

/-- what a comprehension's own environment gives to its turns -/
structure CEnv (sc : Scope) (Γ : Names) (W M : Addr → Prop) (μ : Mu) (ρ : Rho) (cenv : Env) (D : Addr) : Prop where
  names : cenv.scope.names = relab sc.names Γ
  sub : ∀ b, M b → W b
  d : M D
  nomu : ∀ b, M b → μ b = none
  locD : cenv.locals ≠ D
  celD : ∀ x c, cenv.cells.lookup x = some c → c ≠ D
  own : ∀ x, ownName sc.names x = true → (cenv.kindOf x = some .local ∨ cenv.kindOf x = some .cell) ∧ M (slotOf cenv x) ∧ ρ x = none

theorem comp_core {elt : Expr} {g : Comprehension} {gs : List Comprehension} {sc : Scope} {pos fpos : Pos} {Γ : Names} {x0 : PV} {items ys : List PV} {use : Option (Value → Sem Unit)} {Q : Value → Shared → Prop} {STEP : Value → Value → Env → Sem Fin} {Y : Addr → Addr → Shared → List PV → Shared → Prop}
    (hr : Room lv A) (hΓ : env.scope.names = Γ) (ok : CompOk sc Γ) (ha : g.is_async = 0) (hfold : ∀ x, foldedSetIterable g.iter env x = pure x)
    (heq : ∀ it acc env, compTurn (.ListComp elt (g :: gs) sc pos) 0 it acc env = turnTree (.ListComp elt (g :: gs) sc pos) 0 g it acc env (STEP it acc env))
    (hit : SE prog w C lv μ Γ g.iter ρ x0) (hi : iter μ x0 = some items) (hsz : ys.length ≤ SZ)
    (hY0 : ∀ (D I : Addr) (s₄ : Shared), s₄.heap.get? D = some (lObj [] 0) → D ≠ I → (∃ o, s₄.heap.get? I = some o) → Y D I s₄ [] s₄)
    (hYI : ∀ (D I : Addr) (s₄ : Shared) acc (s' : Shared) h' tk, D ≠ I → (∀ b o, b ≠ I → s'.heap.get? b = some o → h'.get? b = some o) → Y D I s₄ acc s' → Y D I s₄ acc { s' with heap := h', toks := tk })
    (hrun : ∀ (W4 M : Addr → Prop) (cenv : Env) (D I : Addr) (s₄ : Shared), CEnv sc Γ W4 M μ (restr (frees sc.names) ρ) cenv D → (∀ b, M b → ∃ o, s₄.heap.get? b = some o) → W4 I →
      Run (TurnOk prog w A C W4 M cenv D (restr (frees sc.names) ρ) μ g (STEP (.ref I) (.ref D) cenv) (.compLoop (.ListComp elt (g :: gs) sc pos) 0 (.ref I) (.ref D) cenv) (Y D I s₄)) items ys)
    (er : ER C W env s ρ μ)
    (hfin : ∀ (s' : Shared) (L D : Addr) (m : Str → Option Value) (vs : List Value) (n : Nat), Keeps s s' → s.toks ≤ s'.toks → s.heap.get? L = none → s.heap.get? D = none → L ≠ D → s'.heap.Ns L m → s'.heap.get? D = some (lObj vs n) → vs.length ≤ SZ →
      Reps (frz s'.heap (fun b => W b ∨ b = L ∨ b = D)) ys vs → (∃ I s₄, Keeps s s₄ ∧ (∃ o, s₄.heap.get? L = some o) ∧ Y D I s₄ ys s') → compPost (model prog w) A E use Q (.ref D) L (.ok .next) s') :
    wpAny (model prog w) A (comprehension (.ListComp elt (g :: gs) sc pos) sc env fpos (newList []) false (eval g.iter env) use) Q E s := by
  obtain ⟨cl, hcl, hcl1, hcl2⟩ := closure_sound (sc := sc) (env := env) fun x hx hf => by
    obtain ⟨c, cv, h1, _⟩ := er.has x.1 (by have := ok.free x hx hf; rw [← hΓ] at this; exact this)
    exact ⟨c, h1⟩
  refine wpAny_comprehension_free (g := g) (gs := gs) rfl hfold hcl ok.kind (fun x hx hl => by rw [ok.uniq x hx, hl]) ?_
  refine wpAny_with_toks (n := s.toks) (Nat.le_refl _) (wpAny_mono (hit A _ W env s hr hΓ er) (fun x s₁ h₁ htk1 => ?_) fun _ _ e _ => e)
  obtain ⟨k1, rx⟩ := h₁
  have er1 := er.keeps k1 htk1
  refine wpAny_with_toks (n := s₁.toks) (Nat.le_refl _) (wpAny_mono (iter_sound hi er1.sr rx hr.hd) (fun it s₂ h₂ htk2 => ?_) fun _ _ e _ => e)
  obtain ⟨I, fp, n, P, St, rfl, hn, Wk, hst, hI, hfp, hIfp, hP, hgo, hex, k2⟩ := h₂
  refine wpAny_newObj_type ?_
  refine newEnv_sound ?_
  generalize hs3 : ({ s₂ with heap := s₂.heap.push { cls := .type "list", dict := none, data := .seq ([] : List Value).toArray } } : Shared) = s₃
  have hD3 : s₃.heap.get? s₂.heap.objs.size = some (lObj [] 0) := by rw [← hs3]; exact Heap.get?_push_size _ rfl
  have hD2 : s₂.heap.get? s₂.heap.objs.size = none := fresh_none _
  generalize s₂.heap.objs.size = D at hD3 hD2
  have k3 : Keeps s₂ s₃ := by rw [← hs3]; exact Keeps.push _ _
  have htk3 : s₂.toks ≤ s₃.toks := by rw [← hs3]; exact Nat.le_refl _
  have k13 : Keeps s₁ s₃ := Keeps.tr k2 k3
  have hIo2 : ∃ o, s₂.heap.get? I = some o := hex _ _ hst
  have hIo3 : ∃ o, s₃.heap.get? I = some o := let ⟨o, ho⟩ := hIo2; ⟨o, Keeps.k k3 _ _ ho⟩
  have hD1 : s₁.heap.get? D = none := by
    cases e : s₁.heap.get? D with
    | none => rfl
    | some o => rw [Keeps.k k2 _ _ e] at hD2; cases hD2
  have hDI : D ≠ I := by rintro rfl; obtain ⟨o, ho⟩ := hIo2; first | exact clash hD2 ho | (rw [hD2] at ho; cases ho)
  have er3 : ER C (fun b => W b ∨ b = I ∨ b = D) env s₃ ρ μ := er1.extend k13 (Nat.le_trans htk2 htk3) fun a h => by
    rcases h with h | rfl | rfl
    · exact .inl h
    · exact .inr ⟨hI, hIo3⟩
    · exact .inr ⟨hD1, _, hD3⟩
  generalize hs4 : ({ s₃ with heap := pushCells (s₃.heap.push { cls := .type "dict", data := .dict #[] }) sc.names } : Shared) = s₄
  generalize hce : (⟨relabel sc env, s₃.heap.objs.size, env.globals, cellsFrom (s₃.heap.objs.size + 1) sc.names cl, env.qual, none, env.code, env.frame, env.builtins⟩ : Env) = cenv
  obtain ⟨er4, ns4, k4, hnm, hloc, hown⟩ := cenv_er (W' := fun b => (W b ∨ b = I ∨ b = D) ∨ (s₃.heap.get? b = none ∧ ∃ o, s₄.heap.get? b = some o)) er3 hΓ ok hcl1 hcl2 hs4.symm hce.symm (fun a h => h)
  have hMD : ∀ b o, s₁.heap.get? b = some o → ¬ (b = D ∨ (s₃.heap.get? b = none ∧ ∃ o, s₄.heap.get? b = some o)) := by
    rintro b o e (rfl | ⟨h, _⟩)
    · first | exact clash hD1 e | (rw [hD1] at e; cases e)
    · rw [Keeps.k k13 _ _ e] at h; cases h
  have ne3 : ∀ b, s₃.heap.get? b = none → b ≠ I ∧ b ≠ D := by
    refine fun b hb => ⟨?_, ?_⟩
    · rintro rfl; obtain ⟨o, ho⟩ := hIo3; first | exact clash hb ho | (rw [hb] at ho; cases ho)
    · rintro rfl; first | exact clash hD3 hb | (rw [hD3] at hb; cases hb)
  have hL3 : s₃.heap.get? cenv.locals = none := by rw [hloc]; exact fresh_none _
  have hcell : ∀ x c, cenv.cells.lookup x = some c → c ≠ I ∧ c ≠ D := by
    intro x c hc
    obtain ⟨cv, hi'⟩ := er4.cel x c hc
    refine ⟨?_, ?_⟩
    · rintro rfl
      by_cases hm : (x, NameKind.cell) ∈ sc.names
      · obtain ⟨c', h1, h2⟩ := cellsFrom_new x (s₃.heap.objs.size + 1) sc.names (s₃.heap.objs.size + 1) cl (Nat.le_refl _) (.inr hm)
        have hcc : cenv.cells = cellsFrom (s₃.heap.objs.size + 1) sc.names cl := by rw [← hce]
        rw [hcc, h1] at hc; cases hc
        obtain ⟨o, ho⟩ := hIo3
        exact absurd (Heap.lt_size ho) (Nat.not_lt.mpr (Nat.le_of_succ_le h2))
      · have hcc : cenv.cells = cellsFrom (s₃.heap.objs.size + 1) sc.names cl := by rw [← hce]
        rw [hcc, cellsFrom_old x _ _ _ hm] at hc
        by_cases hf : (x, NameKind.free) ∈ sc.names
        · rw [hcl1 x hf] at hc
          obtain ⟨cv1, hcv1⟩ := er1.cel x c hc
          obtain ⟨o, ho, _⟩ := hcv1
          first | exact clash hI ho | (rw [hI] at ho; cases ho)
        · rw [hcl2 x hf] at hc; cases hc
    · rintro rfl
      exact cell_not_list hi' (Keeps.k k4 _ _ hD3)
  have ce : CEnv sc Γ (fun b => (W b ∨ b = I ∨ b = D) ∨ (s₃.heap.get? b = none ∧ ∃ o, s₄.heap.get? b = some o)) (fun b => b = D ∨ (s₃.heap.get? b = none ∧ ∃ o, s₄.heap.get? b = some o)) μ (restr (frees sc.names) ρ) cenv D := by
    refine ⟨hnm, ?_, .inl rfl, ?_, (ne3 _ hL3).2, fun x c hc => (hcell x c hc).2, fun x hx => ?_⟩
    · rintro b (rfl | h)
      · exact .inl (.inr (.inr rfl))
      · exact .inr h
    · intro b hb
      cases e : μ b with
      | none => rfl
      | some xs => obtain ⟨vs, k, h1, _⟩ := er1.sr.ls b xs e; exact absurd hb (hMD b _ h1)
    · obtain ⟨h1, h2, h3, h4⟩ := hown x hx
      exact ⟨h1, .inr ⟨h2, h3⟩, h4⟩
  have hst4 : St 0 s₄.heap := Wk.frame _ _ _ hst fun b _ o e => Keeps.k k4 _ _ (Keeps.k k3 _ _ e)
  have ci4 : CI C (fun b => (W b ∨ b = I ∨ b = D) ∨ (s₃.heap.get? b = none ∧ ∃ o, s₄.heap.get? b = some o)) cenv D (restr (frees sc.names) ρ) μ [] s₄ := ⟨er4, ns4, [], 0, Keeps.k k4 _ _ hD3, Reps.nil⟩
  have hle4 : s₃.toks ≤ s₄.toks := by rw [← hs4]; exact Nat.le_refl _
  refine compStart_any (g := g) rfl ha ?_ fun E' => Wk.self 0 s₄ _ _ hst4 ⟨rfl, rfl⟩
  refine level_sound (W' := fun b => (W b ∨ b = D) ∨ (s₃.heap.get? b = none ∧ ∃ o, s₄.heap.get? b = some o)) (gr := frz s₁.heap W) (heq (.ref I) (.ref D) cenv) hn Wk hP hgo hex (.inl (.inr (.inl rfl))) ce.sub hDI (ne3 _ hL3).1 ?_ (fun x c hc => (hcell x c hc).1) ?_ ?_ ?_ (hrun _ _ cenv D I s₄ ce ?_ (.inl (.inr (.inl rfl)))) (fun acc s' h' tk hk => hYI D I s₄ acc s' h' tk hDI hk) hst4 ci4 (hY0 D I s₄ (Keeps.k k4 _ _ hD3) hDI (let ⟨o, ho⟩ := hIo3; ⟨o, Keeps.k k4 _ _ ho⟩)) (by simpa using hsz) ?_
  · intro b hb hm
    rcases hfp b hb with rfl | ⟨⟨o, ho⟩, _⟩
    · rcases hm with e | ⟨h, _⟩
      · exact hDI e.symm
      · exact (ne3 _ h).1 rfl
    · exact hMD b o ho hm
  · cases hm : μ I with
    | none => rfl
    | some xs => obtain ⟨vs, n, h1, _⟩ := er1.sr.ls I xs hm; first | exact clash hI h1 | (rw [hI] at h1; cases h1)
  · rintro a o ⟨e, hw⟩
    refine ⟨Keeps.k k4 _ _ (Keeps.k k13 _ _ e), ?_⟩
    rintro ((h | rfl | rfl) | ⟨h, _⟩)
    · exact hw h
    · first | exact clash hI e | (rw [hI] at e; cases e)
    · first | exact clash hD1 e | (rw [hD1] at e; cases e)
    · rw [Keeps.k k13 _ _ e] at h; cases h
  · rintro a ((h | rfl) | h)
    · refine ⟨.inl (.inl h), ?_⟩
      rintro rfl
      obtain ⟨o, ho⟩ := er1.sr.wl a h; first | exact clash hI ho | (rw [hI] at ho; cases ho)
    · exact ⟨.inl (.inr (.inr rfl)), hDI⟩
    · exact ⟨.inr h, (ne3 _ h.1).1⟩
  · rintro b (rfl | ⟨_, o, ho⟩)
    · exact ⟨_, Keeps.k k4 _ _ hD3⟩
    · exact ⟨o, ho⟩
  · intro s' ci' y' kb'
    obtain ⟨er', ⟨m', ns'⟩, vs, k, hd', hrp⟩ := ci'
    have hne : ∀ b o, s.heap.get? b = some o → ¬ ((b = D ∨ (s₃.heap.get? b = none ∧ ∃ o, s₄.heap.get? b = some o)) ∨ b = I) := by
      rintro b o e (h | rfl)
      · exact hMD b o (Keeps.k k1 _ _ e) h
      · have := Keeps.k k1 _ _ e; first | exact clash hI this | (rw [hI] at this; cases this)
    have K : Keeps s s' := by
      have ks4 : Keeps s s₄ := Keeps.tr k1 (Keeps.tr k13 k4)
      obtain ⟨h4, t4, e4, kk4⟩ := ks4
      obtain ⟨⟨h5, t5, e5⟩, kk5, _⟩ := kb'
      subst e4
      refine ⟨h5, t5, e5, fun b o e => ?_⟩
      have := kk5 b o (hne b o e) (kk4 b o e)
      rw [e5] at this; exact this
    have fr : ∀ b, s₁.heap.get? b = none → s.heap.get? b = none := fun b hb => by
      cases e : s.heap.get? b with
      | none => rfl
      | some o => rw [Keeps.k k1 _ _ e] at hb; cases hb
    have fr3 : ∀ b, s₃.heap.get? b = none → s₁.heap.get? b = none := fun b hb => by
      cases e : s₁.heap.get? b with
      | none => rfl
      | some o => rw [Keeps.k k13 _ _ e] at hb; cases hb
    have hlc : cenv.locals = s₃.heap.objs.size := hloc
    have hL4 : ∃ o, s₄.heap.get? cenv.locals = some o := by obtain ⟨m, o, _, _, ho, _⟩ := ns4; exact ⟨o, ho⟩
    have R := hfin s' cenv.locals D m' vs k K (Nat.le_trans (Nat.le_trans htk1 (Nat.le_trans htk2 (Nat.le_trans htk3 hle4))) kb'.2.2) (fr _ (fr3 _ hL3)) (fr _ hD1) (ne3 _ hL3).2 ns' hd' (by rw [hrp.length]; simpa using hsz) (by
      rw [List.nil_append] at hrp
      refine Reps.mono (fun a o x => ⟨x.1, ?_⟩) _ _ hrp
      rintro (h | rfl | rfl)
      · exact x.2 (.inl (.inl h))
      · exact x.2 (.inr ⟨hL3, hL4⟩)
      · exact x.2 (.inl (.inr rfl))) ⟨I, s₄, Keeps.tr k1 (Keeps.tr k13 k4), hL4, by rw [List.nil_append] at y'; exact y'⟩
    rw [hlc] at R
    exact R
end
end Mine
end

section
open PySem PySem.W PyProof.Rows PySem.SeqAt
namespace Mine

/-- a comprehension seen whole, with what is done with its list -/
noncomputable def CompS (prog : Program) (w : World) (C : Cx) (lv : Nat) (μ : Mu) (Γ : Names) (elt : Expr) (gens : List Comprehension) (sc : Scope) (pos : Pos) (ρ : Rho) (ys : List PV) : Prop :=
  ∀ (A : Around) (E : Value → Shared → Prop) (W : Addr → Prop) (env : Env) (s : Shared) (use : Option (Value → Sem Unit)) (Q : Value → Shared → Prop) (fpos : Pos), Room lv A → env.scope.names = Γ → ER C W env s ρ μ →
    (∀ (s' : Shared) (L D : Addr) (m : Str → Option Value) (vs : List Value) (n : Nat), Keeps s s' → s.toks ≤ s'.toks → s.heap.get? L = none → s.heap.get? D = none → L ≠ D → s'.heap.Ns L m → s'.heap.get? D = some (lObj vs n) → vs.length ≤ SZ →
      Reps (frz s'.heap (fun b => W b ∨ b = L ∨ b = D)) ys vs → compPost (model prog w) A E use Q (.ref D) L (.ok .next) s') →
    wpAny (model prog w) A (comprehension (.ListComp elt gens sc pos) sc env fpos (newList []) (firstAsync gens) (firstIter gens env) use) Q E s

section
variable {prog : Program} {w : World} {A : Around} {E : Value → Shared → Prop} {s : Shared} {W M : Addr → Prop} {μ : Mu} {ρ ρ' : Rho} {env cenv : Env} {C : Cx} {lv : Nat} {T : Str → List PV → Option PV}

theorem CEnv.tgt {sc : Scope} {Γ : Names} {D : Addr} {t : MTgt} (ce : CEnv sc Γ W M μ ρ cenv D) (h : tgtOk sc.names t = true) : TgtOk cenv W M ρ t := by
  have : ∀ x ∈ tgtNames t, ownName sc.names x = true := by
    cases t with
    | one x => intro y hy; rw [List.mem_singleton.mp hy]; exact h
    | many xs => intro y hy; exact List.all_eq_true.mp h y hy
    | bad => intro y hy; cases hy
  exact ⟨fun x hx => (ce.own x (this x hx)).1, fun x hx => (ce.own x (this x hx)).2.1, fun x hx => (ce.own x (this x hx)).2.2⟩

theorem updMany_other {x : Str} : ∀ (xs : List Str) (ps : List PV) (ρ ρ' : Rho), updMany ρ xs ps = some ρ' → x ∉ xs → ρ' x = ρ x
  | [], [], ρ, ρ', h, _ => by cases Option.some.inj h; rfl
  | y :: xs, p :: ps, ρ, ρ', h, hn => by
    rw [updMany_other xs ps (upd ρ y p) ρ' h fun hx => hn (List.mem_cons_of_mem _ hx)]
    unfold upd
    rw [if_neg]
    rintro rfl; exact hn List.mem_cons_self
  | [], _ :: _, ρ, ρ', h, _ => no h
  | _ :: _, [], ρ, ρ', h, _ => no h
theorem bindT_other {t : MTgt} {q : PV} {x : Str} (h : bindT ρ t q = some ρ') (hx : x ∉ tgtNames t) : ρ' x = ρ x := by
  cases t with
  | one y =>
    cases Option.some.inj h
    unfold upd
    rw [if_neg]
    rintro rfl; exact hx List.mem_cons_self
  | many xs =>
    cases q with
    | tup ps => exact updMany_other xs ps ρ ρ' h hx
    | _ => exact no h
  | bad => exact no h

theorem fold_of_tr {Γ : Names} {e : Expr} {p : PV} (h : ev T μ (tr Γ e) ρ = some p) : ∀ (env : Env) x, foldedSetIterable e env x = pure x := by
  intro env x
  cases e with
  | Set _ _ _ => exact no h
  | _ => rfl

/-- what a comprehension makes of an item -/
noncomputable def compF1 (T : Str → List PV → Option PV) (μ : Mu) (elt : MExpr) (t : MTgt) (ifs : List MExpr) (ρ : Rho) : PV → Option (List PV) := fun p => match bindT ρ t p with
  | some ρ' => match evAll T μ ifs ρ' with
    | some true => (ev T μ elt ρ').map fun y => [y]
    | some false => some []
    | none => none
  | none => none
noncomputable def compF2 (T : Str → List PV → Option PV) (μ : Mu) (elt : MExpr) (t : MTgt) (ifs : List MExpr) (t2 : MTgt) (it2 : MExpr) (ifs2 : List MExpr) (ρ : Rho) : PV → Option (List PV) := fun p => match bindT ρ t p with
  | some ρ' => match evAll T μ ifs ρ' with
    | some true => match ev T μ it2 ρ' with
      | some x2 => match iter μ x2 with
        | some items2 => compRun (compF1 T μ elt t2 ifs2 ρ') items2
        | none => none
      | none => none
    | some false => some []
    | none => none
  | none => none
theorem compF1_inv {elt : MExpr} {t : MTgt} {ifs : List MExpr} {q : PV} {a : List PV} (h : compF1 T μ elt t ifs ρ q = some a) : ∃ ρ' b, bindT ρ t q = some ρ' ∧ evAll T μ ifs ρ' = some b ∧ (if b then (ev T μ elt ρ').map fun y => [y] else some []) = some a := by
  obtain ⟨ρ', h1, h⟩ := oR_inv (o := bindT ρ t q) (f := fun ρ' => match evAll T μ ifs ρ' with
    | some true => (ev T μ elt ρ').map fun y => [y]
    | some false => some []
    | none => none) h
  obtain ⟨b, h2, h⟩ := ob_inv h
  exact ⟨ρ', b, h1, h2, h⟩

theorem comp1_sound {elt t it : Expr} {ifs : List Expr} {sc : Scope} {pos : Pos} {Γ : Names} {p : PV} (hok : compOk sc Γ = true) (ht : tgtOk sc.names (trTgt t) = true)
    (ihIt : ∀ ρ p, ev T μ (tr Γ it) ρ = some p → SE prog w C lv μ Γ it ρ p)
    (ihElt : ∀ ρ p, ev T μ (tr (relab sc.names Γ) elt) ρ = some p → SE prog w C lv μ (relab sc.names Γ) elt ρ p)
    (ihIfs : ∀ ρ b, evAll T μ (trs (relab sc.names Γ) ifs) ρ = some b → STs prog w C lv μ (relab sc.names Γ) ifs ρ b)
    (h : ev T μ (.comp1 (tr (relab sc.names Γ) elt) (trTgt t) (tr Γ it) (trs (relab sc.names Γ) ifs) (frees sc.names)) ρ = some p) :
    ∃ ys, p = .lst ys ∧ ys.length ≤ SZ ∧ CompS prog w C lv μ Γ elt [⟨t, it, ifs, 0⟩] sc pos ρ ys := by
  obtain ⟨x0, h1, h⟩ := oP_inv (r := p) (o := ev T μ (tr Γ it) ρ) (f := fun x => match iter μ x with
      | some items => match compRun (compF1 T μ (tr (relab sc.names Γ) elt) (trTgt t) (trs (relab sc.names Γ) ifs) (restr (frees sc.names) ρ)) items with
        | some ys => if ys.length ≤ SZ ∧ items.length ≤ SZ then some (PV.lst ys) else none
        | none => none
      | none => none) h
  obtain ⟨items, h2, h⟩ := oL_inv (r := p) (o := iter μ x0) (f := fun items => match compRun (compF1 T μ (tr (relab sc.names Γ) elt) (trTgt t) (trs (relab sc.names Γ) ifs) (restr (frees sc.names) ρ)) items with
        | some ys => if ys.length ≤ SZ ∧ items.length ≤ SZ then some (PV.lst ys) else none
        | none => none) h
  obtain ⟨ys, h3, h⟩ := oL_inv (r := p) (o := compRun _ items) (f := fun ys : List PV => if ys.length ≤ SZ ∧ items.length ≤ SZ then some (PV.lst ys) else none) h
  obtain ⟨h4, rfl⟩ := opt_if h
  refine ⟨ys, rfl, h4.1, ?_⟩
  intro A E W env s use Q fpos hr hΓ er hfin
  refine comp_core (g := ⟨t, it, ifs, 0⟩) (gs := []) (Y := fun _ _ _ => noY) (STEP := fun I D env => emitTree elt D env (.compLoop (.ListComp elt [⟨t, it, ifs, 0⟩] sc pos) 0 I D env)) hr hΓ (compOk_ok hok) rfl (fold_of_tr h1 env) (fun I D env => turn_one elt t it ifs sc pos I D env) (ihIt ρ x0 h1) h2 h4.1 (fun _ _ _ _ _ _ => trivial) (fun _ _ _ _ _ _ _ _ _ h => h) ?_ er (fun s' L D m vs n a1 a2 a3 a4 a5 a6 a7 a8 a9 _ => hfin s' L D m vs n a1 a2 a3 a4 a5 a6 a7 a8 a9)
  intro W4 M cenv D I _ ce _ _
  refine compRun_run (fun q a hq => ?_) h3
  obtain ⟨ρ', b, hb, ha, hq⟩ := compF1_inv hq
  refine turn_emit (b := b) hr ce.names hb (ce.tgt ht) ce.sub ce.d ce.locD ce.celD (ce.nomu _ ce.d) (ihIfs ρ' b ha) (fun hbt => ?_) (fun hbf => ?_)
  · subst hbt
    obtain ⟨y, hy, rfl⟩ := map_inv hq
    exact ⟨y, ihElt ρ' y hy, rfl⟩
  · subst hbf
    exact (Option.some.inj hq).symm

theorem comp2_sound {elt t it t2 it2 : Expr} {ifs ifs2 : List Expr} {sc : Scope} {pos : Pos} {Γ : Names} {p : PV} (hok : compOk sc Γ = true) (ht : tgtOk sc.names (trTgt t) = true) (ht2 : tgtOk sc.names (trTgt t2) = true) (hap : apartT (trTgt t) (trTgt t2) = true)
    (ihIt : ∀ ρ p, ev T μ (tr Γ it) ρ = some p → SE prog w C lv μ Γ it ρ p)
    (ihElt : ∀ ρ p, ev T μ (tr (relab sc.names Γ) elt) ρ = some p → SE prog w C lv μ (relab sc.names Γ) elt ρ p)
    (ihIfs : ∀ ρ b, evAll T μ (trs (relab sc.names Γ) ifs) ρ = some b → STs prog w C lv μ (relab sc.names Γ) ifs ρ b)
    (ihIt2 : ∀ ρ p, ev T μ (tr (relab sc.names Γ) it2) ρ = some p → SE prog w C lv μ (relab sc.names Γ) it2 ρ p)
    (ihIfs2 : ∀ ρ b, evAll T μ (trs (relab sc.names Γ) ifs2) ρ = some b → STs prog w C lv μ (relab sc.names Γ) ifs2 ρ b)
    (h : ev T μ (.comp2 (tr (relab sc.names Γ) elt) (trTgt t) (tr Γ it) (trs (relab sc.names Γ) ifs) (trTgt t2) (tr (relab sc.names Γ) it2) (trs (relab sc.names Γ) ifs2) (frees sc.names)) ρ = some p) :
    ∃ ys, p = .lst ys ∧ ys.length ≤ SZ ∧ CompS prog w C lv μ Γ elt [⟨t, it, ifs, 0⟩, ⟨t2, it2, ifs2, 0⟩] sc pos ρ ys := by
  obtain ⟨x0, h1, h⟩ := oP_inv (r := p) (o := ev T μ (tr Γ it) ρ) (f := fun x => match iter μ x with
      | some items => match compRun (compF2 T μ (tr (relab sc.names Γ) elt) (trTgt t) (trs (relab sc.names Γ) ifs) (trTgt t2) (tr (relab sc.names Γ) it2) (trs (relab sc.names Γ) ifs2) (restr (frees sc.names) ρ)) items with
        | some ys => if ys.length ≤ SZ ∧ items.length ≤ SZ then some (PV.lst ys) else none
        | none => none
      | none => none) h
  obtain ⟨items, h2, h⟩ := oL_inv (r := p) (o := iter μ x0) (f := fun items => match compRun (compF2 T μ (tr (relab sc.names Γ) elt) (trTgt t) (trs (relab sc.names Γ) ifs) (trTgt t2) (tr (relab sc.names Γ) it2) (trs (relab sc.names Γ) ifs2) (restr (frees sc.names) ρ)) items with
        | some ys => if ys.length ≤ SZ ∧ items.length ≤ SZ then some (PV.lst ys) else none
        | none => none) h
  obtain ⟨ys, h3, h⟩ := oL_inv (r := p) (o := compRun _ items) (f := fun ys : List PV => if ys.length ≤ SZ ∧ items.length ≤ SZ then some (PV.lst ys) else none) h
  obtain ⟨h4, rfl⟩ := opt_if h
  refine ⟨ys, rfl, h4.1, ?_⟩
  intro A E W env s use Q fpos hr hΓ er hfin
  refine comp_core (g := ⟨t, it, ifs, 0⟩) (gs := [⟨t2, it2, ifs2, 0⟩]) (Y := fun _ _ _ => noY) (STEP := fun I D env => innerTree (.ListComp elt [⟨t, it, ifs, 0⟩, ⟨t2, it2, ifs2, 0⟩] sc pos) it2 D env (.compLoop (.ListComp elt [⟨t, it, ifs, 0⟩, ⟨t2, it2, ifs2, 0⟩] sc pos) 0 I D env)) hr hΓ (compOk_ok hok) rfl (fold_of_tr h1 env) (fun I D env => turn_two0 elt t it t2 it2 ifs ifs2 sc pos I D env) (ihIt ρ x0 h1) h2 h4.1 (fun _ _ _ _ _ _ => trivial) (fun _ _ _ _ _ _ _ _ _ h => h) ?_ er (fun s' L D m vs n a1 a2 a3 a4 a5 a6 a7 a8 a9 _ => hfin s' L D m vs n a1 a2 a3 a4 a5 a6 a7 a8 a9)
  intro W4 M cenv D I _ ce _ _
  refine compRun_run (fun q a hq => ?_) h3
  obtain ⟨ρ', hb, hq⟩ := oR_inv (o := bindT (restr (frees sc.names) ρ) (trTgt t) q) (r := a) (f := fun ρ' => match evAll T μ (trs (relab sc.names Γ) ifs) ρ' with
    | some true => match ev T μ (tr (relab sc.names Γ) it2) ρ' with
      | some x2 => match iter μ x2 with
        | some items2 => compRun (compF1 T μ (tr (relab sc.names Γ) elt) (trTgt t2) (trs (relab sc.names Γ) ifs2) ρ') items2
        | none => none
      | none => none
    | some false => some []
    | none => none) hq
  obtain ⟨b, ha, hq⟩ := ob_inv hq
  cases b with
  | false =>
    cases Option.some.inj hq
    exact turn_inner (b := false) (p2 := .none) (items2 := []) hr ce.names hb (ce.tgt ht) ce.sub ce.d ce.nomu (ihIfs ρ' false ha) (fun _ => rfl) (fun hh => by cases hh) ce.locD ce.celD
  | true =>
    obtain ⟨x2, h5, hq⟩ := oP_inv (r := a) (o := ev T μ (tr (relab sc.names Γ) it2) ρ') (f := fun x2 => match iter μ x2 with
        | some items2 => compRun (compF1 T μ (tr (relab sc.names Γ) elt) (trTgt t2) (trs (relab sc.names Γ) ifs2) ρ') items2
        | none => none) hq
    obtain ⟨items2, h6, hq⟩ := oL_inv (r := a) (o := iter μ x2) (f := fun items2 => compRun (compF1 T μ (tr (relab sc.names Γ) elt) (trTgt t2) (trs (relab sc.names Γ) ifs2) ρ') items2) hq
    refine turn_inner (b := true) (p2 := x2) (items2 := items2) hr ce.names hb (ce.tgt ht) ce.sub ce.d ce.nomu (ihIfs ρ' true ha) (fun hh => by cases hh) (fun _ => ⟨ihIt2 ρ' x2 h5, h6, fold_of_tr h5, ?_⟩) ce.locD ce.celD
    intro W2 c2 hM2 hDL hDc
    refine compRun_run (fun q2 a2 hq2 => ?_) hq
    have ht2' := ce.tgt ht2
    have tg2 : TgtOk cenv W2 M ρ' (trTgt t2) := ⟨ht2'.kind, ht2'.w, fun x hx => by
      rw [bindT_other hb, ht2'.none x hx]
      have := List.all_eq_true.mp hap x hx
      simpa using this⟩
    obtain ⟨ρ'', b2, hb2, ha2, hq2⟩ := compF1_inv hq2
    refine turn_emit (b := b2) hr ce.names hb2 tg2 hM2 ce.d ce.locD ce.celD (ce.nomu _ ce.d) (ihIfs2 ρ'' b2 ha2) (fun hbt => ?_) (fun hbf => ?_)
    · subst hbt
      obtain ⟨y, hy, rfl⟩ := map_inv hq2
      exact ⟨y, ihElt ρ'' y hy, rfl⟩
    · subst hbf
      exact (Option.some.inj hq2).symm

/-- a comprehension's list, told alone -/
theorem CompS.eval {elt : Expr} {gens : List Comprehension} {sc : Scope} {pos : Pos} {Γ : Names} {ys : List PV} (h : CompS prog w C lv μ Γ elt gens sc pos ρ ys) (hr : Room lv A) (hΓ : env.scope.names = Γ) (er : ER C W env s ρ μ) :
    wpAny (model prog w) A (eval (.ListComp elt gens sc pos) env) (PostL W s ys) E s := by
  rw [eval_ListComp]
  refine h A E W env s none _ _ hr hΓ er fun s' L D m vs n K _ hL hD hLD hns hd hl hrp => ?_
  refine ⟨m, hns, fun h' hs' => ?_⟩
  have hkL : ∀ b o, s.heap.get? b = some o → h'.get? b = some o := fun b o e => hs'.extBut b o (by rintro rfl; first | exact clash hL e | (rw [hL] at e; cases e)) (Keeps.k K b o e)
  refine ⟨?_, D, vs, n, rfl, hD, hs'.extBut _ _ (Ne.symm hLD) hd, hl, Reps.mono (fun a o x => ⟨hs'.extBut a o (fun e => x.2 (.inr (.inl e))) x.1, fun hw => x.2 (hw.elim .inl fun e => .inr (.inr e))⟩) _ _ hrp⟩
  obtain ⟨h1, t1, rfl, k1⟩ := K
  exact ⟨h', t1, rfl, hkL⟩
end
end Mine
end

section
open PySem PySem.W PyProof.Rows PySem.SeqAt
namespace Mine

/-- a call of the module's function f with such arguments gives r -/
noncomputable def CallOk (prog : Program) (w : World) (C : Cx) (lv : Nat) (f : Str) (args : List PV) (r : PV) : Prop :=
  ∃ a o fd, C.mg f = some (.ref a) ∧ C.h0.get? a = some o ∧ o.data = .func fd ∧
  ∀ (A : Around) (E : Value → Shared → Prop) (W : Addr → Prop) (s : Shared) (vs : List Value), Room lv A → (∀ b o, C.h0.get? b = some o → s.heap.get? b = some o) → C.tk0 ≤ s.toks → (∀ a, W a → ∃ o, s.heap.get? a = some o) → (∀ a, W a → C.h0.get? a = none) →
    Reps (frz s.heap W) args vs → wpAny (model prog w) A (call (.ref a) vs) (Post W s r) E s

/-- what a built-in function gives, called by its name -/
noncomputable def BiOk (prog : Program) (w : World) (C : Cx) (lv : Nat) (f : Str) (args : List PV) (r : PV) : Prop :=
  ∃ id, C.mg f = none ∧ C.mb f = some (.builtin id) ∧
  ∀ (A : Around) (E : Value → Shared → Prop) (W : Addr → Prop) (s : Shared) (vs : List Value), Room lv A → (∀ b o, C.h0.get? b = some o → s.heap.get? b = some o) → (∀ a, W a → ∃ o, s.heap.get? a = some o) →
    Reps (frz s.heap W) args vs → wpAny (model prog w) A (call (.builtin id) vs) (Post W s r) E s
/-- what str.replace with two written texts gives -/
noncomputable def ReplOk (C : Cx) (args : List PV) (r : PV) : Prop :=
  0 < C.tk0 ∧ ∃ x y z, args = [.str x, .str y, .str z] ∧ y ≠ [] ∧ y ≠ z ∧ x.length + (x.length + 1) * z.length ≤ SZ ∧ r = .str (repl y z (x.length + 1) x)

inductive FnOk (prog : Program) (w : World) (C : Cx) (lv : Nat) (f : Str) (args : List PV) (r : PV) : Prop
  | user (h : CallOk prog w C lv f args r)
  | bi (h : BiOk prog w C lv f args r)
  | repl (e : f = "str.replace") (h : ReplOk C args r)

noncomputable def TOk (prog : Program) (w : World) (C : Cx) (lv : Nat) (T : Str → List PV → Option PV) : Prop := ∀ f args r, T f args = some r → args ≠ [] ∧ FnOk prog w C lv f args r

section
variable {prog : Program} {w : World} {A : Around} {E : Value → Shared → Prop} {s s₁ : Shared} {W : Addr → Prop} {μ : Mu} {ρ : Rho} {env : Env} {C : Cx} {lv : Nat} {T : Str → List PV → Option PV} {Γ : Names}

theorem Post.tr {p : PV} {v : Value} {s' : Shared} (k : Keeps s s₁) (h : Post W s₁ p v s') : Post W s p v s' := ⟨Keeps.tr k h.1, h.2⟩

theorem SE.step {e : Expr} {p : PV} {Q : Value → Shared → Prop} (h : SE prog w C lv μ Γ e ρ p) (hr : Room lv A) (hΓ : env.scope.names = Γ) (er : ER C W env s ρ μ)
    (k : ∀ v s₁, Keeps s s₁ → ER C W env s₁ ρ μ → Rep (frz s₁.heap W) p v → Q v s₁) : wpAny (model prog w) A (eval e env) Q E s :=
  wpAny_with_toks (n := s.toks) (Nat.le_refl _) (wpAny_mono (h A _ W env s hr hΓ er) (fun v s₁ h₁ ht => k v s₁ h₁.1 (er.keeps h₁.1 ht) h₁.2) fun _ _ e => e)
theorem ST.step {e : Expr} {b : Bool} {Q : Bool → Shared → Prop} (h : ST prog w C lv μ Γ e ρ b) (hr : Room lv A) (hΓ : env.scope.names = Γ) (er : ER C W env s ρ μ)
    (k : ∀ s₁, Keeps s s₁ → ER C W env s₁ ρ μ → Q b s₁) : wpAny (model prog w) A (isTrue e env (eval e env)) Q E s :=
  wpAny_with_toks (n := s.toks) (Nat.le_refl _) (wpAny_mono (h A _ W env s hr hΓ er) (fun v s₁ h₁ ht => by obtain ⟨rfl, k1⟩ := h₁; exact k s₁ k1 (er.keeps k1 ht)) fun _ _ e => e)

/-- a row of expressions, each told -/
noncomputable def SEs (prog : Program) (w : World) (C : Cx) (lv : Nat) (μ : Mu) (Γ : Names) (es : List Expr) (ρ : Rho) (ps : List PV) : Prop :=
  ∀ (A : Around) (E : Value → Shared → Prop) (W : Addr → Prop) (env : Env) (s : Shared) (pos : Pos), Room lv A → env.scope.names = Γ → ER C W env s ρ μ →
    wpAny (model prog w) A (spliced (backTo pos (starEach es env))) (fun vs s' => Keeps s s' ∧ Reps (frz s'.heap W) ps vs) E s
theorem SEs.step {es : List Expr} {ps : List PV} {pos : Pos} {Q : List Value → Shared → Prop} (h : SEs prog w C lv μ Γ es ρ ps) (hr : Room lv A) (hΓ : env.scope.names = Γ) (er : ER C W env s ρ μ)
    (k : ∀ vs s₁, Keeps s s₁ → ER C W env s₁ ρ μ → Reps (frz s₁.heap W) ps vs → Q vs s₁) : wpAny (model prog w) A (spliced (backTo pos (starEach es env))) Q E s :=
  wpAny_with_toks (n := s.toks) (Nat.le_refl _) (wpAny_mono (h A _ W env s pos hr hΓ er) (fun v s₁ h₁ ht => k v s₁ h₁.1 (er.keeps h₁.1 ht) h₁.2) fun _ _ e => e)

theorem tr_star {e : Expr} {p : PV} (h : ev T μ (tr Γ e) ρ = some p) (rest : List Expr) (env : Env) : starEach (e :: rest) env = (false, eval e env) :: starEach rest env := by
  cases e with
  | Starred _ _ => exact no h
  | _ => rfl

theorem evs_cons {e : MExpr} {es : List MExpr} {ps : List PV} (h : evs T μ (e :: es) ρ = some ps) : ∃ p qs, ev T μ e ρ = some p ∧ evs T μ es ρ = some qs ∧ ps = p :: qs := by
  obtain ⟨p, qs, h1, h2, h3⟩ := oPL_inv (a := ev T μ e ρ) (b := evs T μ es ρ) (f := fun x xs => some (x :: xs)) h
  exact ⟨p, qs, h1, h2, (Option.some.inj h3).symm⟩

theorem evs_plain : ∀ {es : List Expr} {ps : List PV}, evs T μ (trs Γ es) ρ = some ps → ∀ (env : Env) (pos : Pos), backTo pos (starEach es env) = starEach es env ∧ (starEach es env).any (·.1) = false ∧ (starEach es env).all (fun x => !x.1) = true
  | [], ps, _, env, pos => ⟨rfl, rfl, rfl⟩
  | e :: es, ps, h, env, pos => by
    obtain ⟨p, qs, h1, h2, rfl⟩ := evs_cons (e := tr Γ e) (es := trs Γ es) h
    obtain ⟨i1, i2, i3⟩ := evs_plain h2 env pos
    rw [tr_star h1 es env]
    refine ⟨?_, by simpa using i2, by simpa using i3⟩
    show (false, _) :: backTo pos (starEach es env) = _
    rw [i1]; rfl

theorem truth_cases {x : PV} {b : Bool} {v : Value} {g : Gr} (h : truth x = some b) (r : Rep g x v) : (v = .none ∧ b = false) ∨ v = .bool b := by
  cases x with
  | none => cases Option.some.inj h; exact .inl ⟨rep_none.mp r, rfl⟩
  | bool c => cases Option.some.inj h; exact .inr (rep_bool.mp r)
  | _ => exact no h
theorem truthy_sound {x : PV} {b : Bool} {v : Value} {g : Gr} {Q : Bool → Shared → Prop} (h : truth x = some b) (r : Rep g x v) (hq : Q b s) : wpAny (model prog w) A (truthy v) Q E s := by
  rcases truth_cases h r with ⟨rfl, rfl⟩ | rfl
  · exact truthy_none hq
  · exact wpAny_truthy_bool hq

/-- the plain arm of a test -/
theorem st_value {e : Expr} {x : PV} {b : Bool} (h : SE prog w C lv μ Γ e ρ x) (ht : truth x = some b) (he : ∀ env whole, isTrue e env whole = (do let v ← whole; standAt e.pos; holding [v] (truthy v))) : ST prog w C lv μ Γ e ρ b := by
  intro A E W env s hr hΓ er
  exact wpAny_isTrue_value (h.step hr hΓ er fun v s₁ k1 er1 rv => truthy_sound ht rv ⟨rfl, k1⟩) (he _ _)

theorem base_g (hC : CxOk C) (er : ER C W env s ρ μ) : s.heap.Ns env.globals C.mg := by rw [er.gl]; exact hC.g.keeps er.base
theorem base_b (hC : CxOk C) (er : ER C W env s ρ μ) : s.heap.Ns env.builtins C.mb := by rw [er.bl]; exact hC.b.keeps er.base

theorem flat_rep {r : PV} {v : Value} {g g' : Gr} (h : flat r = true) (x : Rep g r v) : Rep g' r v := by
  cases r with
  | none => exact rep_none.mpr (rep_none.mp x)
  | bool b => exact rep_bool.mpr (rep_bool.mp x)
  | int i => exact rep_int.mpr (rep_int.mp x)
  | str i => exact rep_str.mpr (rep_str.mp x)
  | _ => cases h

theorem rs_rep {p : PV} {v : Value} (S : SR W s.heap μ) (r : Rep (frz s.heap W) p v) : Rep (frz s.heap (fun a => W a ∧ μ a = none)) (rs μ p) v := by
  have mono : ∀ a o, frz s.heap W a o → frz s.heap (fun a => W a ∧ μ a = none) a o := fun a o x => ⟨x.1, fun h => x.2 h.1⟩
  cases p with
  | own a =>
    rw [rs]
    cases hm : μ a with
    | none => exact r
    | some xs =>
      obtain ⟨vs, n, h1, h2, h3⟩ := S.ls a xs hm
      have := rep_own.mp r; subst this
      exact rep_lst.mpr ⟨a, vs, n, rfl, ⟨h1, fun h => by have := h.2; first | exact clash hm this | (rw [hm] at this; cases this)⟩, h2, Reps.mono mono _ _ h3⟩
  | _ => exact Rep.mono mono _ _ r
theorem rs_reps {S : SR W s.heap μ} : ∀ {ps : List PV} {vs : List Value}, Reps (frz s.heap W) ps vs → Reps (frz s.heap (fun a => W a ∧ μ a = none)) (ps.map (rs μ)) vs
  | [], vs, r => by cases reps_nil.mp r; exact Reps.nil
  | p :: ps, vs, r => by
    have r := reps_cons.mp r
    obtain ⟨v, vs', rfl, h1, h2⟩ := r
    exact Reps.cons (rs_rep S h1) (rs_reps (S := S) h2)

theorem evCall_cases {f : Str} {args : List PV} {r : PV} (h : evCall μ f args = some r) : args ≠ [] ∧ ∃ fv, bootBuiltins f = some fv ∧ ∃ id, fv = .builtin id ∨ fv = .type id := by
  have hne : args ≠ [] := by
    intro e; subst e
    unfold evCall at h
    repeat (split at h; · exact no h)
    exact no h
  refine ⟨hne, ?_⟩
  unfold evCall at h
  by_cases hf : f = "len"
  · subst hf; exact ⟨_, boot_len, _, .inl rfl⟩
  rw [if_neg hf] at h
  by_cases hf : f = "range"
  · subst hf; exact ⟨_, boot_range, _, .inr rfl⟩
  rw [if_neg hf] at h
  by_cases hf : f = "list"
  · subst hf; exact ⟨_, boot_list, _, .inr rfl⟩
  rw [if_neg hf] at h
  by_cases hf : f = "min"
  · subst hf; exact ⟨_, boot_min, _, .inl rfl⟩
  rw [if_neg hf] at h
  by_cases hf : f = "chr"
  · subst hf; exact ⟨_, boot_chr, _, .inl rfl⟩
  rw [if_neg hf] at h
  exact no h
theorem evCall_args {f : Str} {args : List PV} {r : PV} (h : evCall μ f args = some r) : args ≠ [] := (evCall_cases h).1
theorem evCall_fv {f : Str} {args : List PV} {r : PV} (h : evCall μ f args = some r) : ∃ fv, bootBuiltins f = some fv ∧ ∃ id, fv = .builtin id ∨ fv = .type id := (evCall_cases h).2

theorem call_sound {f : Str} {np pos : Pos} {es : List Expr} {ps : List PV} {r : PV} (hC : CxOk C) (hT : TOk prog w C lv T) (hse : SEs prog w C lv μ Γ es ρ ps) (hes : evs T μ (trs Γ es) ρ = some ps)
    (hk : Γ.lookup f = some .globalImplicit) (hd : (f == ("__debug__" : Str)) = false)
    (h : (if f ∈ biNames then evCall μ f ps else if ps.all notOwn then T f ps else match T f (ps.map (rs μ)) with
        | some r => if flat r then some r else none
        | none => none) = some r) : SE prog w C lv μ Γ (.Call (.Name f np) es [] pos) ρ r := by
  intro A E W env s hr hΓ er
  have hkind : env.kindOf f = some .globalImplicit := by show env.scope.names.lookup f = _; rw [hΓ]; exact hk
  obtain ⟨p1, p2, p3⟩ := evs_plain hes env pos
  refine wpAny_Call_ofName (Calls.Name_function_global er.kind hkind ?_ hd)
  cases es with
  | nil =>
    cases Option.some.inj hes
    by_cases hb : f ∈ biNames
    · rw [if_pos hb] at h; exact absurd rfl (evCall_args h)
    · rw [if_neg hb] at h; simp only [List.all_nil, if_true] at h; exact absurd rfl (hT f [] r h).1
  | cons e0 es0 =>
  have he0 : starEach (e0 :: es0) env = (false, eval e0 env) :: starEach es0 env := by
    obtain ⟨p, qs, h1, _⟩ := evs_cons (e := tr Γ e0) (es := trs Γ es0) hes; exact tr_star h1 es0 env
  have args : ∀ {fv : Value} {Q : Args → Shared → Prop}, (∀ vs s₁, Keeps s s₁ → ER C W env s₁ ρ μ → Reps (frz s₁.heap W) ps vs → Q ⟨vs, []⟩ s₁) →
      wpAny (model prog w) A (evalArgs fv true (backTo pos (starEach (e0 :: es0) env)) []) Q E s := by
    intro fv Q hQ
    have hs := hse.step (pos := pos) (E := E) hr hΓ er (Q := fun vs s' => Q ⟨vs, []⟩ s') hQ
    rw [he0] at hs ⊢
    exact Calls.evalArgs_plain hs
  have pl : (backTo pos (starEach (e0 :: es0) env)).any (·.1) = false := by rw [p1]; exact p2
  by_cases hb : f ∈ biNames
  · rw [if_pos hb] at h
    obtain ⟨g1, g2⟩ := hC.bi f hb
    obtain ⟨fv, hfv, hty⟩ := evCall_fv h
    refine Calls.loadGlobal_builtin (base_g hC er) g1 (base_b hC er) (by rw [g2]; exact hfv) ?_
    have fin : ∀ vs s₁, Keeps s s₁ → ER C W env s₁ ρ μ → Reps (frz s₁.heap W) ps vs → wpAny (model prog w) A (call fv vs) (Post W s r) E s₁ := by
      intro vs s₁ k1 er1 rp
      obtain ⟨fv', hfv', _, hw⟩ := evCall_sound (prog := prog) (w := w) (A := A) (E := E) h er1.sr rp hr.hd
      first | exact clash hfv hfv' | (rw [hfv] at hfv'; cases hfv')
      exact wpAny_mono hw (fun v s' hp => hp.tr k1) fun _ _ e => e
    obtain ⟨id, rfl | rfl⟩ := hty
    · exact Calls.callWith_builtin pl (args fun vs s₁ k1 er1 rp => fin vs s₁ k1 er1 rp)
    · exact PySem.callWith_type pl (args fun vs s₁ k1 er1 rp => fin vs s₁ k1 er1 rp)
  · rw [if_neg hb] at h
    have nr : f ≠ "str.replace" := fun e => hb (by rw [e]; decide)
    by_cases hno : ps.all notOwn = true
    · rw [if_pos hno] at h
      cases (hT f ps r h).2 with
      | repl e _ => exact absurd e nr
      | user hu =>
        obtain ⟨a, o, fd, h1, h2, h3, h4⟩ := hu
        refine Calls.loadGlobal_global (base_g hC er) h1 (Calls.callWith_function (args fun vs s₁ k1 er1 rp => ⟨⟨er1.base _ _ h2, h3⟩, ?_⟩))
        exact wpAny_mono (h4 A E W s₁ vs hr er1.base er1.tk er1.sr.wl er1.wb rp) (fun v s' hp => hp.tr k1) fun _ _ e => e
      | bi hu =>
        obtain ⟨id, g1, g2, h4⟩ := hu
        refine Calls.loadGlobal_builtin (base_g hC er) g1 (base_b hC er) g2 (Calls.callWith_builtin pl (args fun vs s₁ k1 er1 rp => ?_))
        exact wpAny_mono (h4 A E W s₁ vs hr er1.base er1.sr.wl rp) (fun v s' hp => hp.tr k1) fun _ _ e => e
    · rw [if_neg hno] at h
      cases hT' : T f (ps.map (rs μ)) with
      | none => rw [hT'] at h; exact no h
      | some r' =>
        rw [hT'] at h
        obtain ⟨hfl, h⟩ := opt_if h
        subst h
        cases (hT f _ r' hT').2 with
        | repl e _ => exact absurd e nr
        | user hu =>
          obtain ⟨a, o, fd, h1, h2, h3, h4⟩ := hu
          refine Calls.loadGlobal_global (base_g hC er) h1 (Calls.callWith_function (args fun vs s₁ k1 er1 rp => ⟨⟨er1.base _ _ h2, h3⟩, ?_⟩))
          refine wpAny_mono (h4 A E (fun a => W a ∧ μ a = none) s₁ vs hr er1.base er1.tk (fun a ha => er1.sr.wl a ha.1) (fun a ha => er1.wb a ha.1) (rs_reps (S := er1.sr) rp)) (fun v s' hp => ?_) fun _ _ e => e
          exact ⟨Keeps.tr k1 hp.1, flat_rep hfl hp.2⟩
        | bi hu =>
          obtain ⟨id, g1, g2, h4⟩ := hu
          refine Calls.loadGlobal_builtin (base_g hC er) g1 (base_b hC er) g2 (Calls.callWith_builtin pl (args fun vs s₁ k1 er1 rp => ?_))
          refine wpAny_mono (h4 A E (fun a => W a ∧ μ a = none) s₁ vs hr er1.base (fun a ha => er1.sr.wl a ha.1) (rs_reps (S := er1.sr) rp)) (fun v s' hp => ?_) fun _ _ e => e
          exact ⟨Keeps.tr k1 hp.1, flat_rep hfl hp.2⟩
end
end Mine
end

section
open PySem PySem.W PyProof.Rows PySem.SeqAt
set_option linter.unusedVariables false
namespace Mine
theorem repl_run {y z : List Nat} : ∀ (m : Nat) (l : List Nat) (n : Nat), m ≤ l.length → (∀ k, k < m → y.isPrefixOf (l.drop k) = false) → l.length < n → repl y z n l = l.take m ++ repl y z (n - m) (l.drop m)
  | 0, l, n, _, _, _ => by simp
  | m + 1, [], n, h, _, _ => by simp at h
  | m + 1, c :: r, 0, _, _, h => by simp at h
  | m + 1, c :: r, n + 1, h1, h2, h3 => by
    have hp : y.isPrefixOf (c :: r) = false := h2 0 (Nat.succ_pos _)
    have ih := repl_run (y := y) (z := z) m r n (Nat.le_of_succ_le_succ h1) (fun k hk => h2 (k + 1) (Nat.succ_lt_succ hk)) (Nat.lt_of_succ_lt_succ h3)
    have e : repl y z (n + 1) (c :: r) = if y.isPrefixOf (c :: r) then z ++ repl y z n ((c :: r).drop y.length) else c :: repl y z n r := rfl
    rw [e, hp, if_neg Bool.false_ne_true, ih, Nat.add_sub_add_right]; rfl
theorem repl_hit {y z l : List Nat} {n : Nat} (hy : y ≠ []) (h : y.isPrefixOf l = true) : repl y z (n + 1) l = z ++ repl y z n (l.drop y.length) := by
  cases l with
  | nil => cases y with
    | nil => exact absurd rfl hy
    | cons _ _ => cases h
  | cons c r =>
    have e : repl y z (n + 1) (c :: r) = if y.isPrefixOf (c :: r) then z ++ repl y z n ((c :: r).drop y.length) else c :: repl y z n r := rfl
    rw [e, if_pos h]
theorem repl_fuel {y z : List Nat} (hy : 0 < y.length) : ∀ (n m : Nat) (l : List Nat), l.length < n → l.length < m → repl y z n l = repl y z m l
  | 0, m, l, h, _ => absurd h (Nat.not_lt_zero _)
  | n + 1, 0, l, _, h => absurd h (Nat.not_lt_zero _)
  | n + 1, m + 1, [], _, _ => rfl
  | n + 1, m + 1, c :: r, h1, h2 => by
    have e : ∀ n, repl y z (n + 1) (c :: r) = if y.isPrefixOf (c :: r) then z ++ repl y z n ((c :: r).drop y.length) else c :: repl y z n r := fun _ => rfl
    rw [e, e, repl_fuel hy n m r (Nat.lt_of_succ_lt_succ h1) (Nat.lt_of_succ_lt_succ h2)]
    rw [repl_fuel hy n m ((c :: r).drop y.length) (by simp at h1 ⊢; lia) (by simp at h2 ⊢; lia)]
theorem at_iff {x y : List Nat} {k : Nat} : StrLaws.At ⟨x.toArray⟩ ⟨y.toArray⟩ x.length k ↔ (k + y.length ≤ x.length ∧ y.isPrefixOf (x.drop k) = true) := by
  unfold StrLaws.At Builtin.Str.subAt
  rw [Str.len_mk, List.isPrefixOf_iff_prefix, beq_iff_eq]
  refine and_congr_right fun h => ?_
  rw [List.prefix_iff_eq_take, eq_comm]
  constructor
  · intro e
    have := congrArg Array.toList e
    simpa using this
  · intro e
    apply Array.toList_inj.mp
    simpa using e
theorem repl_chain {x y z : List Nat} (hy : 0 < y.length) : ∀ (cuts : List Nat) (a f : Nat), StrLaws.ChainG ⟨x.toArray⟩ ⟨y.toArray⟩ x.length a cuts f → (∀ k, f ≤ k → ¬ StrLaws.At ⟨x.toArray⟩ ⟨y.toArray⟩ x.length k) → a ≤ x.length →
    repl y z (x.length + 1) (x.drop a) = (Str.join ⟨z.toArray⟩ (StrLaws.partsFrom ⟨x.toArray⟩ y.length a cuts)).cps.toList
  | [], a, f, h, hn, ha => by
    have e : f = a := h
    subst e
    have no' : ∀ k, k < (x.drop f).length → y.isPrefixOf ((x.drop f).drop k) = false := by
      intro k hk
      rw [List.drop_drop]
      cases hp : y.isPrefixOf (x.drop (f + k)) with
      | false => rfl
      | true =>
        exfalso
        have hl := (List.isPrefixOf_iff_prefix.mp hp).length_le
        rw [List.length_drop] at hl hk
        exact hn (f + k) (Nat.le_add_right _ _) (at_iff.mpr ⟨by lia, hp⟩)
    rw [repl_run (x.drop f).length (x.drop f) _ (Nat.le_refl _) no' (by simp; lia)]
    show _ = (Builtin.Str.strSub ⟨x.toArray⟩ f (Str.length ⟨x.toArray⟩)).cps.toList
    rw [StrLaws.strSub_toList, Str.len_mk, List.drop_length, List.take_length]
    have : repl y z (x.length + 1 - (x.drop f).length) [] = [] := by cases (x.length + 1 - (x.drop f).length) <;> rfl
    rw [this, List.append_nil]
    show x.drop f = (x.drop f).take (x.length - f)
    rw [List.take_of_length_le (by simp)]
  | c :: r, a, f, h, hn, ha => by
    obtain ⟨h1, h2, h3, h4⟩ := h
    obtain ⟨g1, g2⟩ := at_iff.mp h2
    rw [Str.len_mk] at h4
    have ih := repl_chain (z := z) hy r (c + y.length) f h4 hn g1
    have no' : ∀ k, k < c - a → y.isPrefixOf ((x.drop a).drop k) = false := by
      intro k hk
      rw [List.drop_drop]
      cases hp : y.isPrefixOf (x.drop (a + k)) with
      | false => rfl
      | true =>
        exfalso
        have hl := (List.isPrefixOf_iff_prefix.mp hp).length_le
        rw [List.length_drop] at hl
        exact h3 (a + k) (Nat.le_add_right _ _) (by lia) (at_iff.mpr ⟨by lia, hp⟩)
    rw [repl_run (c - a) (x.drop a) _ (by simp; lia) no' (by simp; lia), List.drop_drop, show a + (c - a) = c by lia]
    rw [show x.length + 1 - (c - a) = (x.length - (c - a)) + 1 by lia, repl_hit (List.ne_nil_of_length_pos hy) g2, List.drop_drop]
    rw [repl_fuel hy (x.length - (c - a)) (x.length + 1) (x.drop (c + y.length)) (by simp; lia) (by simp; lia), ih]
    have hj : ∀ (p : Str) (l : List Str), l ≠ [] → Str.join ⟨z.toArray⟩ (p :: l) = p ++ ⟨z.toArray⟩ ++ Str.join ⟨z.toArray⟩ l := by
      intro p l hl
      cases l with
      | nil => exact absurd rfl hl
      | cons q l => rfl
    show _ = (Str.join ⟨z.toArray⟩ (Builtin.Str.strSub ⟨x.toArray⟩ a c :: StrLaws.partsFrom ⟨x.toArray⟩ y.length (c + y.length) r)).cps.toList
    rw [hj _ _ (by cases r <;> exact List.cons_ne_nil _ _)]
    simp only [Str.cps_append, Array.toList_append, StrLaws.strSub_toList, List.append_assoc]
theorem replace_eq {x y z : List Nat} (hy : y ≠ []) : Txt.replace ⟨x.toArray⟩ ⟨y.toArray⟩ ⟨z.toArray⟩ = ⟨(repl y z (x.length + 1) x).toArray⟩ := by
  have hy' : 0 < y.length := List.length_pos_iff.mpr hy
  obtain ⟨f, h1, h2⟩ := StrLaws.occ_tight ⟨x.toArray⟩ ⟨y.toArray⟩ (by rw [Str.len_mk]; exact hy')
  rw [Str.len_mk] at h1 h2
  have h0 := repl_chain (z := z) hy' _ 0 f h1 h2 (Nat.zero_le _)
  have e : (Txt.replace ⟨x.toArray⟩ ⟨y.toArray⟩ ⟨z.toArray⟩).cps.toList = repl y z (x.length + 1) x := by
    rw [List.drop_zero] at h0
    rw [h0]
    unfold Txt.replace
    rw [Str.len_mk, Str.len_mk]
    have hy0 : (y.length == 0) = false := by rw [beq_eq_false_iff_ne]; exact Nat.ne_of_gt hy'
    rw [hy0, Bool.false_and, Bool.or_false]
    generalize Builtin.Str.occurrences ⟨x.toArray⟩ ⟨y.toArray⟩ 0 x.length (x.length + 1) = cuts at h0 ⊢
    have pb : Builtin.Str.partsBetween ⟨x.toArray⟩ cuts y.length = StrLaws.partsFrom ⟨x.toArray⟩ y.length 0 cuts := StrLaws.zip_parts _ _ cuts 0
    cases cuts with
    | nil =>
      rw [if_pos List.isEmpty_nil]
      show x = (Builtin.Str.strSub ⟨x.toArray⟩ 0 (Str.length ⟨x.toArray⟩)).cps.toList
      rw [StrLaws.strSub_toList, Str.len_mk]; simp
    | cons c r => rw [if_neg (by simp), StrLaws.glued_eq_join, pb]
  rw [← e]

theorem constStr_inv {e : Expr} {y : List Nat} (h : constStr e = some y) : ∃ s k p, e = .Constant (.str s) k p ∧ s = ⟨y.toArray⟩ ∧ y.length ≤ SZ := by
  cases e with
  | Constant c k p =>
    cases c with
    | str s =>
      obtain ⟨h1, h2⟩ := opt_if h
      subst h2
      exact ⟨s, k, p, rfl, rfl, h1⟩
    | _ => exact no h
  | _ => exact no h

section
variable {prog : Program} {w : World} {A : Around} {E : Value → Shared → Prop} {s s₁ : Shared} {W : Addr → Prop} {μ : Mu} {ρ : Rho} {env : Env} {C : Cx} {lv : Nat} {T : Str → List PV → Option PV} {Γ : Names}
theorem call_repl {x y z : List Nat} {t : Tok} (hy : y ≠ []) (hyz : y ≠ z) (hsz : x.length + (x.length + 1) * z.length ≤ SZ) (htk : 0 < s.toks) (hlr : (repl y z (x.length + 1) x).length ≤ SZ) :
    wpAny (model prog w) A (call (.builtin "str.replace") [.str ⟨x.toArray⟩ t, .str ⟨y.toArray⟩ s.toks, .str ⟨z.toArray⟩ (s.toks + 1)]) (Post W s (.str (repl y z (x.length + 1) x))) E { s with toks := s.toks + 2 } := by
  refine SC.replace (Nat.ne_of_gt htk) (Nat.succ_ne_zero _) (Nat.ne_of_lt (Nat.lt_succ_self _)) ?_ (by rw [Str.len_mk, Str.len_mk]; exact hsz) fun t' k => ?_
  · rw [str_beq_mk, beq_eq_false_iff_ne]; exact hyz
  · rw [replace_eq hy]
    exact ⟨Keeps.tk k, rep_str.mpr ⟨hlr, t', rfl⟩⟩
theorem repl_len {y z : List Nat} (hy : 0 < y.length) : ∀ (n : Nat) (l : List Nat), (repl y z n l).length ≤ l.length + (l.length + 1) * z.length
  | 0, l => Nat.le_add_right _ _
  | n + 1, [] => Nat.zero_le _
  | n + 1, c :: r => by
    have e : repl y z (n + 1) (c :: r) = if y.isPrefixOf (c :: r) then z ++ repl y z n ((c :: r).drop y.length) else c :: repl y z n r := rfl
    rw [e]
    have h1 := repl_len (z := z) hy n r
    have h2 := repl_len (z := z) hy n ((c :: r).drop y.length)
    have hd : ((c :: r).drop y.length).length ≤ r.length := by simp; lia
    generalize (c :: r).drop y.length = d at h2 hd ⊢
    have hm : (d.length + 1) * z.length ≤ (r.length + 1) * z.length := Nat.mul_le_mul_right _ (by lia)
    by_cases hp : y.isPrefixOf (c :: r) = true
    · rw [if_pos hp, List.length_append, List.length_cons, Nat.add_mul (r.length + 1), Nat.one_mul]; lia
    · rw [if_neg hp, List.length_cons, List.length_cons, Nat.add_mul (r.length + 1), Nat.one_mul]; lia

theorem replm_sound {o a b : Expr} {apos pos : Pos} {x y z : List Nat} {r : PV} (hv : SE prog w C lv μ Γ o ρ (.str x)) (ha : constStr a = some y) (hb : constStr b = some z)
    (ho : ∀ env, attributeBase o "replace" env (eval o env) = eval o env) (hline : (apos.endLine == pos.line) = true) (hk : ReplOk C [.str x, .str y, .str z] r) :
    SE prog w C lv μ Γ (.Call (.Attribute o "replace" apos) [a, b] [] pos) ρ r := by
  intro A E W env s hr hΓ er
  obtain ⟨htk, x', y', z', e, hy, hyz, hsz, rfl⟩ := hk
  cases e
  obtain ⟨sy, ka, pa, rfl, rfl, _⟩ := constStr_inv ha
  obtain ⟨sz, kb, pb, rfl, rfl, _⟩ := constStr_inv hb
  refine wpAny_Call_method_late (ho env) (by rfl) hline rfl (hv.step hr hΓ er fun ov s₁ k1 er1 ro => ?_)
  obtain ⟨q1, t, rfl⟩ := rep_str.mp ro
  refine ⟨"str", "str.replace", F.plainAttrs_str, F.slot_str_replace, F.type_str_replace, typeIs_str _ _ _, fun a ha => (by cases ha), ?_⟩
  refine Calls.callWith_builtin rfl (Calls.evalArgs_plain (Calls.spliced_cons (wpAny_Constant_str (k := ka) (pos := pa) (Calls.spliced_cons (wpAny_Constant_str (k := kb) (pos := pb) (Calls.spliced_nil ?_))))))
  have hl := repl_len (z := z) (List.length_pos_iff.mpr hy) (x.length + 1) x
  exact wpAny_mono (call_repl (W := W) (s := s₁) hy hyz hsz (Nat.lt_of_lt_of_le htk er1.tk) (Nat.le_trans hl hsz)) (fun v s' hp => hp.tr k1) fun _ _ e => e
end
end Mine
end

section
open PySem PySem.W PyProof.Rows PySem.SeqAt
namespace Mine
section
variable {prog : Program} {w : World} {A : Around} {E : Value → Shared → Prop} {s s₁ : Shared} {W : Addr → Prop} {μ : Mu} {ρ : Rho} {env : Env} {C : Cx} {lv : Nat} {T : Str → List PV → Option PV} {Γ : Names}

theorem list_sound {es : List Expr} {ps : List PV} {pos : Pos} (h : SEs prog w C lv μ Γ es ρ ps) (hl : ps.length ≤ SZ) (hr : Room lv A) (hΓ : env.scope.names = Γ) (er : ER C W env s ρ μ) :
    wpAny (model prog w) A (eval (.List es pos) env) (PostL W s ps) E s :=
  wpAny_List_spliced (h.step hr hΓ er fun vs s₁ k1 er1 rp => by
    have hl' : vs.length ≤ SZ := by rw [rp.length]; exact hl
    refine ⟨by rw [← SZ_eq]; exact hl', ?_⟩
    have := postL_push (W := W) (s := s₁) (n := 0) (tk := s₁.toks) hl' rp
    obtain ⟨k, a, vs', n, e1, e2, e3⟩ := this
    refine ⟨Keeps.tr k1 k, a, vs', n, e1, ?_, e3⟩
    cases e : s.heap.get? a with
    | none => rfl
    | some o => rw [Keeps.k k1 _ _ e] at e2; cases e2)

theorem tuple_sound {es : List Expr} {ps : List PV} {kd : Nat} {pos : Pos} (h : SEs prog w C lv μ Γ es ρ ps) (hl : ps.length ≤ SZ) (hr : Room lv A) (hΓ : env.scope.names = Γ) (er : ER C W env s ρ μ) :
    wpAny (model prog w) A (eval (.Tuple es kd pos) env) (Post W s (.tup ps)) E s :=
  wpAny_Tuple_spliced (h.step hr hΓ er fun vs s₁ k1 er1 rp => by
    have hl' : vs.length ≤ SZ := by rw [rp.length]; exact hl
    refine ⟨by rw [← SZ_eq]; exact hl', ?_⟩
    exact (post_tup (n := 0) (tk := s₁.toks) er1.sr hl' rp).tr k1)

theorem slcV_sound {value slice : Expr} {x q r : PV} {lo hi : Option Int} {o vl vh : Value} {a : Addr} (h : slcV lo hi q = some r) (e : rs μ x = q) (S : SR W s.heap μ) (ro : Rep (frz s.heap W) x o) (hs : s.heap.get? a = some (slObj vl vh .none))
    (pl : IsPart vl lo ∧ vl = partValue (tokOf vl) ∧ (tokOf vl).map (·.1) = lo) (ph : IsPart vh hi ∧ vh = partValue (tokOf vh) ∧ (tokOf vh).map (·.1) = hi) :
    wpAny (model prog w) A (getitemInPython o >>= fun b => subscripted slice b o (.ref a) >>= fun r => letTemporaryGo value o r >>= fun _ => pure r) (Post W s r) E s := by
  cases q with
  | lst xs =>
    cases Option.some.inj h
    obtain ⟨b, vs, n, rfl, q1, q2, q3⟩ := rs_lst S e ro
    refine sub_any (T := "list") F.slot_list_getitem.lookup ⟨_, q1, rfl⟩ ?_
    exact wpAny_mono (slc_list q1 q2 q3 hs pl.1 ph.1) (fun v s' hp => hp.post S) fun _ _ e => e
  | str xs =>
    cases Option.some.inj h
    have := rs_str e; subst this
    obtain ⟨q1, t, rfl⟩ := rep_str.mp ro
    exact sub_any (T := "str") F.slot_str_getitem.lookup (typeIs_str _ _ _) (slc_str q1 hs pl.2 ph.2)
  | _ => exact no h
theorem slc_gen (d : Nat) {value : Expr} {lo hi st : Option Expr} {p pos : Pos} {x l h k r : PV} (hv : SE prog w C lv μ Γ value ρ x)
    (hl : ∀ (A : Around) (E : Value → Shared → Prop) (W : Addr → Prop) (env : Env) (s : Shared), Room lv A → env.scope.names = Γ → ER C W env s ρ μ → wpAny (model prog w) A (evalPart lo env) (fun v s' => Post W s l v s' ∧ s.toks ≤ s'.toks) E s)
    (hh : ∀ (A : Around) (E : Value → Shared → Prop) (W : Addr → Prop) (env : Env) (s : Shared), Room lv A → env.scope.names = Γ → ER C W env s ρ μ → wpAny (model prog w) A (evalPart hi env) (fun v s' => Post W s h v s' ∧ s.toks + d ≤ s'.toks) E s)
    (hk : ∀ (A : Around) (E : Value → Shared → Prop) (W : Addr → Prop) (env : Env) (s : Shared), Room lv A → env.scope.names = Γ → ER C W env s ρ μ → wpAny (model prog w) A (evalPart st env) (fun v s' => Post W s k v s' ∧ s.toks ≤ s'.toks) E s)
    (e : evSlc μ x l h k = some r) (hr : Room lv A) (hΓ : env.scope.names = Γ) (er : ER C W env s ρ μ) :
    wpAny (model prog w) A (eval (.Subscript value (.Slice lo hi st p) pos) env) (fun v s' => Post W s r v s' ∧ s.toks + d ≤ s'.toks) E s := by
  rw [eval_Subscript]
  refine wpAny_bind (wpAny_with_toks (n := s.toks) (Nat.le_refl _) (hv.step hr hΓ er fun o s₁ k1 er1 ro t1 => wpAny_bind (wpAny_holding (wpAny_Slice ?_))))
  refine wpAny_mono (hl A _ W env s₁ hr hΓ er1) (fun vl s₂ h₂ => ?_) fun _ _ e => e
  obtain ⟨⟨k2, rl⟩, t2⟩ := h₂
  have er2 := er1.keeps k2 t2
  refine wpAny_mono (hh A _ W env s₂ hr hΓ er2) (fun vh s₃ h₃ => ?_) fun _ _ e => e
  obtain ⟨⟨k3, rh⟩, t3⟩ := h₃
  have er3 := er2.keeps k3 (Nat.le_trans (Nat.le_add_right _ _) t3)
  refine wpAny_mono (hk A _ W env s₃ hr hΓ er3) (fun vk s₄ h₄ => wpAny_bind (wpAny_standAt ?_)) fun _ _ e => e
  obtain ⟨⟨k4, rk⟩, t4⟩ := h₄
  have er4 := er3.keeps k4 t4
  have kp : Keeps s₄ { s₄ with heap := s₄.heap.push { cls := .type "slice", data := .fields #[vl, vh, vk] } } := Keeps.push _ _
  have er5 := er4.keeps kp (Nat.le_refl _)
  have hs5 : ({ s₄ with heap := s₄.heap.push { cls := .type "slice", data := .fields #[vl, vh, vk] } } : Shared).heap.get? s₄.heap.objs.size = some (slObj vl vh vk) := Heap.get?_push_size _ rfl
  have ht5 : ({ s₄ with heap := s₄.heap.push { cls := .type "slice", data := .fields #[vl, vh, vk] } } : Shared).toks = s₄.toks := rfl
  generalize ({ s₄ with heap := s₄.heap.push { cls := .type "slice", data := .fields #[vl, vh, vk] } } : Shared) = s₅ at kp er5 hs5 ht5
  generalize s₄.heap.objs.size = a at hs5
  have K15 : Keeps s₁ s₅ := Keeps.tr k2 (Keeps.tr k3 (Keeps.tr k4 kp))
  have ro5 := ro.keep (Keeps.k K15)
  obtain ⟨lo', hi', e0, e1, e2, e3⟩ := evSlc_inv e
  subst e0
  have := rep_none.mp rk; subst this
  exact wpAny_with_toks (n := s.toks + d) (by lia) (wpAny_mono (slcV_sound e3 rfl er5.sr ro5 hs5 (part_of e1 rl) (part_of e2 rh)) (fun v s' hp ht => ⟨hp.tr (Keeps.tr k1 K15), ht⟩) fun _ _ e => e)

theorem slc_sound {value : Expr} {lo hi st : Option Expr} {p pos : Pos} {x l h k r : PV} (hv : SE prog w C lv μ Γ value ρ x)
    (hl : ∀ (A : Around) (E : Value → Shared → Prop) (W : Addr → Prop) (env : Env) (s : Shared), Room lv A → env.scope.names = Γ → ER C W env s ρ μ → wpAny (model prog w) A (evalPart lo env) (fun v s' => Post W s l v s' ∧ s.toks ≤ s'.toks) E s)
    (hh : ∀ (A : Around) (E : Value → Shared → Prop) (W : Addr → Prop) (env : Env) (s : Shared), Room lv A → env.scope.names = Γ → ER C W env s ρ μ → wpAny (model prog w) A (evalPart hi env) (fun v s' => Post W s h v s' ∧ s.toks ≤ s'.toks) E s)
    (hk : ∀ (A : Around) (E : Value → Shared → Prop) (W : Addr → Prop) (env : Env) (s : Shared), Room lv A → env.scope.names = Γ → ER C W env s ρ μ → wpAny (model prog w) A (evalPart st env) (fun v s' => Post W s k v s' ∧ s.toks ≤ s'.toks) E s)
    (e : evSlc μ x l h k = some r) : SE prog w C lv μ Γ (.Subscript value (.Slice lo hi st p) pos) ρ r :=
  fun A E W env s hr hΓ er => wpAny_mono (slc_gen 0 hv hl hh hk e hr hΓ er) (fun v s' hp => hp.1) fun _ _ e => e

theorem idx_sound {value sl : Expr} {pos : Pos} {x i r : PV} (hv : SE prog w C lv μ Γ value ρ x) (hi : SE prog w C lv μ Γ sl ρ i) (e : evIdx μ x i = some r) : SE prog w C lv μ Γ (.Subscript value sl pos) ρ r := by
  intro A E W env s hr hΓ er
  rw [eval_Subscript]
  refine wpAny_bind (hv.step hr hΓ er fun o s₁ k1 er1 ro => wpAny_bind (wpAny_holding (hi.step hr hΓ er1 fun iv s₂ k2 er2 ri => wpAny_bind (wpAny_standAt ?_))))
  exact wpAny_mono (evIdx_sound e er2.sr (ro.keep (Keeps.k k2)) ri) (fun v s' hp => hp.tr (Keeps.tr k1 k2)) fun _ _ e => e

theorem meth_sound {o : Expr} {m : Str} {apos pos : Pos} {es : List Expr} {x r : PV} {ps : List PV} (hv : SE prog w C lv μ Γ o ρ x) (hse : SEs prog w C lv μ Γ es ρ ps) (hes : evs T μ (trs Γ es) ρ = some ps)
    (ho : ∀ env, attributeBase o m env (eval o env) = eval o env) (hline : (apos.endLine == pos.line) = true) (hlen : es.length < 20) (e : evMeth μ x m ps = some r) :
    SE prog w C lv μ Γ (.Call (.Attribute o m apos) es [] pos) ρ r := by
  intro A E W env s hr hΓ er
  obtain ⟨p1, p2, p3⟩ := evs_plain hes env pos
  unfold evMeth at e
  split at e
  · rename_i hm
    subst hm
    split at e
    · rename_i sep p
      split at e
      · rename_i xs e1
        split at e
        · rename_i y e2
          split at e
          · rename_i e3
            cases e
            refine wpAny_Call_method_late (ho env) (by rw [p1, p3]; simp [keywordEach, backToKw]; lia) hline rfl (hv.step hr hΓ er fun ov s₁ k1 er1 ro => ?_)
            obtain ⟨q1, t, rfl⟩ := rep_str.mp ro
            refine ⟨"str", "str.join", F.plainAttrs_str, F.slot_str_join, F.type_str_join, typeIs_str _ _ _, fun a ha => (by cases ha), ?_⟩
            refine Calls.callWith_builtin (by rw [p1]; exact p2) ?_
            cases es with
            | nil => cases Option.some.inj hes
            | cons e0 es0 =>
              have he0 : starEach (e0 :: es0) env = (false, eval e0 env) :: starEach es0 env := by
                obtain ⟨p, qs, h1, _⟩ := evs_cons (e := tr Γ e0) (es := trs Γ es0) hes; exact tr_star h1 es0 env
              have hs := hse.step (pos := pos) (E := E) hr hΓ er1 (Q := fun vs s' => wpAny (model prog w) A (call (.builtin "str.join") ([.str ⟨sep.toArray⟩ t] ++ vs) []) (Post W s (.str y)) E s') (fun vs s₂ k2 er2 rp => by
                obtain ⟨v, rfl, rv⟩ := reps_one rp
                exact wpAny_mono (join_sound e2 e3 er2.sr e1 rv) (fun v s' hp => hp.tr (Keeps.tr k1 k2)) fun _ _ e => e)
              rw [he0] at hs ⊢
              exact Calls.evalArgs_plain hs
          · cases e
        · cases e
      · cases e
    · cases e
  · cases e

theorem catStrs_cons {p : PV} {ps : List PV} {y : List Nat} (h : catStrs (p :: ps) = some y) : ∃ x z, p = .str x ∧ catStrs ps = some z ∧ y = x ++ z := by
  cases p with
  | str x =>
    have h := map_inv (o := catStrs ps) h
    obtain ⟨z, h1, h2⟩ := h
    exact ⟨x, z, rfl, h1, h2.symm⟩
  | _ => exact no h

theorem fmt_sound {e : Expr} {pos : Pos} {x : List Nat} (hv : SE prog w C lv μ Γ e ρ (.str x)) : SE prog w C lv μ Γ (.FormattedValue e (-1) none pos) ρ (.str x) := by
  intro A E W env s hr hΓ er
  refine wpAny_FormattedValue_plain (hv.step hr hΓ er fun v s₁ k1 er1 rv => ?_)
  obtain ⟨q1, t, rfl⟩ := rep_str.mp rv
  refine wpAny_formatField_str ⟨k1, rv⟩ ⟨Keeps.tr k1 (Keeps.tk _), rep_str.mpr ⟨q1, _, rfl⟩⟩ (by rw [Str.len_mk]; exact q1)
end
end Mine
end

section
open PySem PySem.W PyProof.Rows PySem.SeqAt
set_option linter.unusedVariables false
namespace Mine
section
variable {prog : Program} {w : World} {μ : Mu} {C : Cx} {lv : Nat} {T : Str → List PV → Option PV}

/-- the tests of a row, told from its parts -/
theorem sts_nil {Γ : Names} {ρ : Rho} : STs prog w C lv μ Γ [] ρ true := by
  intro A E W env s hr hΓ er
  show wpAny _ _ (forIn (m := Sem) ([] : List Expr) true _) _ _ _
  rw [List.forIn_nil]
  exact wpAny_pure ⟨rfl, Keeps.rfl'⟩
theorem sts_false (Γ : Names) (ρ : Rho) : ∀ (ifs : List Expr) (A : Around) (E : Value → Shared → Prop) (env : Env) (s : Shared), wpAny (model prog w) A (forIn (m := Sem) ifs false fun c r => if r = true then do let ok ← isTrue c env (eval c env); pure (ForInStep.yield ok) else pure (ForInStep.yield r)) (fun r s' => r = false ∧ Keeps s s') E s
  | [], A, E, env, s => by rw [List.forIn_nil]; exact wpAny_pure ⟨rfl, Keeps.rfl'⟩
  | e :: es, A, E, env, s => by
    rw [List.forIn_cons]
    simp only [Bool.false_eq_true, if_false]
    exact wpAny_bind (wpAny_pure (sts_false Γ ρ es A E env s))
theorem sts_cons {Γ : Names} {ρ : Rho} {e : Expr} {es : List Expr} {b c : Bool} (h : ST prog w C lv μ Γ e ρ b) (h2 : b = true → STs prog w C lv μ Γ es ρ c) (h3 : b = false → c = false) : STs prog w C lv μ Γ (e :: es) ρ c := by
  intro A E W env s hr hΓ er
  show wpAny _ _ (forIn (m := Sem) (e :: es) true _) _ _ _
  rw [List.forIn_cons]
  simp only [if_true]
  refine wpAny_bind (wpAny_bind (h.step hr hΓ er fun s₁ k1 er1 => wpAny_pure ?_))
  cases b with
  | true => exact wpAny_mono (h2 rfl A E W env s₁ hr hΓ er1) (fun r s' hp => ⟨hp.1, Keeps.tr k1 hp.2⟩) fun _ _ e => e
  | false => rw [h3 rfl]; exact wpAny_mono (sts_false Γ ρ es A E env s₁) (fun r s' hp => ⟨hp.1, Keeps.tr k1 hp.2⟩) fun _ _ e => e

theorem part_none {Γ : Names} {ρ : Rho} : ∀ (A : Around) (E : Value → Shared → Prop) (W : Addr → Prop) (env : Env) (s : Shared), Room lv A → env.scope.names = Γ → ER C W env s ρ μ → wpAny (model prog w) A (evalPart none env) (fun v s' => Post W s .none v s' ∧ s.toks ≤ s'.toks) E s :=
  fun A E W env s _ _ _ => wpAny_pure ⟨⟨Keeps.rfl', rep_none.mpr rfl⟩, Nat.le_refl _⟩
theorem part_some {Γ : Names} {ρ : Rho} {e : Expr} {p : PV} (h : SE prog w C lv μ Γ e ρ p) : ∀ (A : Around) (E : Value → Shared → Prop) (W : Addr → Prop) (env : Env) (s : Shared), Room lv A → env.scope.names = Γ → ER C W env s ρ μ → wpAny (model prog w) A (evalPart (some e) env) (fun v s' => Post W s p v s' ∧ s.toks ≤ s'.toks) E s :=
  fun A E W env s hr hΓ er => wpAny_with_toks (n := s.toks) (Nat.le_refl _) (wpAny_mono (h A _ W env s hr hΓ er) (fun v s₁ h₁ ht => ⟨h₁, ht⟩) fun _ _ e => e)

theorem const_sound {c : Const} {k : Nat} {pos : Pos} {Γ : Names} {ρ : Rho} {p : PV} (h : ev T μ (tr Γ (.Constant c k pos)) ρ = some p) : SE prog w C lv μ Γ (.Constant c k pos) ρ p := by
  intro A E W env s hr hΓ er
  cases c with
  | none => cases Option.some.inj h; exact wpAny_Constant_none ⟨Keeps.rfl', rep_none.mpr rfl⟩
  | bool b => cases Option.some.inj h; exact wpAny_Constant_bool ⟨Keeps.rfl', rep_bool.mpr rfl⟩
  | int i => cases Option.some.inj h; exact wpAny_Constant_int ⟨Keeps.tk _, rep_int.mpr ⟨_, rfl⟩⟩
  | str x =>
    have h : ev T μ (if x.cps.toList.length ≤ SZ then .const (.str x.cps.toList) else .bad) ρ = some p := h
    by_cases hl : x.cps.toList.length ≤ SZ
    · rw [if_pos hl] at h
      cases Option.some.inj h
      exact wpAny_Constant_str ⟨Keeps.tk _, rep_str.mpr ⟨hl, s.toks, rfl⟩⟩
    · rw [if_neg hl] at h; exact no h
  | _ => exact no h

theorem name_sound' {x : Str} {pos : Pos} {Γ : Names} {ρ : Rho} {p : PV} (h : ev T μ (tr Γ (.Name x pos)) ρ = some p) : SE prog w C lv μ Γ (.Name x pos) ρ p := by
  intro A E W env s hr hΓ er
  have h : ev T μ (if (x == "__debug__" || x == "__classdict__") = true then .bad else .var x) ρ = some p := h
  by_cases hx : (x == "__debug__" || x == "__classdict__") = true
  · rw [if_pos hx] at h; exact no h
  · rw [if_neg hx] at h
    exact name_sound er h (by simpa using hx)

theorem ev_bin {e1 e2 : MExpr} {ρ : Rho} {op : Operator} {p : PV} (h : ev T μ (.bin op e1 e2) ρ = some p) : ∃ x y, ev T μ e1 ρ = some x ∧ ev T μ e2 ρ = some y ∧ evBin μ op x y = some p :=
  oPP_inv (a := ev T μ e1 ρ) (b := ev T μ e2 ρ) (f := evBin μ op) h
theorem ev_cmp {e1 e2 : MExpr} {ρ : Rho} {op : CmpOp} {p : PV} (h : ev T μ (.cmp op e1 e2) ρ = some p) : ∃ x y, ev T μ e1 ρ = some x ∧ ev T μ e2 ρ = some y ∧ evCmp μ op x y = some p :=
  oPP_inv (a := ev T μ e1 ρ) (b := ev T μ e2 ρ) (f := evCmp μ op) h
theorem ev_idx {e1 e2 : MExpr} {ρ : Rho} {p : PV} (h : ev T μ (.idx e1 e2) ρ = some p) : ∃ x y, ev T μ e1 ρ = some x ∧ ev T μ e2 ρ = some y ∧ evIdx μ x y = some p :=
  oPP_inv (a := ev T μ e1 ρ) (b := ev T μ e2 ρ) (f := evIdx μ) h
theorem ev_neg {e1 : MExpr} {ρ : Rho} {p : PV} (h : ev T μ (.neg e1) ρ = some p) : ∃ i, ev T μ e1 ρ = some (.int i) ∧ p = .int (-i) := by
  have h : (match ev T μ e1 ρ with
    | some (.int i) => some (PV.int (-i))
    | _ => none) = some p := h
  cases h1 : ev T μ e1 ρ with
  | none => rw [h1] at h; exact no h
  | some q =>
    rw [h1] at h
    cases q with
    | int i => exact ⟨i, rfl, (Option.some.inj h).symm⟩
    | _ => exact no h
theorem ev_not {e1 : MExpr} {ρ : Rho} {p : PV} (h : ev T μ (.not e1) ρ = some p) : ∃ x b, ev T μ e1 ρ = some x ∧ truth x = some b ∧ p = .bool !b := by
  obtain ⟨x, h1, h2⟩ := oP_inv (o := ev T μ e1 ρ) (f := fun x => (truth x).map fun b => PV.bool !b) h
  obtain ⟨b, h3, h4⟩ := map_inv h2
  exact ⟨x, b, h1, h3, h4.symm⟩
theorem ev_ite {c a b : MExpr} {ρ : Rho} {p : PV} (h : ev T μ (.ite c a b) ρ = some p) : ∃ x t, ev T μ c ρ = some x ∧ truth x = some t ∧ ev T μ (if t then a else b) ρ = some p := by
  obtain ⟨x, h1, h2⟩ := oP_inv (o := ev T μ c ρ) (f := fun x => match truth x with
    | some true => ev T μ a ρ
    | some false => ev T μ b ρ
    | none => none) h
  obtain ⟨t, h3, h4⟩ := ob_inv h2
  refine ⟨x, t, h1, h3, ?_⟩
  cases t with
  | true => exact h4
  | false => exact h4
theorem ev_and {a b : MExpr} {ρ : Rho} {p : PV} (h : ev T μ (.and a b) ρ = some p) : ∃ x t, ev T μ a ρ = some x ∧ truth x = some t ∧ (if t then ev T μ b ρ = some p else p = x) := by
  obtain ⟨x, h1, h2⟩ := oP_inv (o := ev T μ a ρ) (f := fun x => match truth x with
    | some true => ev T μ b ρ
    | some false => some x
    | none => none) h
  obtain ⟨t, h3, h4⟩ := ob_inv h2
  refine ⟨x, t, h1, h3, ?_⟩
  cases t with
  | true => exact h4
  | false => exact (Option.some.inj h4).symm
theorem ev_or {a b : MExpr} {ρ : Rho} {p : PV} (h : ev T μ (.or a b) ρ = some p) : ∃ x t, ev T μ a ρ = some x ∧ truth x = some t ∧ (if t then p = x else ev T μ b ρ = some p) := by
  obtain ⟨x, h1, h2⟩ := oP_inv (o := ev T μ a ρ) (f := fun x => match truth x with
    | some true => some x
    | some false => ev T μ b ρ
    | none => none) h
  obtain ⟨t, h3, h4⟩ := ob_inv h2
  refine ⟨x, t, h1, h3, ?_⟩
  cases t with
  | true => exact (Option.some.inj h4).symm
  | false => exact h4
theorem ev_slc {a lo hi st : MExpr} {ρ : Rho} {p : PV} (h : ev T μ (.slc a lo hi st) ρ = some p) : ∃ x l u k, ev T μ a ρ = some x ∧ ev T μ lo ρ = some l ∧ ev T μ hi ρ = some u ∧ ev T μ st ρ = some k ∧ evSlc μ x l u k = some p := by
  have h : (match ev T μ a ρ, ev T μ lo ρ, ev T μ hi ρ, ev T μ st ρ with
    | some x, some l, some h, some k => evSlc μ x l h k
    | _, _, _, _ => none) = some p := h
  cases h1 : ev T μ a ρ with
  | none => rw [h1] at h; exact no h
  | some x => cases h2 : ev T μ lo ρ with
    | none => rw [h1, h2] at h; exact no h
    | some l => cases h3 : ev T μ hi ρ with
      | none => rw [h1, h2, h3] at h; exact no h
      | some u => cases h4 : ev T μ st ρ with
        | none => rw [h1, h2, h3, h4] at h; exact no h
        | some k => rw [h1, h2, h3, h4] at h; exact ⟨x, l, u, k, rfl, rfl, rfl, rfl, h⟩
theorem ev_lst {es : List MExpr} {ρ : Rho} {p : PV} (h : ev T μ (.lst es) ρ = some p) : ∃ xs, evs T μ es ρ = some xs ∧ xs.length ≤ SZ ∧ p = .lst xs := by
  obtain ⟨xs, h1, h2⟩ := oL_inv (o := evs T μ es ρ) (f := fun xs => if xs.length ≤ SZ then some (PV.lst xs) else none) h
  obtain ⟨h3, h4⟩ := opt_if h2
  exact ⟨xs, h1, h3, h4.symm⟩
theorem ev_tup {es : List MExpr} {ρ : Rho} {p : PV} (h : ev T μ (.tup es) ρ = some p) : ∃ xs, evs T μ es ρ = some xs ∧ xs.length ≤ SZ ∧ p = .tup xs := by
  obtain ⟨xs, h1, h2⟩ := oL_inv (o := evs T μ es ρ) (f := fun xs => if xs.length ≤ SZ then some (PV.tup xs) else none) h
  obtain ⟨h3, h4⟩ := opt_if h2
  exact ⟨xs, h1, h3, h4.symm⟩
theorem ev_meth {o : MExpr} {m : Str} {es : List MExpr} {ρ : Rho} {p : PV} (h : ev T μ (.meth o m es) ρ = some p) : ∃ x xs, ev T μ o ρ = some x ∧ evs T μ es ρ = some xs ∧ evMeth μ x m xs = some p :=
  oPL_inv (a := ev T μ o ρ) (b := evs T μ es ρ) (f := fun x xs => evMeth μ x m xs) h
theorem ev_repl {o : MExpr} {y z : List Nat} {ρ : Rho} {p : PV} (h : ev T μ (.repl o y z) ρ = some p) : ∃ x, ev T μ o ρ = some (.str x) ∧ T "str.replace" [.str x, .str y, .str z] = some p := by
  have h : (match ev T μ o ρ with
    | some p => match p with
      | .str x => T "str.replace" [.str x, .str y, .str z]
      | _ => none
    | none => none) = some p := h
  cases h1 : ev T μ o ρ with
  | none => rw [h1] at h; exact no h
  | some q =>
    rw [h1] at h
    cases q with
    | str x => exact ⟨x, rfl, h⟩
    | _ => exact no h
theorem ev_fmt {e : MExpr} {ρ : Rho} {p : PV} (h : ev T μ (.fmt e) ρ = some p) : ∃ x, ev T μ e ρ = some (.str x) ∧ p = .str x := by
  have h : (match ev T μ e ρ with
    | some (.str x) => some (PV.str x)
    | _ => none) = some p := h
  cases h1 : ev T μ e ρ with
  | none => rw [h1] at h; exact no h
  | some q =>
    rw [h1] at h
    cases q with
    | str x => exact ⟨x, rfl, (Option.some.inj h).symm⟩
    | _ => exact no h
theorem ev_fstr {es : List MExpr} {ρ : Rho} {p : PV} (h : ev T μ (.fstr es) ρ = some p) : ∃ xs y, evs T μ es ρ = some xs ∧ catStrs xs = some y ∧ y.length ≤ SZ ∧ 2 ≤ es.length ∧ p = .str y := by
  obtain ⟨xs, h1, h2⟩ := oL_inv (o := evs T μ es ρ) (f := fun xs => match catStrs xs with
    | some y => if y.length ≤ SZ ∧ 2 ≤ es.length then some (PV.str y) else none
    | none => none) h
  obtain ⟨y, h3, h4⟩ := oN_inv (o := catStrs xs) (f := fun y => if y.length ≤ SZ ∧ 2 ≤ es.length then some (PV.str y) else none) h2
  obtain ⟨h5, h6⟩ := opt_if h4
  exact ⟨xs, y, h1, h3, h5.1, h5.2, h6.symm⟩

/-- the parts of an f-string -/
noncomputable def SJ (prog : Program) (w : World) (C : Cx) (lv : Nat) (μ : Mu) (Γ : Names) (es : List Expr) (ρ : Rho) (y : List Nat) : Prop :=
  ∀ (A : Around) (E : Value → Shared → Prop) (W : Addr → Prop) (env : Env) (s : Shared) (acc : List Nat) (Q : Str → Shared → Prop), Room lv A → env.scope.names = Γ → ER C W env s ρ μ → acc.length + y.length ≤ SZ →
    (∀ s', Keeps s s' → Q ⟨(acc ++ y).toArray⟩ s') → Joins (model prog w) A E (evalEach es env) ⟨acc.toArray⟩ Q s
theorem sj_nil {Γ : Names} {ρ : Rho} : SJ prog w C lv μ Γ [] ρ [] := fun A E W env s acc Q _ _ _ _ hQ => by
  show Q _ s
  simpa using hQ s Keeps.rfl'
theorem sj_cons {Γ : Names} {ρ : Rho} {e : Expr} {es : List Expr} {x y : List Nat} (h : SE prog w C lv μ Γ e ρ (.str x)) (h2 : SJ prog w C lv μ Γ es ρ y) : SJ prog w C lv μ Γ (e :: es) ρ (x ++ y) := by
  intro A E W env s acc Q hr hΓ er hl hQ
  show wpAny _ _ (eval e env) _ _ _
  refine h.step hr hΓ er fun v s₁ k1 er1 rv => ?_
  obtain ⟨q1, t, rfl⟩ := rep_str.mp rv
  simp at hl
  refine ⟨_, t, rfl, ?_, ?_⟩
  · rw [Str.app_mk, Str.len_mk, ← SZ_eq]; simp; lia
  · rw [Str.app_mk]
    exact h2 A E W env s₁ (acc ++ x) Q hr hΓ er1 (by simp; lia) fun s' k' => by simpa using hQ s' (Keeps.tr k1 k')
theorem fstr_sound {Γ : Names} {ρ : Rho} {es : List Expr} {pos : Pos} {y : List Nat} (h : SJ prog w C lv μ Γ es ρ y) (hl : y.length ≤ SZ) (h2 : 2 ≤ es.length) : SE prog w C lv μ Γ (.JoinedStr es pos) ρ (.str y) := by
  intro A E W env s hr hΓ er
  match es, h2 with
  | v1 :: v2 :: rest, _ =>
    refine wpAny_JoinedStr ?_
    have := h A E W env s [] (fun out s₁ => out.length ≤ sizeLine ∧ Post W s (.str y) (.str out s₁.toks) { s₁ with toks := s₁.toks + 1 }) hr hΓ er (by simpa using hl) fun s' k' => ?_
    · exact this
    · refine ⟨by rw [Str.len_mk, ← SZ_eq]; simpa using hl, Keeps.tr k' (Keeps.tk _), rep_str.mpr ⟨hl, _, by simp; rfl⟩⟩
end
end Mine
end

section
open PySem PySem.W PyProof.Rows PySem.SeqAt
set_option linter.unusedVariables false
namespace Mine
section
variable {prog : Program} {w : World} {μ : Mu} {C : Cx} {lv : Nat} {T : Str → List PV → Option PV}

theorem bin_sound {l r : Expr} {op : Operator} {pos : Pos} {Γ : Names} {ρ : Rho} {x y p : PV} (h1 : SE prog w C lv μ Γ l ρ x) (h2 : SE prog w C lv μ Γ r ρ y) (h : evBin μ op x y = some p) : SE prog w C lv μ Γ (.BinOp l op r pos) ρ p := by
  intro A E W env s hr hΓ er
  refine wpAny_BinOp (h1.step hr hΓ er fun a s₁ k1 er1 ra => h2.step hr hΓ er1 fun b s₂ k2 er2 rb => ?_)
  exact wpAny_mono (evBin_sound h er2.sr (ra.keep (Keeps.k k2)) rb) (fun v s' hp => hp.tr (Keeps.tr k1 k2)) fun _ _ e => e
theorem cmp_sound {l r : Expr} {op : CmpOp} {pos : Pos} {Γ : Names} {ρ : Rho} {x y p : PV} (h1 : SE prog w C lv μ Γ l ρ x) (h2 : SE prog w C lv μ Γ r ρ y) (h : evCmp μ op x y = some p) (hm : behindInMarks op r = false) : SE prog w C lv μ Γ (.Compare l [op] [r] pos) ρ p := by
  intro A E W env s hr hΓ er
  refine wpAny_Compare1 (h1.step hr hΓ er fun a s₁ k1 er1 ra => h2.step hr hΓ er1 fun b s₂ k2 er2 rb => ?_) hm
  exact wpAny_mono (evCmp_sound h er2.sr (ra.keep (Keeps.k k2)) rb hr.hu) (fun v s' hp => hp.tr (Keeps.tr k1 k2)) fun _ _ e => e
theorem cmp_st {l r : Expr} {op : CmpOp} {pos : Pos} {Γ : Names} {ρ : Rho} {x y p : PV} {b : Bool} (h1 : SE prog w C lv μ Γ l ρ x) (h2 : SE prog w C lv μ Γ r ρ y) (h : evCmp μ op x y = some p) (ht : truth p = some b) (hm : behindInMarks op r = false) : ST prog w C lv μ Γ (.Compare l [op] [r] pos) ρ b := by
  intro A E W env s hr hΓ er
  refine wpAny_isTrue_Compare1 (h1.step hr hΓ er fun a s₁ k1 er1 ra => h2.step hr hΓ er1 fun b s₂ k2 er2 rb => ?_) hm
  exact wpAny_mono (evCmp_sound h er2.sr (ra.keep (Keeps.k k2)) rb hr.hu) (fun v s' hp => truthy_sound ht hp.2 ⟨rfl, Keeps.tr k1 (Keeps.tr k2 hp.1)⟩) fun _ _ e => e
theorem marks_of {e : Expr} {op : CmpOp} {Γ : Names} {ρ : Rho} {p : PV} (h : ev T μ (tr Γ e) ρ = some p) : behindInMarks op e = false := by
  cases e with
  | Set _ _ _ => exact no h
  | _ => rfl

theorem base_of {o : Expr} {m : Str} (ho : ∀ f a k p, o ≠ .Call f a k p) (env : Env) : attributeBase o m env (eval o env) = eval o env := by
  cases o with
  | Call f a k p => exact absurd rfl (ho f a k p)
  | _ => rfl

noncomputable def SB (prog : Program) (w : World) (C : Cx) (lv : Nat) (μ : Mu) (Γ : Names) (op : PySem.BoolOp) (es : List Expr) (ρ : Rho) (p : PV) : Prop :=
  ∀ (A : Around) (E : Value → Shared → Prop) (W : Addr → Prop) (env : Env) (s : Shared) (pos : Pos), Room lv A → env.scope.names = Γ → ER C W env s ρ μ → wpAny (model prog w) A (boolOp pos op (evalEach es env)) (Post W s p) E s
noncomputable def SA (prog : Program) (w : World) (C : Cx) (lv : Nat) (μ : Mu) (Γ : Names) (op : PySem.BoolOp) (es : List Expr) (ρ : Rho) (b : Bool) : Prop :=
  ∀ (A : Around) (E : Value → Shared → Prop) (W : Addr → Prop) (env : Env) (s : Shared), Room lv A → env.scope.names = Γ → ER C W env s ρ μ → wpAny (model prog w) A (allTrue op es env) (fun r s' => r = b ∧ Keeps s s') E s

theorem boolOp_cons (pos : Pos) (op : PySem.BoolOp) (x y : Sem Value) (rest : List (Sem Value)) : boolOp pos op (x :: y :: rest) = (do
    let v ← x
    standAt pos
    let t ← holding [v] (truthy v)
    match op, t with
    | .And, false | .Or, true => pure v
    | _, _ => boolOp pos op (y :: rest)) := rfl
theorem allTrue_cons (op : PySem.BoolOp) (x : Expr) (rest : List Expr) (env : Env) : allTrue op (x :: rest) env = (do
    match op, ← PySem.isTrue x env (eval x env) with
    | .And, false => pure false
    | .Or, true => pure true
    | _, _ => allTrue op rest env) := rfl
theorem sb_cons {Γ : Names} {ρ : Rho} {op : PySem.BoolOp} {e e2 : Expr} {es : List Expr} {x p : PV} {t : Bool} (h : SE prog w C lv μ Γ e ρ x) (ht : truth x = some t)
    (h2 : (match op with | .And => t | .Or => !t) = true → SB prog w C lv μ Γ op (e2 :: es) ρ p) (h3 : (match op with | .And => t | .Or => !t) = false → p = x) : SB prog w C lv μ Γ op (e :: e2 :: es) ρ p := by
  intro A E W env s pos hr hΓ er
  show wpAny _ _ (boolOp pos op (eval e env :: eval e2 env :: evalEach es env)) _ _ _
  rw [boolOp_cons]
  refine wpAny_bind (h.step hr hΓ er fun v s₁ k1 er1 rv => wpAny_bind (wpAny_standAt (wpAny_bind (wpAny_holding (truthy_sound ht rv ?_)))))
  cases op <;> cases t
  · have := h3 rfl; subst this; exact wpAny_pure ⟨k1, rv⟩
  · exact wpAny_mono (h2 rfl A E W env s₁ pos hr hΓ er1) (fun v s' hp => hp.tr k1) fun _ _ e => e
  · exact wpAny_mono (h2 rfl A E W env s₁ pos hr hΓ er1) (fun v s' hp => hp.tr k1) fun _ _ e => e
  · have := h3 rfl; subst this; exact wpAny_pure ⟨k1, rv⟩
theorem sa_cons {Γ : Names} {ρ : Rho} {op : PySem.BoolOp} {e : Expr} {es : List Expr} {b t : Bool} (h : ST prog w C lv μ Γ e ρ t)
    (h2 : (match op with | .And => t | .Or => !t) = true → SA prog w C lv μ Γ op es ρ b) (h3 : (match op with | .And => t | .Or => !t) = false → b = t) : SA prog w C lv μ Γ op (e :: es) ρ b := by
  intro A E W env s hr hΓ er
  rw [allTrue_cons]
  refine wpAny_bind (h.step hr hΓ er fun s₁ k1 er1 => ?_)
  cases op <;> cases t
  · exact wpAny_pure ⟨(h3 rfl).symm, k1⟩
  · exact wpAny_mono (h2 rfl A E W env s₁ hr hΓ er1) (fun v s' hp => ⟨hp.1, Keeps.tr k1 hp.2⟩) fun _ _ e => e
  · exact wpAny_mono (h2 rfl A E W env s₁ hr hΓ er1) (fun v s' hp => ⟨hp.1, Keeps.tr k1 hp.2⟩) fun _ _ e => e
  · exact wpAny_pure ⟨(h3 rfl).symm, k1⟩
theorem sa_one {Γ : Names} {ρ : Rho} {op : PySem.BoolOp} {e : Expr} {b : Bool} (h : ST prog w C lv μ Γ e ρ b) : SA prog w C lv μ Γ op [e] ρ b := by
  intro A E W env s hr hΓ er
  rw [allTrue_cons]
  refine wpAny_bind (h.step hr hΓ er fun s₁ k1 er1 => ?_)
  cases op <;> cases b <;> exact wpAny_pure ⟨rfl, k1⟩

theorem compS_se {Γ : Names} {ρ : Rho} {elt : Expr} {gens : List Comprehension} {sc : Scope} {pos : Pos} {ys : List PV} (h : CompS prog w C lv μ Γ elt gens sc pos ρ ys) : SE prog w C lv μ Γ (.ListComp elt gens sc pos) ρ (.lst ys) := by
  intro A E W env s hr hΓ er
  exact wpAny_mono (h.eval hr hΓ er) (fun v s' hp => hp.post er.sr) fun _ _ e => e

theorem ite_sound {c a b : Expr} {pos : Pos} {Γ : Names} {ρ : Rho} {p : PV} {t : Bool} (h1 : ST prog w C lv μ Γ c ρ t) (h2 : SE prog w C lv μ Γ (if t then a else b) ρ p) : SE prog w C lv μ Γ (.IfExp c a b pos) ρ p := by
  intro A E W env s hr hΓ er
  refine wpAny_IfExp (h1.step hr hΓ er fun s₁ k1 er1 => ?_)
  cases t <;> exact wpAny_mono (h2 A E W env s₁ hr hΓ er1) (fun v s' hp => hp.tr k1) fun _ _ e => e
theorem ite_st {c a b : Expr} {pos : Pos} {Γ : Names} {ρ : Rho} {r t : Bool} (h1 : ST prog w C lv μ Γ c ρ t) (h2 : ST prog w C lv μ Γ (if t then a else b) ρ r) : ST prog w C lv μ Γ (.IfExp c a b pos) ρ r := by
  intro A E W env s hr hΓ er
  show wpAny (model prog w) A (PySem.isTrue c env (eval c env) >>= fun t => if t = true then PySem.isTrue a env (eval a env) else PySem.isTrue b env (eval b env)) _ E s
  refine wpAny_bind (h1.step hr hΓ er fun s₁ k1 er1 => ?_)
  cases t <;> exact wpAny_mono (h2 A E W env s₁ hr hΓ er1) (fun v s' hp => ⟨hp.1, Keeps.tr k1 hp.2⟩) fun _ _ e => e
theorem neg_sound {x : Expr} {pos : Pos} {Γ : Names} {ρ : Rho} {i : Int} (h1 : SE prog w C lv μ Γ x ρ (.int i)) : SE prog w C lv μ Γ (.UnaryOp .USub x pos) ρ (.int (-i)) := by
  intro A E W env s hr hΓ er
  refine wpAny_UnaryOp (h1.step hr hΓ er fun v s₁ k1 er1 rv => ?_)
  obtain ⟨t, rfl⟩ := rep_int.mp rv
  exact PySem.P.neg_int ⟨Keeps.tr k1 (Keeps.tk _), rep_int.mpr ⟨_, rfl⟩⟩
theorem not_sound {x : Expr} {pos : Pos} {Γ : Names} {ρ : Rho} {p : PV} {b : Bool} (h1 : SE prog w C lv μ Γ x ρ p) (ht : truth p = some b) : SE prog w C lv μ Γ (.UnaryOp .Not x pos) ρ (.bool !b) := by
  intro A E W env s hr hΓ er
  refine wpAny_UnaryOp (h1.step hr hΓ er fun v s₁ k1 er1 rv => not_of (truthy_sound ht rv ⟨k1, rep_bool.mpr rfl⟩))
theorem not_st {x : Expr} {pos : Pos} {Γ : Names} {ρ : Rho} {b : Bool} (h1 : ST prog w C lv μ Γ x ρ b) : ST prog w C lv μ Γ (.UnaryOp .Not x pos) ρ (!b) := by
  intro A E W env s hr hΓ er
  exact wpAny_isTrue_Not (h1.step hr hΓ er fun s₁ k1 er1 => ⟨rfl, k1⟩)
theorem ses_cons {Γ : Names} {ρ : Rho} {e : Expr} {es : List Expr} {p : PV} {ps : List PV} (h : SE prog w C lv μ Γ e ρ p) (h2 : SEs prog w C lv μ Γ es ρ ps) (hs : ∀ env, starEach (e :: es) env = (false, eval e env) :: starEach es env) : SEs prog w C lv μ Γ (e :: es) ρ (p :: ps) := by
  intro A E W env s pos hr hΓ er
  rw [hs env]
  show wpAny _ _ (spliced ((false, eval e env) :: backTo pos (starEach es env))) _ _ _
  refine Calls.spliced_cons (h.step hr hΓ er fun v s₁ k1 er1 rv => h2.step hr hΓ er1 fun vs s₂ k2 er2 rp => ?_)
  exact ⟨Keeps.tr k1 k2, Reps.cons (rv.keep (Keeps.k k2)) rp⟩

noncomputable def Good (prog : Program) (w : World) (C : Cx) (lv : Nat) (μ : Mu) (T : Str → List PV → Option PV) (e : Expr) : Prop :=
  (∀ Γ ρ p, ev T μ (tr Γ e) ρ = some p → SE prog w C lv μ Γ e ρ p) ∧ (∀ Γ ρ x b, ev T μ (tr Γ e) ρ = some x → truth x = some b → ST prog w C lv μ Γ e ρ b)

theorem trs_len (Γ : Names) : ∀ es : List Expr, (trs Γ es).length = es.length
  | [] => rfl
  | e :: es => congrArg Nat.succ (trs_len Γ es)

theorem evs_of : ∀ (es : List Expr), (∀ e ∈ es, Good prog w C lv μ T e) → ∀ Γ ρ ps, evs T μ (trs Γ es) ρ = some ps → SEs prog w C lv μ Γ es ρ ps
  | [], _, Γ, ρ, ps, h => by
    cases Option.some.inj h
    intro A E W env s pos hr hΓ er
    exact Calls.spliced_nil ⟨Keeps.rfl', Reps.nil⟩
  | e :: es, H, Γ, ρ, ps, h => by
    obtain ⟨p, qs, h1, h2, rfl⟩ := evs_cons (e := tr Γ e) (es := trs Γ es) h
    exact ses_cons ((H e List.mem_cons_self).1 Γ ρ p h1) (evs_of es (fun e he => H e (List.mem_cons_of_mem _ he)) Γ ρ qs h2) (tr_star h1 es)
theorem sts_of : ∀ (es : List Expr), (∀ e ∈ es, Good prog w C lv μ T e) → ∀ Γ ρ b, evAll T μ (trs Γ es) ρ = some b → STs prog w C lv μ Γ es ρ b
  | [], _, Γ, ρ, b, h => by cases Option.some.inj h; exact sts_nil
  | e :: es, H, Γ, ρ, b, h => by
    obtain ⟨x, h1, h⟩ := oP_inv (o := ev T μ (tr Γ e) ρ) (r := b) (f := fun x => match truth x with
      | some true => evAll T μ (trs Γ es) ρ
      | some false => some false
      | none => none) h
    obtain ⟨t, h2, h⟩ := ob_inv h
    have hst := (H e List.mem_cons_self).2 Γ ρ x t h1 h2
    cases t with
    | true => exact sts_cons hst (fun _ => sts_of es (fun e he => H e (List.mem_cons_of_mem _ he)) Γ ρ b h) (fun hh => by cases hh)
    | false =>
      cases Option.some.inj h
      exact sts_cons hst (fun hh => by cases hh) fun _ => rfl
theorem bool_of : ∀ (es : List Expr), (∀ e ∈ es, Good prog w C lv μ T e) → ∀ Γ ρ op p, ev T μ (trBool Γ op es) ρ = some p → SB prog w C lv μ Γ op es ρ p
  | [], _, Γ, ρ, op, p, h => no h
  | [e], H, Γ, ρ, op, p, h => by
    intro A E W env s pos hr hΓ er
    exact (H e List.mem_cons_self).1 Γ ρ p h A E W env s hr hΓ er
  | e :: e2 :: es, H, Γ, ρ, op, p, h => by
    have H2 : ∀ e ∈ e2 :: es, Good prog w C lv μ T e := fun e he => H e (List.mem_cons_of_mem _ he)
    cases op with
    | And =>
      · obtain ⟨x, t, h1, h2, h3⟩ := ev_and (a := tr Γ e) (b := trBool Γ .And (e2 :: es)) h
        refine sb_cons ((H e List.mem_cons_self).1 Γ ρ x h1) h2 (fun hh => ?_) (fun hh => ?_)
        · have : t = true := hh
          subst this; exact bool_of (e2 :: es) H2 Γ ρ .And p h3
        · have : t = false := hh
          subst this; exact h3
    | Or =>
      · obtain ⟨x, t, h1, h2, h3⟩ := ev_or (a := tr Γ e) (b := trBool Γ .Or (e2 :: es)) h
        refine sb_cons ((H e List.mem_cons_self).1 Γ ρ x h1) h2 (fun hh => ?_) (fun hh => ?_)
        · have : t = false := by simpa using hh
          subst this; exact bool_of (e2 :: es) H2 Γ ρ .Or p h3
        · have : t = true := by simpa using hh
          subst this; exact h3
theorem all_of : ∀ (es : List Expr), (∀ e ∈ es, Good prog w C lv μ T e) → ∀ Γ ρ op x b, ev T μ (trBool Γ op es) ρ = some x → truth x = some b → SA prog w C lv μ Γ op es ρ b
  | [], _, Γ, ρ, op, x, b, h, hb => no h
  | [e], H, Γ, ρ, op, x, b, h, hb => by
    exact sa_one ((H e List.mem_cons_self).2 Γ ρ x b h hb)
  | e :: e2 :: es, H, Γ, ρ, op, x, b, h, hb => by
    have H2 : ∀ e ∈ e2 :: es, Good prog w C lv μ T e := fun e he => H e (List.mem_cons_of_mem _ he)
    cases op with
    | And =>
      · obtain ⟨y, t, h1, h2, h3⟩ := ev_and (a := tr Γ e) (b := trBool Γ .And (e2 :: es)) h
        refine sa_cons ((H e List.mem_cons_self).2 Γ ρ y t h1 h2) (fun hh => ?_) (fun hh => ?_)
        · have : t = true := hh
          subst this; exact all_of (e2 :: es) H2 Γ ρ .And x b h3 hb
        · have : t = false := hh
          subst this
          have h3 : x = y := h3
          subst h3; first | exact clash h2 hb | (rw [h2] at hb; cases hb); rfl
    | Or =>
      · obtain ⟨y, t, h1, h2, h3⟩ := ev_or (a := tr Γ e) (b := trBool Γ .Or (e2 :: es)) h
        refine sa_cons ((H e List.mem_cons_self).2 Γ ρ y t h1 h2) (fun hh => ?_) (fun hh => ?_)
        · have : t = false := by simpa using hh
          subst this; exact all_of (e2 :: es) H2 Γ ρ .Or x b h3 hb
        · have : t = true := by simpa using hh
          subst this
          have h3 : x = y := h3
          subst h3; first | exact clash h2 hb | (rw [h2] at hb; cases hb); rfl
theorem join_of : ∀ (es : List Expr), (∀ e ∈ es, Good prog w C lv μ T e) → ∀ Γ ρ ps y, evs T μ (trs Γ es) ρ = some ps → catStrs ps = some y → SJ prog w C lv μ Γ es ρ y
  | [], _, Γ, ρ, ps, y, h, h2 => by cases Option.some.inj h; cases Option.some.inj h2; exact sj_nil
  | e :: es, H, Γ, ρ, ps, y, h, h2 => by
    obtain ⟨p, qs, h3, h4, rfl⟩ := evs_cons (e := tr Γ e) (es := trs Γ es) h
    obtain ⟨x, z, rfl, h5, rfl⟩ := catStrs_cons h2
    exact sj_cons ((H e List.mem_cons_self).1 Γ ρ _ h3) (join_of es (fun e he => H e (List.mem_cons_of_mem _ he)) Γ ρ qs z h4 h5)
end
end Mine
end

section
open PySem PySem.W PyProof.Rows PySem.SeqAt
set_option linter.unusedVariables false
namespace Mine
section
variable {prog : Program} {w : World} {μ : Mu} {C : Cx} {lv : Nat} {T : Str → List PV → Option PV}

theorem good_value {e : Expr} (h : ∀ Γ ρ p, ev T μ (tr Γ e) ρ = some p → SE prog w C lv μ Γ e ρ p) (he : ∀ env whole, PySem.isTrue e env whole = (do let v ← whole; standAt e.pos; holding [v] (truthy v))) : Good prog w C lv μ T e :=
  ⟨h, fun Γ ρ x b hx hb => st_value (h Γ ρ x hx) hb he⟩
theorem good_bad {e : Expr} (h : ∀ Γ ρ, ev T μ (tr Γ e) ρ = none) : Good prog w C lv μ T e :=
  ⟨fun Γ ρ p hp => (by first | exact clash h hp | (rw [h] at hp; cases hp)), fun Γ ρ x b hx hb => (by first | exact clash h hx | (rw [h] at hx; cases hx))⟩

theorem idx_tr {v sl : Expr} {pos : Pos} {Γ : Names} (h : ∀ a b c d, sl ≠ .Slice a b c d) : tr Γ (.Subscript v sl pos) = .idx (tr Γ v) (tr Γ sl) := by
  cases sl with
  | Slice a b c d => exact absurd rfl (h a b c d)
  | _ => rfl

/-- a fact of all the smaller ones -/
noncomputable def Below (prog : Program) (w : World) (C : Cx) (lv : Nat) (μ : Mu) (T : Str → List PV → Option PV) (n : Nat) : Prop := ∀ e : Expr, sizeOf e < n → Good prog w C lv μ T e
section
variable {n : Nat} {Γ : Names} {ρ : Rho} {p : PV}
theorem Below.lst (ih : Below prog w C lv μ T n) {es : List Expr} (h : sizeOf es ≤ n) : ∀ e ∈ es, Good prog w C lv μ T e := fun e he => ih e (Nat.lt_of_lt_of_le (List.sizeOf_lt_of_mem he) h)
theorem Below.opt (ih : Below prog w C lv μ T n) {o : Option Expr} {z : PV} (ho : sizeOf o ≤ n) (hz : ev T μ (trOpt Γ o) ρ = some z) (A : Around) (E : Value → Shared → Prop) (W : Addr → Prop) (env : Env) (s : Shared) (hr : Room lv A) (hΓ : env.scope.names = Γ) (er : ER C W env s ρ μ) :
    wpAny (model prog w) A (evalPart o env) (fun v s' => Post W s z v s' ∧ s.toks ≤ s'.toks) E s := by
  cases o with
  | none => cases Option.some.inj hz; exact part_none A E W env s hr hΓ er
  | some e => exact part_some ((ih e (Nat.lt_of_lt_of_le (by rw [Option.some.sizeOf_spec]; lia) ho)).1 Γ ρ z hz) A E W env s hr hΓ er
theorem good_un {op : PySem.UnaryOp} {x : Expr} {pos : Pos} (gx : Good prog w C lv μ T x) : Good prog w C lv μ T (.UnaryOp op x pos) := by
  cases op with
  | USub =>
    refine good_value (fun Γ ρ p h => ?_) fun _ _ => rfl
    obtain ⟨i, h1, rfl⟩ := ev_neg h
    exact neg_sound (gx.1 Γ ρ _ h1)
  | Not =>
    refine ⟨fun Γ ρ p h => ?_, fun Γ ρ y b h hb => ?_⟩
    · obtain ⟨q, b, h1, h2, rfl⟩ := ev_not h
      exact not_sound (gx.1 Γ ρ _ h1) h2
    · obtain ⟨q, c, h1, h2, rfl⟩ := ev_not h
      cases Option.some.inj hb
      exact not_st (gx.2 Γ ρ q c h1 h2)
  | _ => exact good_bad fun Γ ρ => rfl
theorem good_bool {op : PySem.BoolOp} {vs : List Expr} {pos : Pos} (H : ∀ e ∈ vs, Good prog w C lv μ T e) : Good prog w C lv μ T (.BoolOp op vs pos) := by
  cases vs with
  | nil => exact good_bad fun Γ ρ => rfl
  | cons a vs => cases vs with
    | nil => exact good_bad fun Γ ρ => rfl
    | cons b vs =>
      refine ⟨fun Γ ρ p h A E W env s hr hΓ er => ?_, fun Γ ρ y b' h hb A E W env s hr hΓ er => ?_⟩
      · rw [arm_eval_BoolOp]
        exact bool_of _ H Γ ρ op p h A E W env s pos hr hΓ er
      · exact wpAny_isTrue_BoolOp (all_of _ H Γ ρ op y b' h hb A E W env s hr hΓ er)
theorem good_cmp {l : Expr} {ops : List CmpOp} {cs : List Expr} {pos : Pos} (gl : Good prog w C lv μ T l) (H : ∀ e ∈ cs, Good prog w C lv μ T e) : Good prog w C lv μ T (.Compare l ops cs pos) := by
  cases ops with
  | nil => exact good_bad fun Γ ρ => rfl
  | cons op ops => cases ops with
    | cons _ _ => exact good_bad fun Γ ρ => rfl
    | nil => cases cs with
      | nil => exact good_bad fun Γ ρ => rfl
      | cons r cs => cases cs with
        | cons _ _ => exact good_bad fun Γ ρ => rfl
        | nil =>
          refine ⟨fun Γ ρ p h => ?_, fun Γ ρ y b h hb => ?_⟩
          · obtain ⟨x, y, h1, h2, h3⟩ := ev_cmp h
            exact cmp_sound (gl.1 Γ ρ x h1) ((H r List.mem_cons_self).1 Γ ρ y h2) h3 (marks_of h2)
          · obtain ⟨x, z, h1, h2, h3⟩ := ev_cmp h
            exact cmp_st (gl.1 Γ ρ x h1) ((H r List.mem_cons_self).1 Γ ρ z h2) h3 hb (marks_of h2)
theorem good_ite {c a b : Expr} {pos : Pos} (gc : Good prog w C lv μ T c) (ga : Good prog w C lv μ T a) (gb : Good prog w C lv μ T b) : Good prog w C lv μ T (.IfExp c a b pos) := by
  refine ⟨fun Γ ρ p h => ?_, fun Γ ρ y r h hb => ?_⟩
  · obtain ⟨x, t, h1, h2, h3⟩ := ev_ite h
    refine ite_sound (gc.2 Γ ρ x t h1 h2) ?_
    cases t
    · exact gb.1 Γ ρ p h3
    · exact ga.1 Γ ρ p h3
  · obtain ⟨x, t, h1, h2, h3⟩ := ev_ite h
    refine ite_st (gc.2 Γ ρ x t h1 h2) ?_
    cases t
    · exact gb.2 Γ ρ y r h3 hb
    · exact ga.2 Γ ρ y r h3 hb
theorem ev_if {c : Prop} [Decidable c] {a : MExpr} (h : ev T μ (if c then a else .bad) ρ = some p) : c ∧ ev T μ a ρ = some p := by
  by_cases hc : c
  · rw [if_pos hc] at h; exact ⟨hc, h⟩
  · rw [if_neg hc] at h; exact no h
theorem good_fcall (hC : CxOk C) (hT : TOk prog w C lv T) {f : Str} {np pos : Pos} {args : List Expr} (H : ∀ e ∈ args, Good prog w C lv μ T e) : Good prog w C lv μ T (.Call (.Name f np) args [] pos) := by
  refine good_value (fun Γ ρ p h => ?_) fun _ _ => rfl
  obtain ⟨hg, h⟩ := ev_if h
  obtain ⟨g1, g2⟩ := Bool.and_eq_true_iff.mp hg
  obtain ⟨xs, h1, h2⟩ := oL_inv (o := evs T μ (trs Γ args) ρ) (f := fun xs => if f ∈ biNames then evCall μ f xs else
      if xs.all notOwn then T f xs else match T f (xs.map (rs μ)) with
        | some r => if flat r then some r else none
        | none => none) h
  exact call_sound hC hT (evs_of args H Γ ρ xs h1) h1 (beq_iff_eq.mp g1) (by simpa using g2) h2
theorem str_repl_not (hC : CxOk C) {args : List PV} {r : PV} (h : FnOk prog w C lv "str.replace" args r) : ReplOk C args r := by
  have hn : C.mg "str.replace" = none := (hC.bi "str.replace" (by decide)).1
  cases h with
  | repl _ h => exact h
  | user h => obtain ⟨a, o, fd, h1, _⟩ := h; exact clash hn h1
  | bi h =>
    obtain ⟨id, _, h2, _⟩ := h
    rw [(hC.bi "str.replace" (by decide)).2] at h2
    exact clash (by decide +kernel : bootBuiltins "str.replace" = none) h2
theorem meth_of (hC : CxOk C) (hT : TOk prog w C lv T) {o : Expr} {m : Str} {apos pos : Pos} {args : List Expr} (go : Good prog w C lv μ T o) (H : ∀ e ∈ args, Good prog w C lv μ T e) (ho : ∀ f a k q, o ≠ .Call f a k q)
    (h : ev T μ (if (apos.endLine == pos.line && decide (args.length < 20)) = true then trMeth (tr Γ o) m args (trs Γ args) else .bad) ρ = some p) : SE prog w C lv μ Γ (.Call (.Attribute o m apos) args [] pos) ρ p := by
  obtain ⟨hl, h⟩ := ev_if h
  obtain ⟨l1, l2⟩ := Bool.and_eq_true_iff.mp hl
  rcases trMeth_cases (tr Γ o) m args (trs Γ args) with e | e | ⟨a, b, y, z, rfl, rfl, ha, hb, e⟩ <;> rw [e] at h
  · exact no h
  · obtain ⟨x, xs, h1, h2, h3⟩ := ev_meth h
    exact meth_sound (go.1 Γ ρ x h1) (evs_of args H Γ ρ xs h2) h2 (base_of ho) l1 (decide_eq_true_eq.mp l2) h3
  · obtain ⟨x, h1, h2⟩ := ev_repl h
    exact replm_sound (go.1 Γ ρ _ h1) ha hb (base_of ho) l1 (str_repl_not hC (hT _ _ _ h2).2)
theorem good_mcall (hC : CxOk C) (hT : TOk prog w C lv T) {o : Expr} {m : Str} {apos pos : Pos} {args : List Expr} (go : Good prog w C lv μ T o) (H : ∀ e ∈ args, Good prog w C lv μ T e) : Good prog w C lv μ T (.Call (.Attribute o m apos) args [] pos) := by
  refine good_value (fun Γ ρ p h => ?_) fun _ _ => rfl
  cases o with
  | Call _ _ _ _ => exact no h
  | _ => exact meth_of hC hT go H nofun h
theorem good_comp1 (hC : CxOk C) (hT : TOk prog w C lv T) {elt t it : Expr} {ifs : List Expr} {sc : Scope} {pos : Pos} (ge : Good prog w C lv μ T elt) (gi : Good prog w C lv μ T it) (gf : ∀ e ∈ ifs, Good prog w C lv μ T e) (h : ev T μ (tr Γ (.ListComp elt [⟨t, it, ifs, 0⟩] sc pos)) ρ = some p) :
    ∃ ys, p = .lst ys ∧ ys.length ≤ SZ ∧ CompS prog w C lv μ Γ elt [⟨t, it, ifs, 0⟩] sc pos ρ ys := by
  obtain ⟨hg, h⟩ := ev_if h
  obtain ⟨g1, g2⟩ := Bool.and_eq_true_iff.mp hg
  exact comp1_sound (pos := pos) g1 g2 (fun ρ p => gi.1 Γ ρ p) (fun ρ p => ge.1 _ ρ p) (fun ρ b => sts_of ifs gf _ ρ b) h
theorem good_comp2 (hC : CxOk C) (hT : TOk prog w C lv T) {elt t it t2 it2 : Expr} {ifs ifs2 : List Expr} {sc : Scope} {pos : Pos} (ge : Good prog w C lv μ T elt) (gi : Good prog w C lv μ T it) (gf : ∀ e ∈ ifs, Good prog w C lv μ T e) (gi2 : Good prog w C lv μ T it2) (gf2 : ∀ e ∈ ifs2, Good prog w C lv μ T e)
    (h : ev T μ (tr Γ (.ListComp elt [⟨t, it, ifs, 0⟩, ⟨t2, it2, ifs2, 0⟩] sc pos)) ρ = some p) : ∃ ys, p = .lst ys ∧ ys.length ≤ SZ ∧ CompS prog w C lv μ Γ elt [⟨t, it, ifs, 0⟩, ⟨t2, it2, ifs2, 0⟩] sc pos ρ ys := by
  obtain ⟨hg, h⟩ := ev_if h
  obtain ⟨hg, g4⟩ := Bool.and_eq_true_iff.mp hg
  obtain ⟨hg, g3⟩ := Bool.and_eq_true_iff.mp hg
  obtain ⟨g1, g2⟩ := Bool.and_eq_true_iff.mp hg
  exact comp2_sound (pos := pos) g1 g2 g3 g4 (fun ρ p => gi.1 Γ ρ p) (fun ρ p => ge.1 _ ρ p) (fun ρ b => sts_of ifs gf _ ρ b) (fun ρ p => gi2.1 _ ρ p) (fun ρ b => sts_of ifs2 gf2 _ ρ b) h
/-- the two kinds of rows of clauses that are told -/
theorem gens_cases {elt : Expr} {gens : List Comprehension} {sc : Scope} {pos : Pos} (h : ev T μ (tr Γ (.ListComp elt gens sc pos)) ρ = some p) :
    (∃ t it ifs, gens = [⟨t, it, ifs, 0⟩]) ∨ ∃ t it ifs t2 it2 ifs2, gens = [⟨t, it, ifs, 0⟩, ⟨t2, it2, ifs2, 0⟩] := by
  cases gens with
  | nil => exact no h
  | cons g gens =>
    obtain ⟨t, it, ifs, as⟩ := g
    cases gens with
    | nil => cases as with
      | negSucc _ => exact no h
      | ofNat k => cases k with
        | succ _ => exact no h
        | zero => exact .inl ⟨t, it, ifs, rfl⟩
    | cons g2 gens =>
      obtain ⟨t2, it2, ifs2, as2⟩ := g2
      cases as with
      | negSucc _ => exact no h
      | ofNat k => cases k with
        | succ _ => exact no h
        | zero => cases as2 with
          | negSucc _ => exact no h
          | ofNat k2 => cases k2 with
            | succ _ => exact no h
            | zero => cases gens with
              | cons _ _ => exact no h
              | nil => exact .inr ⟨t, it, ifs, t2, it2, ifs2, rfl⟩
end

theorem good (hC : CxOk C) (hT : TOk prog w C lv T) : ∀ (n : Nat), Below prog w C lv μ T n := by
  intro n
  induction n with
  | zero => intro e h; exact absurd h (Nat.not_lt_zero _)
  | succ n ih =>
  intro e hn
  cases e with
  | Constant c k pos => exact good_value (fun Γ ρ p h => const_sound h) fun _ _ => rfl
  | Name x pos => exact good_value (fun Γ ρ p h => name_sound' h) fun _ _ => rfl
  | BinOp l op r pos =>
    rw [Expr.BinOp.sizeOf_spec] at hn
    refine good_value (fun Γ ρ p h => ?_) fun _ _ => rfl
    obtain ⟨x, y, h1, h2, h3⟩ := ev_bin h
    exact bin_sound ((ih l (by lia)).1 Γ ρ x h1) ((ih r (by lia)).1 Γ ρ y h2) h3
  | UnaryOp op x pos =>
    rw [Expr.UnaryOp.sizeOf_spec] at hn
    exact good_un (ih x (by lia))
  | BoolOp op vs pos =>
    rw [Expr.BoolOp.sizeOf_spec] at hn
    exact good_bool (ih.lst (by lia))
  | Compare l ops cs pos =>
    rw [Expr.Compare.sizeOf_spec] at hn
    exact good_cmp (ih l (by lia)) (ih.lst (by lia))
  | IfExp c a b pos =>
    rw [Expr.IfExp.sizeOf_spec] at hn
    exact good_ite (ih c (by lia)) (ih a (by lia)) (ih b (by lia))
  | Subscript v sl pos =>
    rw [Expr.Subscript.sizeOf_spec] at hn
    refine good_value (fun Γ ρ p h => ?_) fun _ _ => rfl
    have gv := ih v (by lia)
    by_cases hs : ∃ a b c d, sl = .Slice a b c d
    · obtain ⟨lo, hi, st, q, rfl⟩ := hs
      rw [Expr.Slice.sizeOf_spec] at hn
      obtain ⟨x, l, u, k, h1, h2, h3, h4, h5⟩ := ev_slc h
      exact slc_sound (gv.1 Γ ρ x h1) (ih.opt (by lia) h2) (ih.opt (by lia) h3) (ih.opt (by lia) h4) h5
    · rw [idx_tr fun a b c d e => hs ⟨a, b, c, d, e⟩] at h
      obtain ⟨x, i, h1, h2, h3⟩ := ev_idx h
      exact idx_sound (gv.1 Γ ρ x h1) ((ih sl (by lia)).1 Γ ρ i h2) h3
  | List es pos =>
    rw [Expr.List.sizeOf_spec] at hn
    refine good_value (fun Γ ρ p h => ?_) fun _ _ => rfl
    obtain ⟨xs, h1, h2, rfl⟩ := ev_lst h
    intro A E W env s hr hΓ er
    exact wpAny_mono (list_sound (evs_of es (ih.lst (by lia)) Γ ρ xs h1) h2 hr hΓ er) (fun v s' hp => hp.post er.sr) fun _ _ e => e
  | Tuple es k pos =>
    rw [Expr.Tuple.sizeOf_spec] at hn
    refine good_value (fun Γ ρ p h => ?_) fun _ _ => rfl
    obtain ⟨xs, h1, h2, rfl⟩ := ev_tup h
    intro A E W env s hr hΓ er
    exact tuple_sound (evs_of es (ih.lst (by lia)) Γ ρ xs h1) h2 hr hΓ er
  | Call fn args kws pos =>
    rw [Expr.Call.sizeOf_spec] at hn
    have H := ih.lst (es := args) (by lia)
    cases fn with
    | Name f np =>
      cases kws with
      | nil => exact good_fcall hC hT H
      | cons _ _ => exact good_bad fun Γ ρ => rfl
    | Attribute o m apos =>
      cases kws with
      | nil =>
        rw [Expr.Attribute.sizeOf_spec] at hn
        exact good_mcall hC hT (ih o (by lia)) H
      | cons _ _ => exact good_bad fun Γ ρ => rfl
    | _ => exact good_bad fun Γ ρ => rfl
  | JoinedStr vs pos =>
    rw [Expr.JoinedStr.sizeOf_spec] at hn
    refine good_value (fun Γ ρ p h => ?_) fun _ _ => rfl
    obtain ⟨xs, y, h1, h2, h3, h4, rfl⟩ := ev_fstr h
    refine fstr_sound (join_of vs (ih.lst (by lia)) Γ ρ xs y h1 h2) h3 ?_
    rw [trs_len] at h4; exact h4
  | FormattedValue v conv spec pos =>
    rw [Expr.FormattedValue.sizeOf_spec] at hn
    have gv := ih v (by lia)
    cases spec with
    | some _ => cases conv with
      | ofNat _ => exact good_bad fun Γ ρ => rfl
      | negSucc k => cases k <;> exact good_bad fun Γ ρ => rfl
    | none => cases conv with
      | ofNat _ => exact good_bad fun Γ ρ => rfl
      | negSucc k => cases k with
        | succ _ => exact good_bad fun Γ ρ => rfl
        | zero =>
          refine good_value (fun Γ ρ p h => ?_) fun _ _ => rfl
          obtain ⟨x, h1, rfl⟩ := ev_fmt h
          exact fmt_sound (gv.1 Γ ρ _ h1)
  | ListComp elt gens sc pos =>
    rw [Expr.ListComp.sizeOf_spec] at hn
    refine good_value (fun Γ ρ p h => ?_) fun _ _ => rfl
    rcases gens_cases h with ⟨t, it, ifs, rfl⟩ | ⟨t, it, ifs, t2, it2, ifs2, rfl⟩
    · rw [List.cons.sizeOf_spec, Comprehension.mk.sizeOf_spec] at hn
      obtain ⟨ys, rfl, _, hs⟩ := good_comp1 hC hT (ih elt (by lia)) (ih it (by lia)) (ih.lst (by lia)) h
      exact compS_se hs
    · rw [List.cons.sizeOf_spec, List.cons.sizeOf_spec, Comprehension.mk.sizeOf_spec, Comprehension.mk.sizeOf_spec] at hn
      obtain ⟨ys, rfl, _, hs⟩ := good_comp2 hC hT (ih elt (by lia)) (ih it (by lia)) (ih.lst (by lia)) (ih it2 (by lia)) (ih.lst (by lia)) h
      exact compS_se hs
  | _ => exact good_bad fun Γ ρ => rfl

theorem ev_sound (hC : CxOk C) (hT : TOk prog w C lv T) {e : Expr} {Γ : Names} {ρ : Rho} {p : PV} (h : ev T μ (tr Γ e) ρ = some p) : SE prog w C lv μ Γ e ρ p := (good hC hT _ e (Nat.lt_succ_self _)).1 Γ ρ p h
theorem st_sound (hC : CxOk C) (hT : TOk prog w C lv T) {e : Expr} {Γ : Names} {ρ : Rho} {x : PV} {b : Bool} (h : ev T μ (tr Γ e) ρ = some x) (hb : truth x = some b) : ST prog w C lv μ Γ e ρ b := (good hC hT _ e (Nat.lt_succ_self _)).2 Γ ρ x b h hb
theorem evs_sound (hC : CxOk C) (hT : TOk prog w C lv T) {es : List Expr} {Γ : Names} {ρ : Rho} {ps : List PV} (h : evs T μ (trs Γ es) ρ = some ps) : SEs prog w C lv μ Γ es ρ ps := evs_of es (fun e _ => good hC hT _ e (Nat.lt_succ_self _)) Γ ρ ps h
/-- a comprehension by itself -/
theorem comp_sound (hC : CxOk C) (hT : TOk prog w C lv T) {elt : Expr} {gens : List Comprehension} {sc : Scope} {pos : Pos} {Γ : Names} {ρ : Rho} {p : PV} (h : ev T μ (tr Γ (.ListComp elt gens sc pos)) ρ = some p) :
    ∃ ys, p = .lst ys ∧ ys.length ≤ SZ ∧ CompS prog w C lv μ Γ elt gens sc pos ρ ys := by
  have G : ∀ e, Good prog w C lv μ T e := fun e => good hC hT _ e (Nat.lt_succ_self _)
  rcases gens_cases h with ⟨t, it, ifs, rfl⟩ | ⟨t, it, ifs, t2, it2, ifs2, rfl⟩
  · exact good_comp1 hC hT (G _) (G _) (fun e _ => G e) h
  · exact good_comp2 hC hT (G _) (G _) (fun e _ => G e) (G _) (fun e _ => G e) h
end
end Mine
end

section
open PySem PySem.W PyProof.Rows PySem.SeqAt
set_option linter.unusedVariables false
namespace Mine

inductive Ctl where
  | next
  | brk
  | ret (p : PV)

/-- what a running function may write: its table of names, its cells, its lists -/
noncomputable def Wof (env : Env) (μ : Mu) : Addr → Prop := fun a => a = env.locals ∨ (∃ x, env.cells.lookup x = some a) ∨ (μ a).isSome = true

/-- a function's state, told: V is what its callers may write, G what stays -/
structure FR (C : Cx) (env : Env) (V : Addr → Prop) (G : Gr) (s₀ s : Shared) (ρ : Rho) (μ : Mu) : Prop where
  er : ER C (fun a => Wof env μ a ∨ V a) env s ρ μ
  ns : ∃ m, s.heap.Ns env.locals m
  shape : ∃ h tk, s = { s₀ with heap := h, toks := tk }
  prot : ∀ a o, G a o → s.heap.get? a = some o
  apart : ∀ a o, G a o → ¬ Wof env μ a
  vd : ∀ a, V a → ¬ Wof env μ a

noncomputable def FlowOk (W : Addr → Prop) (s : Shared) (fl : Flow) : Ctl → Prop
  | .next => fl = .next
  | .brk => fl = .brk
  | .ret p => ∃ v, fl = .ret v ∧ Rep (frz s.heap W) p v

noncomputable abbrev CPost := Ctl → Rho → Mu → Prop

inductive Out (C : Cx) (env : Env) (V : Addr → Prop) (G : Gr) (s₀ : Shared) (R : CPost) (fl : Flow) (s' : Shared) : Prop
  | mk (c : Ctl) (ρ' : Rho) (μ' : Mu) (hR : R c ρ' μ') (hf : FlowOk (fun a => Wof env μ' a ∨ V a) s' fl c) (fr : FR C env V G s₀ s' ρ' μ')

noncomputable def Sat1 (prog : Program) (w : World) (C : Cx) (lv : Nat) (Γ : Names) (m : MStmt) (ρ : Rho) (μ : Mu) (R : CPost) : Prop :=
  ∀ (st : Stmt), trS Γ st = m → ∀ (A : Around) (E : Value → Shared → Prop) (V : Addr → Prop) (env : Env) (G : Gr) (s₀ s : Shared), Room lv A → env.scope.names = Γ → FR C env V G s₀ s ρ μ →
    wpAny (model prog w) A (exec st env) (Out C env V G s₀ R) E s
noncomputable def SatM (prog : Program) (w : World) (C : Cx) (lv : Nat) (Γ : Names) (ms : List MStmt) (ρ : Rho) (μ : Mu) (R : CPost) : Prop :=
  ∀ (ss : List Stmt), trSs Γ ss = ms → ∀ (A : Around) (E : Value → Shared → Prop) (V : Addr → Prop) (env : Env) (G : Gr) (s₀ s : Shared), Room lv A → env.scope.names = Γ → FR C env V G s₀ s ρ μ →
    wpAny (model prog w) A (execs ss env) (Out C env V G s₀ R) E s

/-- what comes behind a statement -/
noncomputable def Then (prog : Program) (w : World) (C : Cx) (lv : Nat) (Γ : Names) (ms : List MStmt) (R : CPost) : CPost
  | .next, ρ, μ => SatM prog w C lv Γ ms ρ μ R
  | c, ρ, μ => R c ρ μ

section
variable {prog : Program} {w : World} {C : Cx} {lv : Nat} {Γ : Names} {A : Around} {E : Value → Shared → Prop} {V : Addr → Prop} {env : Env} {G : Gr} {s₀ s s₁ : Shared} {ρ ρ' : Rho} {μ μ' : Mu} {R R' : CPost} {T : Str → List PV → Option PV}

theorem sat_nil (h : R .next ρ μ) : SatM prog w C lv Γ [] ρ μ R := by
  intro ss hss A E V env G s₀ s hr hΓ fr
  cases ss with
  | nil => exact wpAny_execs_nil ⟨.next, ρ, μ, h, rfl, fr⟩
  | cons _ _ => cases hss

theorem sat_cons {m : MStmt} {ms : List MStmt} (h : Sat1 prog w C lv Γ m ρ μ (Then prog w C lv Γ ms R)) : SatM prog w C lv Γ (m :: ms) ρ μ R := by
  intro ss hss A E V env G s₀ s hr hΓ fr
  cases ss with
  | nil => cases hss
  | cons st ss =>
    have hss : trS Γ st :: trSs Γ ss = m :: ms := hss
    injection hss with h1 h2
    refine wpAny_execs_cons (wpAny_mono (h st h1 A E V env G s₀ s hr hΓ fr) (fun fl s' ho => ?_) fun _ _ e => e)
    obtain ⟨c, ρ', μ', hR, hfl, fr'⟩ := ho
    cases c with
    | next =>
      have : fl = .next := hfl
      subst this
      exact hR ss h2 A E V env G s₀ s' hr hΓ fr'
    | brk =>
      have : fl = .brk := hfl
      subst this
      exact ⟨.brk, ρ', μ', hR, rfl, fr'⟩
    | ret p =>
      obtain ⟨v, rfl, rv⟩ := hfl
      exact ⟨.ret p, ρ', μ', hR, ⟨v, rfl, rv⟩, fr'⟩

theorem Out.mono {fl : Flow} (h : Out C env V G s₀ R fl s) (hR : ∀ c ρ μ, R c ρ μ → R' c ρ μ) : Out C env V G s₀ R' fl s := by
  obtain ⟨c, ρ', μ', h1, h2, h3⟩ := h
  exact ⟨c, ρ', μ', hR _ _ _ h1, h2, h3⟩
theorem SatM.mono {ms : List MStmt} (h : SatM prog w C lv Γ ms ρ μ R) (hR : ∀ c ρ μ, R c ρ μ → R' c ρ μ) : SatM prog w C lv Γ ms ρ μ R' :=
  fun ss hss A E V env G s₀ s hr hΓ fr => wpAny_mono (h ss hss A E V env G s₀ s hr hΓ fr) (fun fl s' ho => ho.mono hR) fun _ _ e => e

theorem FR.keeps (fr : FR C env V G s₀ s ρ μ) (k : Keeps s s₁) (ht : s.toks ≤ s₁.toks) : FR C env V G s₀ s₁ ρ μ := by
  obtain ⟨m, hm⟩ := fr.ns
  obtain ⟨h, tk, rfl⟩ := fr.shape
  refine ⟨fr.er.keeps k ht, ⟨m, hm.keeps (Keeps.k k)⟩, ?_, fun a o g => Keeps.k k _ _ (fr.prot a o g), fr.apart, fr.vd⟩
  obtain ⟨h1, t1, rfl, _⟩ := k
  exact ⟨h1, t1, rfl⟩

/-- within the function's own writable things a step was made -/
theorem FR.step {M : Addr → Prop} (fr : FR C env V G s₀ s ρ μ) (kb : KB M s s₁) (hM : ∀ a, M a → Wof env μ a) (er : ER C (fun a => Wof env μ' a ∨ V a) env s₁ ρ' μ') (ns : ∃ m, s₁.heap.Ns env.locals m)
    (hμ : ∀ a, (μ' a).isSome = true → (μ a).isSome = true ∨ s.heap.get? a = none) : FR C env V G s₀ s₁ ρ' μ' := by
  obtain ⟨h, tk, rfl⟩ := fr.shape
  refine ⟨er, ns, ?_, fun a o g => kb.2.1 a o (fun hm => fr.apart a o g (hM a hm)) (fr.prot a o g), fun a o g hw => ?_, fun a hv hw => ?_⟩
  · obtain ⟨⟨h1, t1, rfl⟩, _, _⟩ := kb; exact ⟨h1, t1, rfl⟩
  · rcases hw with h1 | h1 | h1
    · exact fr.apart a o g (.inl h1)
    · exact fr.apart a o g (.inr (.inl h1))
    · rcases hμ a h1 with h2 | h2
      · exact fr.apart a o g (.inr (.inr h2))
      · rw [fr.prot a o g] at h2; cases h2
  · rcases hw with h1 | h1 | h1
    · exact fr.vd a hv (.inl h1)
    · exact fr.vd a hv (.inr (.inl h1))
    · rcases hμ a h1 with h2 | h2
      · exact fr.vd a hv (.inr (.inr h2))
      · obtain ⟨o, ho⟩ := fr.er.sr.wl a (.inr hv)
        first | exact clash ho h2 | (rw [ho] at h2; cases h2)

noncomputable def ownOf (Γ : Names) (x : Str) : Prop := Γ.lookup x = some .local ∨ Γ.lookup x = some .cell

theorem slot_W (fr : FR C env V G s₀ s ρ μ) (hΓ : env.scope.names = Γ) {x : Str} (hx : ownOf Γ x) : (env.kindOf x = some .local ∨ env.kindOf x = some .cell) ∧ Wof env μ (slotOf env x) := by
  have hk : env.kindOf x = some .local ∨ env.kindOf x = some .cell := by
    rcases hx with h | h
    · exact .inl (by show env.scope.names.lookup x = _; rw [hΓ]; exact h)
    · exact .inr (by show env.scope.names.lookup x = _; rw [hΓ]; exact h)
  refine ⟨hk, ?_⟩
  rcases hk with hk | hk
  · exact .inl (by simp [slotOf, hk])
  · obtain ⟨c, cv, hc, _⟩ := fr.er.has x (.inl hk)
    exact .inr (.inl ⟨x, by simp [slotOf, hk, hc]⟩)

/-- a name is bound -/
theorem fr_store {x : Str} {p : PV} {v : Value} (fr : FR C env V G s₀ s ρ μ) (hΓ : env.scope.names = Γ) (hx : ownOf Γ x) (rv : Rep (frz s.heap (fun a => Wof env μ a ∨ V a)) p v) :
    wpAny (model prog w) A (storeName env x v) (fun _ s' => FR C env V G s₀ s' (upd ρ x p) μ) E s := by
  obtain ⟨hk, hw⟩ := slot_W fr hΓ hx
  refine wpAny_mono (store_KB (M := fun a => a = slotOf env x) fr.er fr.ns hk (.inl hw) rfl rv) (fun _ s' h => ?_) fun _ _ e => e
  exact fr.step h.1 (fun a ha => ha ▸ hw) h.2.1 h.2.2 fun a ha => .inl ha

theorem fr_assign {tgt : Expr} {q : PV} {v : Value} (fr : FR C env V G s₀ s ρ μ) (hr : Room lv A) (hΓ : env.scope.names = Γ) (hb : bindT ρ (trTgt tgt) q = some ρ') (hx : ∀ x ∈ tgtNames (trTgt tgt), ownOf Γ x) (rv : Rep (frz s.heap (fun a => Wof env μ a ∨ V a)) q v) :
    wpAny (model prog w) A (assign tgt env v) (fun _ s' => FR C env V G s₀ s' ρ' μ) E s := by
  refine wpAny_mono (assign_sound (M := fun b => ∃ x ∈ tgtNames (trTgt tgt), b = slotOf env x) hr.hd hb fr.er fr.ns (fun x hxx => ?_) (fun b ⟨x, hxx, e⟩ => ?_) rv) (fun _ s' h => ?_) fun _ _ e => e
  · obtain ⟨hk, hw⟩ := slot_W fr hΓ (hx x hxx)
    exact ⟨hk, .inl hw, x, hxx, rfl⟩
  · subst e; exact .inl (slot_W fr hΓ (hx x hxx)).2
  · exact fr.step h.1 (fun a ⟨x, hxx, e⟩ => e ▸ (slot_W fr hΓ (hx x hxx)).2) h.2.1 h.2.2 fun a ha => .inl ha

theorem FR.evStep {e : Expr} {p : PV} {Q : Value → Shared → Prop} (hC : CxOk C) (hT : TOk prog w C lv T) (fr : FR C env V G s₀ s ρ μ) (hr : Room lv A) (hΓ : env.scope.names = Γ) (h : ev T μ (tr Γ e) ρ = some p)
    (k : ∀ v s₁, FR C env V G s₀ s₁ ρ μ → Rep (frz s₁.heap (fun a => Wof env μ a ∨ V a)) p v → Q v s₁) : wpAny (model prog w) A (eval e env) Q E s :=
  wpAny_with_toks (n := s.toks) (Nat.le_refl _) (wpAny_mono (ev_sound hC hT h A _ _ env s hr hΓ fr.er) (fun v s₁ h₁ ht => k v s₁ (fr.keeps h₁.1 ht) h₁.2) fun _ _ e => e)
theorem FR.stStep {e : Expr} {x : PV} {b : Bool} {Q : Bool → Shared → Prop} (hC : CxOk C) (hT : TOk prog w C lv T) (fr : FR C env V G s₀ s ρ μ) (hr : Room lv A) (hΓ : env.scope.names = Γ) (h : ev T μ (tr Γ e) ρ = some x) (hb : truth x = some b)
    (k : ∀ s₁, FR C env V G s₀ s₁ ρ μ → Q b s₁) : wpAny (model prog w) A (PySem.isTrue e env (eval e env)) Q E s :=
  wpAny_with_toks (n := s.toks) (Nat.le_refl _) (wpAny_mono (st_sound hC hT h hb A _ _ env s hr hΓ fr.er) (fun v s₁ h₁ ht => by obtain ⟨rfl, k1⟩ := h₁; exact k s₁ (fr.keeps k1 ht)) fun _ _ e => e)

theorem swaps_pure (v : Expr) (x : Str) (px : Pos) (l : Nat) (env : Env) : (swapsWith v (some (.Name x px)) l env = pure false) ∨ ((∃ b, swapsWith v (some (.Name x px)) l env = pure b) ∧ (tr Γ v = .bad ∨ ∃ a b c d, v = .ListComp a b c d)) := by
  cases v with
  | ListComp a b c d => exact .inr ⟨⟨_, rfl⟩, .inr ⟨a, b, c, d, rfl⟩⟩
  | SetComp _ _ _ _ => exact .inr ⟨⟨_, rfl⟩, .inl rfl⟩
  | DictComp _ _ _ _ _ => exact .inr ⟨⟨_, rfl⟩, .inl rfl⟩
  | _ => exact .inl rfl

theorem er_drop {W W' : Addr → Prop} {a : Addr} {h' : Heap} {tk : Nat} (er : ER C W env s ρ μ) (hk : ∀ b o, b ≠ a → s.heap.get? b = some o → h'.get? b = some o) (htk : s.toks ≤ tk) (hw : W a) (hl : env.locals ≠ a)
    (hcell : ∀ x c, env.cells.lookup x = some c → c ≠ a) (hμ : μ a = none) (hW : ∀ b, W' b → W b ∧ b ≠ a) : ER C W' env { s with heap := h', toks := tk } ρ μ := by
  have hf : ∀ b o, frz s.heap W b o → frz h' W' b o := fun b o x => ⟨hk b o (fun e => x.2 (e ▸ hw)) x.1, fun h => x.2 (hW b h).1⟩
  refine ⟨er.kind, er.gl, er.bl, fun b o e => hk b o (fun eb => ?_) (er.base b o e), fun b hb => er.wb b (hW b hb).1, ⟨fun b hb => ?_, fun b xs hx => ?_⟩, fun x p hx => ?_, Nat.le_trans er.tk htk, fun x hx => ?_, er.apart, fun x c hc => ?_⟩
  · have := er.wb a hw; rw [← eb, e] at this; cases this
  · obtain ⟨o, ho⟩ := er.sr.wl b (hW b hb).1; exact ⟨o, hk b o (hW b hb).2 ho⟩
  · obtain ⟨us, j, h1, h2, h3⟩ := er.sr.ls b xs hx
    exact ⟨us, j, hk _ _ (fun ea => by rw [ea, hμ] at hx; cases hx) h1, h2, Reps.mono hf _ _ h3⟩
  · obtain ⟨v, h1, h2⟩ := er.vars x p hx
    refine ⟨v, ?_, Rep.mono hf _ _ h2⟩
    rcases h1 with ⟨k1, m1, hn1, hm1⟩ | ⟨k1, c, hc, hi⟩
    · exact .inl ⟨k1, m1, hn1.at' fun o e => hk _ o hl e, hm1⟩
    · obtain ⟨o, ho, hd'⟩ := hi
      exact .inr ⟨k1, c, hc, o, hk _ _ (hcell x c hc) ho, hd'⟩
  · obtain ⟨c, cv, h1, o, ho, hd'⟩ := er.has x hx
    exact ⟨c, cv, h1, o, hk _ _ (hcell x c h1) ho, hd'⟩
  · obtain ⟨cv, o, ho, hd'⟩ := er.cel x c hc
    exact ⟨cv, o, hk _ _ (hcell x c hc) ho, hd'⟩

theorem exec_assign {x : Str} {px pos : Pos} {v : Expr} {p : PV} (hC : CxOk C) (hT : TOk prog w C lv T) (fr : FR C env V G s₀ s ρ μ) (hr : Room lv A) (hΓ : env.scope.names = Γ) (hx : ownOf Γ x) (h : ev T μ (tr Γ v) ρ = some p) :
    wpAny (model prog w) A (exec (.Assign [.Name x px] v pos) env) (fun fl s' => fl = .next ∧ FR C env V G s₀ s' (upd ρ x p) μ) E s := by
  have hsw : ∃ b, swapsWith v (some (.Name x px)) pos.line env = pure b ∧ (b = true → ∃ a b c d, v = .ListComp a b c d) := by
    rcases swaps_pure (Γ := Γ) v x px pos.line env with hb | ⟨⟨b, hb⟩, hv | hv⟩
    · exact ⟨false, hb, fun h => by cases h⟩
    · rw [hv] at h; exact no h
    · exact ⟨b, hb, fun _ => hv⟩
  obtain ⟨b, hb, hlc⟩ := hsw
  cases b with
  | false =>
    rw [PySem.exec_Assign_Name (hs := hb)]
    refine wpAny_bind (wpAny_standAt (wpAny_bind (fr.evStep hC hT hr hΓ h fun v s₁ fr1 rv => wpAny_bind (wpAny_standAt (wpAny_bind (wpAny_bindName ?_))))))
    exact wpAny_mono (fr_store fr1 hΓ hx rv) (fun _ s' h' => wpAny_pure ⟨rfl, h'⟩) fun _ _ e => e
  | true =>
    obtain ⟨elt, gens, sc, q, rfl⟩ := hlc rfl
    obtain ⟨ys, rfl, hys, hcs⟩ := comp_sound hC hT h
    rw [PySem.exec_Assign_Name_used (hs := hb)]
    refine wpAny_bind (wpAny_standAt (wpAny_bind ?_))
    show wpAny _ A (comprehension (.ListComp elt gens sc q) sc env (firstIterPos gens q) (newList []) (firstAsync gens) (firstIter gens env) (some (assign (.Name x px) env)) >>= fun _ => pure ()) _ _ s
    obtain ⟨hk, hw⟩ := slot_W fr hΓ hx
    refine wpAny_bind (hcs A E _ env s (some (assign (.Name x px) env)) _ _ hr hΓ fr.er fun s' L D m vs n K htk hL hD hLD hns hd hl hrp => ?_)
    have fr' := fr.keeps K htk
    have hLo : ∃ o, s'.heap.get? L = some o := by obtain ⟨o, _, _, ho, _⟩ := hns; exact ⟨o, ho⟩
    have er1 : ER C (fun a => (Wof env μ a ∨ V a) ∨ a = L) env s' ρ μ := fr.er.extend K htk fun a ha => by
      rcases ha with ha | rfl
      · exact .inl ha
      · exact .inr ⟨hL, hLo⟩
    have hDW : ¬ (Wof env μ D ∨ V D) := fun hw => by obtain ⟨o, ho⟩ := fr.er.sr.wl D hw; first | exact clash hD ho | (rw [hD] at ho; cases ho)
    have rv : Rep (frz s'.heap (fun a => (Wof env μ a ∨ V a) ∨ a = L)) (.lst ys) (.ref D) :=
      rep_lst.mpr ⟨D, vs, n, rfl, ⟨hd, fun h => h.elim hDW (Ne.symm hLD)⟩, hl, Reps.mono (fun a o z => ⟨z.1, fun h => z.2 (h.elim .inl fun e => .inr (.inl e))⟩) _ _ hrp⟩
    show wpAny _ A (assign (.Name x px) env (.ref D)) _ _ _
    refine wpAny_assign_Name (wpAny_mono (store_KB (M := fun a => a = slotOf env x) er1 fr'.ns hk (.inl (.inl hw)) rfl rv) (fun _ s'' h'' => ?_) fun _ _ e => e)
    obtain ⟨kb, er2, ns2⟩ := h''
    have hLs : L ≠ slotOf env x := by
      rintro e
      obtain ⟨o, ho⟩ := fr.er.sr.wl (slotOf env x) (.inl hw)
      rw [← e, hL] at ho; cases ho
    have hLl : env.locals ≠ L := by
      rintro e
      obtain ⟨m1, o, _, _, ho, _⟩ := fr.ns
      rw [e, hL] at ho; cases ho
    have hLc : ∀ y c, env.cells.lookup y = some c → c ≠ L := by
      rintro y c hc rfl
      obtain ⟨cv, o, ho, _⟩ := fr.er.cel y c hc
      first | exact clash hL ho | (rw [hL] at ho; cases ho)
    have hLμ : μ L = none := by
      cases e : μ L with
      | none => rfl
      | some xs => obtain ⟨vs, n, h1, _⟩ := fr.er.sr.ls L xs e; first | exact clash hL h1 | (rw [hL] at h1; cases h1)
    refine ⟨m, hns.at' fun o e => kb.2.1 _ o hLs e, fun h' hs' => wpAny_pure (wpAny_pure ⟨rfl, ?_⟩)⟩
    have er3 := er_drop (W' := fun a => Wof env μ a ∨ V a) (a := L) (h' := h') (tk := s''.toks) er2 (fun b o hb e => hs'.extBut b o hb e) (Nat.le_refl _) (.inr rfl) hLl hLc hLμ (fun a ha => ⟨.inl ha, fun e => by
      obtain ⟨o, ho⟩ := fr.er.sr.wl a ha
      rw [e, hL] at ho; cases ho⟩)
    have kb2 : KB (fun a => a = slotOf env x ∨ a = L) s' { s'' with heap := h' } := by
      obtain ⟨⟨h1, t1, rfl⟩, k1, l1⟩ := kb
      exact ⟨⟨h', t1, rfl⟩, fun b o hb e => hs'.extBut b o (fun e => hb (.inr e)) (k1 b o (fun e => hb (.inl e)) e), l1⟩
    have kb3 : KB (fun a => a = slotOf env x) s { s'' with heap := h' } := by
      obtain ⟨⟨h1, t1, e1⟩, k1, l1⟩ := kb2
      refine ⟨?_, fun b o hb e => k1 b o (fun hh => hh.elim hb fun e' => by rw [e', hL] at e; cases e) (Keeps.k K b o e), Nat.le_trans htk l1⟩
      obtain ⟨h2, t2, rfl, _⟩ := K
      exact ⟨h1, t1, e1⟩
    obtain ⟨m2, hm2⟩ := ns2
    exact fr.step kb3 (fun a ha => ha ▸ hw) er3 ⟨m2, hm2.at' fun o e => hs'.extBut _ o hLl e⟩ fun a ha => .inl ha
end
end Mine
end

section
open PySem PySem.W PyProof.Rows PySem.SeqAt
set_option linter.unusedVariables false
namespace Mine

noncomputable def muSet (μ : Mu) (a : Addr) (xs : List PV) : Mu := fun b => if b = a then some xs else μ b

section
variable {prog : Program} {w : World} {C : Cx} {lv : Nat} {Γ : Names} {A : Around} {E : Value → Shared → Prop} {V : Addr → Prop} {env : Env} {G : Gr} {s₀ s s₁ : Shared} {ρ ρ' : Rho} {μ μ' : Mu} {R R' : CPost} {T : Str → List PV → Option PV}

theorem sat_assign {x : Str} {e : MExpr} (p : PV) (hC : CxOk C) (hT : TOk prog w C lv T) (hx : ownOf Γ x) (h : ev T μ e ρ = some p) (hR : R .next (upd ρ x p) μ) : Sat1 prog w C lv Γ (.assign x e) ρ μ R := by
  intro st hst A E V env G s₀ s hr hΓ fr
  obtain ⟨px, v, pos, rfl, rfl⟩ := inv_assign hst
  exact wpAny_mono (exec_assign hC hT fr hr hΓ hx h) (fun fl s' h' => ⟨.next, _, _, hR, h'.1, h'.2⟩) fun _ _ e => e

/-- a new address, told in no map -/
theorem fresh_mu (fr : FR C env V G s₀ s ρ μ) {a : Addr} (ha : s.heap.get? a = none) : μ a = none := by
  cases e : μ a with
  | none => rfl
  | some xs => obtain ⟨vs, n, h1, _⟩ := fr.er.sr.ls a xs e; first | exact clash ha h1 | (rw [ha] at h1; cases h1)

theorem er_own {W : Addr → Prop} {a : Addr} {vs : List Value} {n : Nat} {xs : List PV} (er : ER C W env s ρ μ) (k : Keeps s s₁) (ht : s.toks ≤ s₁.toks) (ha : s.heap.get? a = none) (ha1 : s₁.heap.get? a = some (lObj vs n)) (hl : vs.length ≤ SZ)
    (hrp : Reps (frz s₁.heap (fun b => W b ∨ b = a)) xs vs) : ER C (fun b => W b ∨ b = a) env s₁ ρ (muSet μ a xs) := by
  have ex := er.extend (W' := fun b => W b ∨ b = a) k ht fun b hb => by
    rcases hb with hb | rfl
    · exact .inl hb
    · exact .inr ⟨ha, _, ha1⟩
  refine { ex with sr := ⟨ex.sr.wl, fun b ys hb => ?_⟩ }
  unfold muSet at hb
  split at hb
  · rename_i e; cases hb; subst e; exact ⟨vs, n, ha1, hl, hrp⟩
  · exact ex.sr.ls b ys hb

theorem Wof_set {a : Addr} {xs : List PV} : ∀ b, (Wof env (muSet μ a xs) b ∨ V b) ↔ ((Wof env μ b ∨ V b) ∨ b = a) := by
  intro b
  unfold Wof muSet
  by_cases e : b = a
  · subst e; simp
  · simp [e]

theorem er_congr {W W' : Addr → Prop} (er : ER C W env s ρ μ) (h : ∀ a, W a ↔ W' a) : ER C W' env s ρ μ := by
  have : W = W' := funext fun a => propext (h a)
  subst this; exact er
theorem rep_congr {W W' : Addr → Prop} {h : Heap} {p : PV} {v : Value} (r : Rep (frz h W) p v) (e : ∀ a, W' a → W a) : Rep (frz h W') p v := Rep.mono (fun a o x => ⟨x.1, fun hw => x.2 (e a hw)⟩) _ _ r

/-- a list display, made anew: it may be written -/
theorem sat_own {x : Str} {es : List MExpr} (xs : List PV) (hC : CxOk C) (hT : TOk prog w C lv T) (hx : ownOf Γ x) (h : evs T μ es ρ = some xs) (hl : xs.length ≤ SZ) (hR : ∀ a, μ a = none → R .next (upd ρ x (.own a)) (muSet μ a xs)) : Sat1 prog w C lv Γ (.assign x (.lst es)) ρ μ R := by
  intro st hst A E V env G s₀ s hr hΓ fr
  obtain ⟨px, v, pos, rfl, hv⟩ := inv_assign hst
  obtain ⟨es', q, rfl, rfl⟩ := inv_lst hv
  rw [PySem.exec_Assign_Name (hs := rfl)]
  refine wpAny_bind (wpAny_standAt (wpAny_bind (wpAny_with_toks (n := s.toks) (Nat.le_refl _) (wpAny_mono (list_sound (evs_sound hC hT h) hl hr hΓ fr.er) (fun v s₁ h₁ htk => ?_) fun _ _ e _ => e))))
  obtain ⟨k, a, vs, n, rfl, ha, ha1, hvl, hrp⟩ := h₁
  have ha0 : ¬ (Wof env μ a ∨ V a) := fun hw => by obtain ⟨o, ho⟩ := fr.er.sr.wl a hw; first | exact clash ha ho | (rw [ha] at ho; cases ho)
  have er1 := er_congr (er_own fr.er k htk ha ha1 hvl hrp) fun b => (Wof_set (V := V) (env := env) (μ := μ) (a := a) (xs := xs) b).symm
  have kb1 : KB (fun _ => False) s s₁ := KB.of_keeps k htk
  obtain ⟨m, hm⟩ := fr.ns
  have fr1 : FR C env V G s₀ s₁ ρ (muSet μ a xs) := fr.step kb1 (fun _ h => h.elim) er1 ⟨m, hm.keeps (Keeps.k k)⟩ fun b hb => by
    unfold muSet at hb
    split at hb
    · rename_i e; subst e; exact .inr ha
    · exact .inl hb
  refine wpAny_bind (wpAny_standAt (wpAny_bind (wpAny_bindName ?_)))
  exact wpAny_mono (fr_store fr1 hΓ hx (rep_own.mpr rfl)) (fun _ s' h' => wpAny_pure ⟨.next, _, _, hR a (fresh_mu fr ha), rfl, h'⟩) fun _ _ e => e

theorem sat_if {c : MExpr} {a b : List MStmt} (t : Bool) {x : PV} (hC : CxOk C) (hT : TOk prog w C lv T) (h : ev T μ c ρ = some x) (hb : truth x = some t) (hR : SatM prog w C lv Γ (if t then a else b) ρ μ R) : Sat1 prog w C lv Γ (.if_ c a b) ρ μ R := by
  intro st hst A E V env G s₀ s hr hΓ fr
  obtain ⟨c', a', b', pos, rfl, rfl, rfl, rfl⟩ := inv_if hst
  refine wpAny_If (fr.stStep hC hT hr hΓ h hb fun s₁ fr1 => ?_)
  cases t
  · exact hR b' rfl A E V env G s₀ s₁ hr hΓ fr1
  · exact hR a' rfl A E V env G s₀ s₁ hr hΓ fr1
theorem sat_ret {e : MExpr} (p : PV) (hC : CxOk C) (hT : TOk prog w C lv T) (h : ev T μ e ρ = some p) (hR : R (.ret p) ρ μ) : Sat1 prog w C lv Γ (.ret e) ρ μ R := by
  intro st hst A E V env G s₀ s hr hΓ fr
  obtain ⟨e', pos, rfl, rfl⟩ := inv_ret hst
  exact wpAny_Return_some (fr.evStep hC hT hr hΓ h fun v s₁ fr1 rv => ⟨.ret p, ρ, μ, hR, ⟨v, rfl, rv⟩, fr1⟩)
theorem sat_brk (hR : R .brk ρ μ) : Sat1 prog w C lv Γ .brk ρ μ R := by
  intro st hst A E V env G s₀ s hr hΓ fr
  obtain ⟨pos, rfl⟩ := inv_brk hst
  exact wpAny_bind (wpAny_standAt (wpAny_pure ⟨.brk, ρ, μ, hR, rfl, fr⟩))
theorem sat_assert {c : MExpr} {x : PV} (hC : CxOk C) (hT : TOk prog w C lv T) (h : ev T μ c ρ = some x) (hb : truth x = some true) (hR : R .next ρ μ) : Sat1 prog w C lv Γ (.assert_ c) ρ μ R := by
  intro st hst A E V env G s₀ s hr hΓ fr
  obtain ⟨e', pos, rfl, rfl⟩ := inv_assert hst
  exact wpAny_Assert_holds (fr.stStep hC hT hr hΓ h hb fun s₁ fr1 => ⟨rfl, .next, ρ, μ, hR, rfl, fr1⟩)

/-- how a loop's body ends -/
noncomputable def Loop (K : Rho → Mu → Prop) (R : CPost) (N : Rho → Mu → Prop) : CPost
  | .next, ρ, μ => N ρ μ
  | .brk, ρ, μ => K ρ μ
  | .ret p, ρ, μ => R (.ret p) ρ μ

theorem sat_while {c : MExpr} {b : List MStmt} (I : Nat → Rho → Mu → Prop) (n : Nat) (hC : CxOk C) (hT : TOk prog w C lv T) (h0 : I n ρ μ)
    (turn : ∀ n ρ μ, I n ρ μ → ∃ x t, ev T μ c ρ = some x ∧ truth x = some t ∧ if t then SatM prog w C lv Γ b ρ μ (Loop (R .next) R fun ρ' μ' => ∃ m, m < n ∧ I m ρ' μ') else R .next ρ μ) :
    Sat1 prog w C lv Γ (.while_ c b) ρ μ R := by
  intro st hst A E V env G s₀ s hr hΓ fr
  obtain ⟨c', b', pos, rfl, rfl, rfl⟩ := inv_while hst
  refine wpAny_While (codeAny_whileLoop (fun n s => ∃ ρ μ, I n ρ μ ∧ FR C env V G s₀ s ρ μ) (fun n s hI => ?_) n ⟨ρ, μ, h0, fr⟩)
  obtain ⟨ρ, μ, hI, fr⟩ := hI
  obtain ⟨x, t, h1, h2, h3⟩ := turn n ρ μ hI
  refine fr.stStep hC hT hr hΓ h1 h2 fun s₁ fr1 => ?_
  cases t with
  | false =>
    simp only [Bool.false_eq_true, if_false] at h3 ⊢
    exact wpAny_execs_nil ⟨.next, ρ, μ, h3, rfl, fr1⟩
  | true =>
    simp only [if_true] at h3 ⊢
    refine wpAny_mono (h3 b' rfl A _ V env G s₀ s₁ hr hΓ fr1) (fun fl s' ho => ?_) fun _ _ e => e
    obtain ⟨c, ρ', μ', hR, hfl, fr'⟩ := ho
    cases c with
    | next =>
      have : fl = .next := hfl
      subst this
      obtain ⟨m, hm, hI'⟩ := hR
      exact ⟨m, hm, ρ', μ', hI', fr'⟩
    | brk =>
      have : fl = .brk := hfl
      subst this
      exact ⟨.next, ρ', μ', hR, rfl, fr'⟩
    | ret p =>
      obtain ⟨v, rfl, rv⟩ := hfl
      exact ⟨.ret p, ρ', μ', hR, ⟨v, rfl, rv⟩, fr'⟩
end
end Mine
end

section
open PySem PySem.W PyProof.Rows PySem.SeqAt
set_option linter.unusedVariables false
namespace Mine

/-- a loop over items -/
noncomputable def ForS (prog : Program) (w : World) (C : Cx) (lv : Nat) (Γ : Names) (t : MTgt) (b : List MStmt) (K : Rho → Mu → Prop) (R : CPost) : List PV → Rho → Mu → Prop
  | [], ρ, μ => K ρ μ
  | p :: ps, ρ, μ => ∃ ρ1, bindT ρ t p = some ρ1 ∧ SatM prog w C lv Γ b ρ1 μ (Loop K R (ForS prog w C lv Γ t b K R ps))

section
variable {prog : Program} {w : World} {C : Cx} {lv : Nat} {Γ : Names} {A : Around} {E : Value → Shared → Prop} {V : Addr → Prop} {env : Env} {G : Gr} {s₀ s s₁ : Shared} {ρ ρ' : Rho} {μ μ' : Mu} {R R' : CPost} {T : Str → List PV → Option PV}

theorem iter_notOwn {x : PV} (h : notOwn x = true) : iter μ x = iter μ' x := by
  cases x with
  | own a => cases h
  | _ => rfl

theorem exec_For {t it : Expr} {b : List Stmt} {pos : Pos} : exec (.For t it b [] pos) env = (do
    standAt pos
    let x ← foldedSetIterable it env (← eval it env)
    standAt it.pos
    runOwn (.forLoop t (← holding [x] (pyIter x)) b [] env) env) := rfl

/-- the heap without the walk's own object -/
noncomputable def GI (I : Addr) (h : Heap) (env : Env) (μ : Mu) (oI : Obj) : Gr := fun a o => (a ≠ I ∧ h.get? a = some o ∧ ¬ Wof env μ a) ∨ (a = I ∧ o = oI)

/-- what holds ahead of a turn -/
inductive ForI (prog : Program) (w : World) (C : Cx) (lv : Nat) (Γ : Names) (t : MTgt) (b : List MStmt) (R : CPost) (env : Env) (V : Addr → Prop) (s₀ : Shared) (I : Addr) (h₂ : Heap) (μ : Mu) (St : Nat → Heap → Prop) (items : List PV) (k : Nat) (s' : Shared) : Prop
  | mk (done rest : List PV) (ρ' : Rho) (μ' : Mu) (oI : Obj) (e : items = done ++ rest) (hk : k = rest.length + 1) (hF : ForS prog w C lv Γ t b (R .next) R rest ρ' μ') (hst : St done.length s'.heap) (ho : s'.heap.get? I = some oI)
    (fr : FR C env (fun a => V a ∨ a = I) (GI I h₂ env μ oI) s₀ s' ρ' μ')

theorem sat_for {t : MTgt} {it : MExpr} {b : List MStmt} {x : PV} (items : List PV) (hC : CxOk C) (hT : TOk prog w C lv T) (h : ev T μ it ρ = some x) (hno : notOwn x = true) (hi : iter μ x = some items) (ht : ∀ y ∈ tgtNames t, ownOf Γ y)
    (hF : ForS prog w C lv Γ t b (R .next) R items ρ μ) : Sat1 prog w C lv Γ (.for_ t it b) ρ μ R := by
  intro st hst A E V env G s₀ s hr hΓ fr
  obtain ⟨t', it', b', pos, rfl, rfl, rfl, rfl⟩ := inv_for hst
  rw [exec_For]
  refine wpAny_bind (wpAny_standAt (wpAny_bind (fr.evStep hC hT hr hΓ h fun v s₁ fr1 rv => wpAny_bind (wpAny_of_eq (fold_of_tr h env v) (wpAny_bind (wpAny_standAt (wpAny_bind (wpAny_holding ?_))))))))
  have S0 : SR (fun a => Wof env μ a ∨ V a) s₁.heap (fun _ => none) := ⟨fr1.er.sr.wl, fun a xs hx => by cases hx⟩
  refine wpAny_with_toks (n := s₁.toks) (Nat.le_refl _) (wpAny_mono (iter_sound (μ := fun _ => none) (by rw [iter_notOwn hno] at hi; exact hi) S0 rv hr.hd) (fun itv s₂ h₂ htk2 => ?_) fun _ _ e _ => e)
  obtain ⟨I, fp, n, P, St, rfl, hn, Wk, hst, hI, hfp, hIfp, hP, hgo, hex, k2⟩ := h₂
  have fr2 := fr1.keeps k2 htk2
  have neI : ∀ a o, s₁.heap.get? a = some o → a ≠ I := fun a o e ea => by rw [ea, hI] at e; cases e
  have hVI : ¬ V I := fun hv => by obtain ⟨o, ho⟩ := fr1.er.sr.wl I (.inr hv); exact neI I o ho rfl
  have hWI : ¬ Wof env μ I := fun hv => by obtain ⟨o, ho⟩ := fr1.er.sr.wl I (.inl hv); exact neI I o ho rfl
  have hLI : env.locals ≠ I := by obtain ⟨m, o, _, _, ho, _⟩ := fr1.ns; exact neI _ o ho
  have hcI : ∀ y c, env.cells.lookup y = some c → c ≠ I := fun y c hc => by obtain ⟨cv, o, ho, _⟩ := fr1.er.cel y c hc; exact neI _ o ho
  have hGI : ∀ a o, G a o → a ≠ I ∧ s₂.heap.get? a = some o ∧ ¬ Wof env μ a := fun a o g => ⟨neI a o (fr1.prot a o g), fr2.prot a o g, fr1.apart a o g⟩
  obtain ⟨oI, hoI⟩ := hex _ _ hst
  have er2 : ER C (fun a => Wof env μ a ∨ (V a ∨ a = I)) env s₂ ρ μ := er_congr (W := fun a => (Wof env μ a ∨ V a) ∨ a = I) (fr1.er.extend k2 htk2 fun a ha => by
    rcases ha with ha | rfl
    · exact .inl ha
    · exact .inr ⟨hI, _, hoI⟩) fun a => ⟨fun h => h.elim (fun h => h.elim .inl fun h => .inr (.inl h)) fun h => .inr (.inr h), fun h => h.elim (fun h => .inl (.inl h)) fun h => h.elim (fun h => .inl (.inr h)) .inr⟩
  have frI : FR C env (fun a => V a ∨ a = I) (GI I s₂.heap env μ oI) s₀ s₂ ρ μ := by
    refine ⟨er2, fr2.ns, fr2.shape, ?_, ?_, ?_⟩
    · rintro a o (⟨_, h2, _⟩ | ⟨rfl, rfl⟩)
      · exact h2
      · exact hoI
    · rintro a o (⟨_, _, h3⟩ | ⟨rfl, rfl⟩)
      · exact h3
      · exact hWI
    · rintro a (h | rfl)
      · exact fr1.vd a h
      · exact hWI
  -- back to the loop's outside
  have back : ∀ (s' : Shared) (o' : Obj) (ρ' : Rho) (μ' : Mu), FR C env (fun a => V a ∨ a = I) (GI I s₂.heap env μ o') s₀ s' ρ' μ' → FR C env V G s₀ s' ρ' μ' := by
    intro s' o' ρ' μ' f
    refine ⟨f.er.shrink fun a ha => ha.elim .inl fun h => .inr (.inl h), f.ns, f.shape, fun a o g => f.prot a o (.inl (hGI a o g)), fun a o g => f.apart a o (.inl (hGI a o g)), fun a h => f.vd a (.inl h)⟩
  have key : ∀ (R' : Result → Shared → Prop), (∀ fl s', Out C env V G s₀ R fl s' → R' (.ok fl) s') → codeAny (model prog w) A (.forLoop t' (.ref I) b' [] env) R' s₂ := by
    intro R' hR'
    refine codeAny_forLoop_any (ForI prog w C lv Γ (trTgt t') (trSs Γ b') R env V s₀ I s₂.heap μ St items) (fun k s' hInv => ?_) (items.length + 1) ⟨[], items, ρ, μ, oI, rfl, rfl, hF, hst, hoI, frI⟩
    obtain ⟨done, rest, ρ', μ', o1, rfl, rfl, hF', hst', ho1, fr'⟩ := hInv
    have hμI : μ' I = none := by
      cases e : μ' I with
      | none => rfl
      | some xs => exact absurd (.inr (.inr (by rw [e]; rfl))) (fr'.apart I o1 (.inr ⟨rfl, rfl⟩))
    cases rest with
    | nil =>
      refine wpAny_with_toks (n := s'.toks) (Nat.le_refl _) (Wk.done s' _ _ (by rw [hn]; simpa using hst') fun h' tk hk htk => ?_)
      have hk' : ∀ b o, b ≠ I → s'.heap.get? b = some o → h'.get? b = some o := fun b o hb e => hk b o (by simpa using hb) e
      have er3 := er_drop (W' := fun a => Wof env μ' a ∨ V a) (a := I) (h' := h') (tk := tk) fr'.er hk' htk (.inr (.inr rfl)) hLI hcI hμI (fun a ha => ⟨ha.elim .inl fun h => .inr (.inl h), fun e => by
        subst e
        rcases ha with ha | ha
        · exact fr'.apart _ o1 (.inr ⟨rfl, rfl⟩) ha
        · exact hVI ha⟩)
      refine wpAny_execs_nil (hR' _ _ ⟨.next, ρ', μ', hF', rfl, er3, ?_, ?_, fun a o g => hk' a o (hGI a o g).1 (fr'.prot a o (.inl (hGI a o g))), fun a o g => fr'.apart a o (.inl (hGI a o g)), fun a h => fr'.vd a (.inl h)⟩)
      · obtain ⟨m, hm⟩ := fr'.ns; exact ⟨m, hm.at' fun o e => hk' _ o hLI e⟩
      · obtain ⟨h1, t1, rfl⟩ := fr'.shape; exact ⟨h', tk, rfl⟩
    | cons q qs =>
      have hlt : done.length < n := by rw [hn]; simp
      refine wpAny_with_toks (n := s'.toks) (Nat.le_refl _) (Wk.item done.length s' _ _ hlt hst' fun v h' tk hPv hst₁ hk htk => ?_)
      have hk' : ∀ b o, b ≠ I → s'.heap.get? b = some o → h'.get? b = some o := fun b o hb e => hk b o (by simpa using hb) e
      obtain ⟨o2, ho2⟩ := hex _ _ hst₁
      have er3 := er_change (a := I) (h' := h') (tk := tk) fr'.er hk' htk (.inr (.inr rfl)) hLI hcI hμI ⟨o2, ho2⟩
      have fr3 : FR C env (fun a => V a ∨ a = I) (GI I s₂.heap env μ o2) s₀ { s' with heap := h', toks := tk } ρ' μ' := by
        refine ⟨er3, ?_, ?_, ?_, ?_, fr'.vd⟩
        · obtain ⟨m, hm⟩ := fr'.ns; exact ⟨m, hm.at' fun o e => hk' _ o hLI e⟩
        · obtain ⟨h1, t1, rfl⟩ := fr'.shape; exact ⟨h', tk, rfl⟩
        · rintro a o (g | ⟨rfl, rfl⟩)
          · exact hk' a o g.1 (fr'.prot a o (.inl g))
          · exact ho2
        · rintro a o (g | ⟨rfl, rfl⟩)
          · exact fr'.apart a o (.inl g)
          · exact fr'.apart _ o1 (.inr ⟨rfl, rfl⟩)
      obtain ⟨q', hq', rq⟩ := hP _ _ hPv
      have : q' = q := by simpa using hq'.symm
      subst this
      have rq' : Rep (frz h' (fun a => Wof env μ' a ∨ (V a ∨ a = I))) q' v := Rep.mono (fun a o x => by
        have g : GI I s₂.heap env μ o2 a o := .inl ⟨neI a o x.1, Keeps.k k2 _ _ x.1, fun hw => x.2 (.inl hw)⟩
        exact ⟨fr3.prot a o g, fun hw => hw.elim (fr3.apart a o g) fun hw => hw.elim (fun hv => x.2 (.inr hv)) (neI a o x.1)⟩) _ _ rq
      refine hgo _ _ _ _ _ _ hst₁ ?_
      obtain ⟨ρ1, hb1, hsat⟩ := hF'
      refine wpAny_mono (fr_assign fr3 hr hΓ hb1 ht rq') (fun _ s₄ fr4 => ?_) fun _ _ e => e
      refine wpAny_mono (hsat b' rfl A _ _ env _ s₀ s₄ hr hΓ fr4) (fun fl s₅ ho => ?_) fun _ _ e => e
      obtain ⟨c, ρ5, μ5, hR, hfl, fr5⟩ := ho
      cases c with
      | next =>
        have : fl = .next := hfl
        subst this
        refine ⟨qs.length + 1, by simp, done ++ [q'], qs, ρ5, μ5, o2, by simp, rfl, hR, ?_, fr5.prot I o2 (.inr ⟨rfl, rfl⟩), fr5⟩
        have := Wk.frame _ _ s₅.heap hst₁ fun b hb o e => by
          rcases hfp b hb with rfl | ⟨⟨o', ho'⟩, h1 | h1⟩
          · have e : h'.get? b = some o := e
            first | exact clash ho2 e | (rw [ho2] at e; cases e)
            exact fr5.prot b _ (.inr ⟨rfl, rfl⟩)
          · have g : GI I s₂.heap env μ o2 b o' := .inl ⟨neI b o' ho', Keeps.k k2 _ _ ho', fun hw => h1 (.inl hw)⟩
            have e : h'.get? b = some o := e
            have e2 : h'.get? b = some o' := fr3.prot b o' g
            first | exact clash e e2 | (rw [e] at e2; cases e2)
            exact fr5.prot b _ g
          · cases h1
        simpa using this
      | brk =>
        have : fl = .brk := hfl
        subst this
        exact hR' _ _ ⟨.next, ρ5, μ5, hR, rfl, back _ _ _ _ fr5⟩
      | ret p =>
        obtain ⟨v, rfl, rv⟩ := hfl
        exact hR' _ _ ⟨.ret p, ρ5, μ5, hR, ⟨v, rfl, rep_congr rv fun a ha => ha.elim .inl fun h => .inr (.inl h)⟩, back _ _ _ _ fr5⟩
  exact wpAny_runOwn (h := none) (key _ fun fl s' h => h)
end
end Mine
end

section
open PySem PySem.W PyProof.Rows PySem.SeqAt
set_option linter.unusedVariables false
namespace Mine
section
variable {prog : Program} {w : World} {C : Cx} {lv : Nat} {Γ : Names} {A : Around} {E : Value → Shared → Prop} {V : Addr → Prop} {env : Env} {G : Gr} {s₀ s s₁ : Shared} {ρ ρ' : Rho} {μ μ' : Mu} {R R' : CPost} {T : Str → List PV → Option PV}

theorem Wof_set' {a : Addr} {xs ys : List PV} (h : μ a = some xs) : Wof env (muSet μ a ys) = Wof env μ := by
  funext b
  unfold Wof muSet
  by_cases e : b = a
  · subst e; simp [h]
  · simp [e]

/-- an owned list was written -/
theorem fr_mut {a : Addr} {xs ys : List PV} {vs : List Value} {n : Nat} {h' : Heap} (fr : FR C env V G s₀ s ρ μ) (hμ : μ a = some xs) (hk : ∀ b o, b ≠ a → s.heap.get? b = some o → h'.get? b = some o)
    (ha : h'.get? a = some (lObj vs n)) (hl : vs.length ≤ SZ) (hrp : Reps (frz s.heap (fun a => Wof env μ a ∨ V a)) ys vs) : FR C env V G s₀ { s with heap := h' } ρ (muSet μ a ys) := by
  have hWa : Wof env μ a := .inr (.inr (by rw [hμ]; rfl))
  have er := fr.er
  have hf : ∀ b o, frz s.heap (fun a => Wof env μ a ∨ V a) b o → frz h' (fun a => Wof env μ a ∨ V a) b o := fun b o x => ⟨hk b o (fun e => x.2 (e ▸ .inl hWa)) x.1, x.2⟩
  obtain ⟨us, j, h1, _, _⟩ := er.sr.ls a xs hμ
  obtain ⟨m, hm⟩ := fr.ns
  have hLa : env.locals ≠ a := by rintro rfl; exact ns_not_list hm h1
  have hca : ∀ x c, env.cells.lookup x = some c → c ≠ a := by rintro x c hc rfl; obtain ⟨cv, hi⟩ := er.cel x c hc; exact cell_not_list hi h1
  refine ⟨?_, ⟨m, hm.at' fun o e => hk _ o hLa e⟩, ?_, fun b o g => hk b o (fun e => fr.apart b o g (e ▸ hWa)) (fr.prot b o g), fun b o g => by rw [Wof_set' hμ]; exact fr.apart b o g, fun b hv => by rw [Wof_set' hμ]; exact fr.vd b hv⟩
  · rw [Wof_set' hμ]
    refine ⟨er.kind, er.gl, er.bl, fun b o e => hk b o (fun eb => ?_) (er.base b o e), er.wb, ⟨fun b hb => ?_, fun b zs hz => ?_⟩, fun x p hx => ?_, er.tk, fun x hx => ?_, er.apart, fun x c hc => ?_⟩
    · have := er.wb a (.inl hWa); rw [← eb, e] at this; cases this
    · by_cases ea : b = a
      · subst ea; exact ⟨_, ha⟩
      · obtain ⟨o, ho⟩ := er.sr.wl b hb; exact ⟨o, hk b o ea ho⟩
    · unfold muSet at hz
      split at hz
      · rename_i e; subst e; cases hz
        exact ⟨vs, n, ha, hl, Reps.mono hf _ _ hrp⟩
      · rename_i e
        obtain ⟨us, j, q1, q2, q3⟩ := er.sr.ls b zs hz
        exact ⟨us, j, hk _ _ e q1, q2, Reps.mono hf _ _ q3⟩
    · obtain ⟨v, q1, q2⟩ := er.vars x p hx
      refine ⟨v, ?_, Rep.mono hf _ _ q2⟩
      rcases q1 with ⟨k1, m1, hn1, hm1⟩ | ⟨k1, c, hc, hi⟩
      · exact .inl ⟨k1, m1, hn1.at' fun o e => hk _ o hLa e, hm1⟩
      · obtain ⟨o, ho, hd'⟩ := hi
        exact .inr ⟨k1, c, hc, o, hk _ _ (hca x c hc) ho, hd'⟩
    · obtain ⟨c, cv, q1, o, ho, hd'⟩ := er.has x hx
      exact ⟨c, cv, q1, o, hk _ _ (hca x c q1) ho, hd'⟩
    · obtain ⟨cv, o, ho, hd'⟩ := er.cel x c hc
      exact ⟨cv, o, hk _ _ (hca x c hc) ho, hd'⟩
  · obtain ⟨h1, t1, rfl⟩ := fr.shape; exact ⟨h', _, rfl⟩

theorem inter_false (er : ER C V env s ρ μ) : interactive env = false := by
  unfold interactive; rw [er.kind]; rfl

theorem mapSeq_list (f : Array Value → Array Value) (vs : List Value) (n : Nat) : ∃ k, Obj.mapSeq f (lObj vs n) = lObj (f vs.toArray).toList k := ⟨_, by simp only [Obj.mapSeq, lObj]; rfl⟩

theorem upd_list {h : Heap} {a : Addr} {vs : List Value} {n : Nat} (f : Array Value → Array Value) (ha : h.get? a = some (lObj vs n)) : ∃ k, (h.update a (Obj.mapSeq f)).get? a = some (lObj (f vs.toArray).toList k) ∧ Heap.SameBut a h (h.update a (Obj.mapSeq f)) := by
  obtain ⟨k, hk⟩ := mapSeq_list f vs n
  exact ⟨k, by rw [Heap.get?_update_self _ ha (by rw [hk]; rfl), hk], Heap.SameBut.update ..⟩

/-- a method of an owned list, called as a statement -/
theorem mcall_core {x : Str} {m : Str} {id : String} {e : MExpr} {a : Addr} {xs : List PV} {p : PV} (hC : CxOk C) (hT : TOk prog w C lv T) (hx : ρ x = some (.own a)) (hμ : μ a = some xs) (he : ev T μ e ρ = some p)
    (hslot : Slot "list" m id) (hty : typeOf (.builtin id) = pure (.type "method_descriptor"))
    (hcall : ∀ (A : Around) (E : Value → Shared → Prop) (V : Addr → Prop) (env : Env) (G : Gr) (s₀ s : Shared) (v : Value), Room lv A → FR C env V G s₀ s ρ μ → Rep (frz s.heap (fun a => Wof env μ a ∨ V a)) p v → wpAny (model prog w) A (call (.builtin id) [.ref a, v]) (fun _ s' => ∃ μ', R .next ρ μ' ∧ FR C env V G s₀ s' ρ μ') E s) :
    Sat1 prog w C lv Γ (.mcall (.var x) m e) ρ μ R := by
  intro st hst A E V env G s₀ s hr hΓ fr
  obtain ⟨o', apos, a', pos, spos, rfl, ho, rfl, hline⟩ := inv_mcall hst
  obtain ⟨np, rfl⟩ := inv_var ho
  have hst1 : starEach [a'] env = [(false, eval a' env)] := tr_star he [] env
  have hbt : backTo pos (starEach [a'] env) = [(false, eval a' env)] := by rw [hst1]; rfl
  refine wpAny_Expr_any (wpAny_Call_method1_late rfl hline hbt ?_) (inter_false fr.er) rfl
  refine fr.evStep hC hT hr hΓ (p := .own a) (by rw [ho]; exact hx) fun v s₁ fr1 rv => ?_
  have := rep_own.mp rv; subst this
  obtain ⟨us, j, h1, _, _⟩ := fr1.er.sr.ls a xs hμ
  refine ⟨"list", id, F.plainAttrs_list, hslot, hty, ⟨_, h1, rfl⟩, fun b hb => ⟨lObj us j, (by cases hb; exact h1), rfl⟩, ?_⟩
  refine Calls.callWith_builtin rfl (Calls.evalArgs_plain (Calls.spliced_cons (fr1.evStep hC hT hr hΓ he fun v s₂ fr2 rv => Calls.spliced_nil ?_)))
  refine wpAny_mono (hcall A E V env G s₀ s₂ v hr fr2 rv) (fun _ s' h' => ?_) fun _ _ e => e
  obtain ⟨μ', hR, fr'⟩ := h'
  exact ⟨.next, ρ, μ', hR, rfl, fr'⟩

theorem sat_append {x : Str} {e : MExpr} {a : Addr} {xs : List PV} {p : PV} (hC : CxOk C) (hT : TOk prog w C lv T) (hx : ρ x = some (.own a)) (hμ : μ a = some xs) (he : ev T μ e ρ = some p) (hl : xs.length + 1 ≤ SZ) (hR : R .next ρ (muSet μ a (xs ++ [p]))) :
    Sat1 prog w C lv Γ (.mcall (.var x) "append" e) ρ μ R := by
  refine mcall_core hC hT hx hμ he F.slot_list_append F.type_list_append fun A E V env G s₀ s v hr fr rv => ?_
  obtain ⟨us, j, h1, h2, h3⟩ := fr.er.sr.ls a xs hμ
  refine wpAny_list_append_plain (items := us.toArray) ⟨j, h1⟩ (fun h' hp hs' => ⟨_, hR, ?_⟩) (by rw [h3.length] at h2; simp [← SZ_eq, h3.length]; omega)
  obtain ⟨k, hp⟩ := hp
  exact fr_mut (vs := us ++ [v]) (n := k) fr hμ (fun b o hb e => hs'.extBut b o hb e) (by rw [hp]; simp [lObj]) (by simp [h3.length]; omega) (h3.append (Reps.cons rv Reps.nil))

end
end Mine
end

section
open PySem PySem.W PyProof.Rows PySem.SeqAt
set_option linter.unusedVariables false
set_option maxRecDepth 100000
namespace Mine

noncomputable def bApp (a : Addr) : Obj := { cls := .type "builtin_function_or_method", data := .fields #[.builtin "list.append", .ref a] }
theorem slot_mget : Slot "method_descriptor" "__get__" "method_descriptor.__get__" :=
  .of (owner := "method_descriptor") (n := "__get__") (by rw [typeLookup_type, builtinLookup_eq_fast]; kernel_rfl) (by decide +kernel) (by decide +kernel) (by decide +kernel)
    (by first | exact .inl (by decide +kernel) | exact .inr (by decide +kernel)) (by rw [isSubtype_type]; kernel_rfl)
theorem entry_mget : entryFor table "method_descriptor.__get__" = some Builtin.«method_descriptor.__get__» := entryFor_of_tree (by kernel_rfl)
theorem args_mget (a b c : Value) : argsOk "method_descriptor.__get__" ⟨[a, b, c], []⟩ := by unfold argsOk; kernel_rfl
theorem told_append : Manifest.toldItsClass.contains "list.append" = false := by decide +kernel
theorem no_mset : typeLookup (.type "method_descriptor") "__set__" = pure none := by rw [typeLookup_type, builtinLookup_eq_fast]; kernel_rfl
theorem no_mdel : typeLookup (.type "method_descriptor") "__delete__" = pure none := by rw [typeLookup_type, builtinLookup_eq_fast]; kernel_rfl

section
variable {prog : Program} {w : World} {M : Model} {A : Around} {E : Value → Shared → Prop} {s : Shared} {a : Addr} {o : Obj}

theorem run_mget {P : Fin → Shared → Prop} (hx : s.heap.get? a = some o) (hc : o.cls = .type "list") (h : P (.done (.ret (.ref s.heap.objs.size))) { s with heap := s.heap.push (bApp a) }) :
    wpAny M A (Builtin.«method_descriptor.__get__» ⟨[.builtin "list.append", .ref a, .type "list"], []⟩) P E s := by
  have hT : s.TypeIs (.ref a) "list" := ⟨_, hx, hc⟩
  unfold Builtin.«method_descriptor.__get__»
  refine wpAny_bind (wpAny_of_eq (a := (.builtin "list.append", some (.ref a), some (.type "list"))) (by first | rfl | kernel_rfl) ?_)
  simp only [told_append]
  refine KFB.if_not rfl ?_
  have e : (kfb_private% "bindBuiltin") "builtin_function_or_method" (Value.builtin "list.append") (some (.ref a)) = ((kfb_private% "checkInstance") (Value.builtin "list.append") (.ref a) >>= fun _ => newFields "builtin_function_or_method" [Value.builtin "list.append", .ref a] >>= fun v => ret v) := rfl
  rw [e]
  refine wpAny_bind ?_
  refine wpAny_bind (wpAny_of_eq (a := (("append" : Str), Value.type "list")) (by first | rfl | kernel_rfl) ?_)
  refine wpAny_bind (wpAny_isInstance hT PySem.F.sub_list_list ?_)
  refine KFB.if_not rfl ?_
  refine wpAny_pure ?_
  exact wpAny_bind (wpAny_newObj_type (wpAny_pure h))

theorem get_entry {tk : Tok} {h : Heap} {g : Array GenState} {d : Drawn} {t : Nat} {os : OsState} {vs : List Value} {n : Nat} {Q : Fin → Shared → Prop} (hx : h.get? a = some (lObj vs n)) (hq : Q (.done (.ret (.ref h.objs.size))) ⟨h.push (bApp a), g, d, t, os⟩) :
    wpAny (model prog w) A (Builtin.«object.__getattribute__» ⟨[.ref a, .str "append" tk], []⟩) Q E ⟨h, g, d, t, os⟩ := by
  have hT : (⟨h, g, d, t, os⟩ : Shared).TypeIs (.ref a) "list" := ⟨_, hx, rfl⟩
  have hT5 : (⟨h, g, d, t, os⟩ : Shared).TypeIs (.builtin "list.append") "method_descriptor" := F.type_list_append
  have f4 := F.slot_list_append.lookup
  have f5 := F.type_list_append
  have f6 := slot_mget.lookup
  have f7 := no_mset
  have f8 := no_mdel
  repeat (any_goals (first | assumption | wp_step))
  exact codeAny_call_builtin slot_mget.plain entry_mget (slot_mget.check _ _ _ _ _ _ _ _ hT5 (args_mget _ _ _) (run_mget hx rfl (wpAny_pure hq)))

theorem get_call {tk : Tok} {h : Heap} {g : Array GenState} {d : Drawn} {t : Nat} {os : OsState} {vs : List Value} {n : Nat} {R : Result → Shared → Prop} (hx : h.get? a = some (lObj vs n)) (hq : R (.ok (.ret (.ref h.objs.size))) ⟨h.push (bApp a), g, d, t, os⟩) :
    codeAny (model prog w) A (.call (.builtin "list.__getattribute__") ⟨[.ref a, .str "append" tk], []⟩) R ⟨h, g, d, t, os⟩ :=
  codeAny_call_builtin F.slot_list_getattribute.plain F.entry_list_ga (F.slot_list_getattribute.check _ _ _ _ _ _ _ _ (show (⟨h, g, d, t, os⟩ : Shared).TypeIs (.ref a) "list" from ⟨_, hx, rfl⟩) (F.args_list_getattribute_2 _ _) (get_entry hx hq))

theorem get_by {tk : Tok} {h : Heap} {g : Array GenState} {d : Drawn} {t : Nat} {os : OsState} {vs : List Value} {n : Nat} {Q : Value → Shared → Prop} (hx : h.get? a = some (lObj vs n)) (hq : Q (.ref h.objs.size) ⟨h.push (bApp a), g, d, t, os⟩) :
    wpAny (model prog w) A (getAttrBy (.ref a) (.str "append" tk) true true) Q E ⟨h, g, d, t, os⟩ := by
  have hT : (⟨h, g, d, t, os⟩ : Shared).TypeIs (.ref a) "list" := ⟨_, hx, rfl⟩
  have f2 := F.slot_list_getattribute.lookup
  have f3 := F.slot_list_getattribute.bind (.ref a)
  repeat (any_goals (first | assumption | wp_step))
  refine get_call hx ?_
  repeat (any_goals (first | assumption | wp_step))

theorem get_append {s : Shared} {vs : List Value} {n : Nat} {Q : Value → Shared → Prop} (hx : s.heap.get? a = some (lObj vs n)) (hq : Q (.ref s.heap.objs.size) { s with heap := s.heap.push (bApp a), toks := s.toks + 1 }) :
    wpAny (model prog w) A (getAttr (.ref a) "append" true) Q E s := by
  obtain ⟨h, g, d, t, os⟩ := s
  unfold getAttr
  refine wpAny_bind ?_
  unfold mkText
  repeat (any_goals (first | assumption | with_reducible apply get_by hx | wp_step))

theorem sig_app : ∃ sig, Manifest.signature? "list.append" = some sig ∧ ∀ (a v : Value), Bind.checkArgs "list.append" { sig with full := s!"{Bind.lastOf "list"}.{Bind.lastOf "list.append"}" } ⟨[a, v], []⟩ = pure () := ⟨(Manifest.signature? "list.append").get (by decide +kernel), (Option.some_get _).symm, fun a v => by kernel_rfl⟩
theorem kind_app : builtinKind "list.append" = some .method := by first | decide +kernel | kernel_rfl
theorem varargs_app : Manifest.varargsMethods.contains "list.append" = false := by decide +kernel
theorem sub_list_module : isSubtype (.type "list") (.type "module") = pure false := by rw [isSubtype_type]; kernel_rfl
theorem check_app {vs : List Value} {n : Nat} {v : Value} {Q : Unit → Shared → Prop} (ha : s.heap.get? a = some (lObj vs n)) (h : Q () s) : wpAny M A (checkBoundCall "list.append" ⟨[.ref a, v], []⟩) Q E s := by
  have hT : s.TypeIs (.ref a) "list" := ⟨_, ha, rfl⟩
  obtain ⟨sig, h1, h2⟩ := sig_app
  unfold checkBoundCall
  simp only [h1, kind_app]
  refine KFB.if_not (by decide) ?_
  refine wpAny_bind (wpAny_isInstance hT sub_list_module ?_)
  refine KFB.if_not (by rw [varargs_app]; rfl) ?_
  refine wpAny_bind ?_
  unfold isType
  refine wpAny_bind (wpAny_loadPart ha (wpAny_pure ?_))
  refine KFB.if_not rfl ?_
  refine wpAny_bind (wpAny_typeOf hT ?_)
  exact wpAny_of_eq (h2 (.ref a) v) h
theorem quiet_app {as : Args} : (Code.builtin "list.append" as).quiet = true := Code.quiet_builtin _ (by decide +kernel)

theorem callWith_app {pos : Pos} {u : Addr} {args : List (Bool × Sem Value)} {Q : Value → Shared → Prop} (hplain : args.any (·.1) = false)
    (h : wpAny M A (evalArgs (.ref u) true args []) (fun x s₁ => (∃ o, s₁.heap.get? u = some o ∧ appObj a o) ∧ wpAny M A (call (.ref u) x.pos x.kw) Q E s₁) E s) : wpAny M A (callWith pos (.ref u) [] args []) Q E s := by
  unfold callWith
  refine wpAny_bind (wpAny_holding (wpAny_mono h (fun x s₁ h₁ => wpAny_bind (wpAny_standAt ?_)) fun _ _ x => x))
  obtain ⟨⟨o, ho, hc, hd⟩, hcall⟩ := h₁
  simp only [hplain, List.any_nil, Bool.or_false]
  refine wpAny_bind (m := keeperOf (.ref u)) ?_
  unfold keeperOf
  refine wpAny_bind (wpAny_load ho ?_)
  simp only [hc, hd, show (Value.type "builtin_function_or_method" != Value.type "method") = true by decide, show (Value.type "builtin_function_or_method" == Value.type "builtin_function_or_method" || Value.type "builtin_function_or_method" == Value.type "method-wrapper") = true by decide, if_true]
  refine wpAny_pure ?_
  exact wpAny_bind (wpAny_mono hcall (fun r s₂ hr => wpAny_bind (wpAny_holding (wpAny_point (wpAny_pure hr)))) fun _ _ x => x)

theorem call_app {b : Addr} {v : Value} {vs : List Value} {n : Nat} {Q : Value → Shared → Prop} (ho : s.heap.get? b = some o) (hao : appObj a o) (ha : s.heap.get? a = some (lObj vs n)) (hl : vs.length + 1 ≤ SZ)
    (h : ∀ h' k, h'.get? a = some (lObj (vs ++ [v]) k) → Heap.SameBut a s.heap h' → Q .none { s with heap := h' }) : wpAny (model prog w) A (call (.ref b) [v]) Q E s := by
  obtain ⟨hc, hd⟩ := hao
  refine wpAny_call (codeAny_of_tree ?_)
  show wpAny _ A.in1 (callAny (.ref b) ⟨[v], []⟩) _ _ s
  simp only [callAny]
  refine wpAny_bind (wpAny_load ho ?_)
  simp only [hc, hd, show (Value.type "builtin_function_or_method" == Value.type "method" || Value.type "builtin_function_or_method" == Value.type "builtin_function_or_method" || Value.type "builtin_function_or_method" == Value.type "method-wrapper") = true by decide, if_true]
  refine KFB.if_so (by decide) ?_
  refine wpAny_bind (check_app ha ?_)
  refine wpAny_bind (wpAny_pure (wpAny_pure ?_))
  refine ⟨quiet_app, codeAny_builtin F.entry_list_append ?_⟩
  show wpAny _ _ (updateSeq a (·.push v) >>= fun _ => ret .none) _ _ s
  obtain ⟨k, hk, hs'⟩ := upd_list (h := s.heap) (fun z => z.push v) ha
  refine wpAny_bind (wpAny_updateSeq ha rfl (wpAny_pure (h _ k (by rw [hk]; simp) hs')) (by simp [← SZ_eq]; omega) (by simp [← SZ_eq]; omega))
end

section
variable {prog : Program} {w : World} {C : Cx} {lv : Nat} {Γ : Names} {A : Around} {E : Value → Shared → Prop} {V : Addr → Prop} {env : Env} {G : Gr} {s₀ s s₁ : Shared} {ρ ρ' : Rho} {μ μ' : Mu} {R R' : CPost} {T : Str → List PV → Option PV}

theorem FR.addG {b : Addr} {o : Obj} (fr : FR C env V G s₀ s ρ μ) (hb : s.heap.get? b = some o) (hw : ¬ Wof env μ b) : FR C env V (fun x y => G x y ∨ (x = b ∧ y = o)) s₀ s ρ μ :=
  { fr with prot := fun a y g => g.elim (fr.prot a y) fun ⟨e1, e2⟩ => by rw [e1, e2]; exact hb, apart := fun a y g => g.elim (fr.apart a y) fun ⟨e1, e2⟩ => by rw [e1]; exact hw }
theorem FR.subG {G' : Gr} (fr : FR C env V G s₀ s ρ μ) (h : ∀ a o, G' a o → G a o) : FR C env V G' s₀ s ρ μ :=
  { fr with prot := fun a y g => fr.prot a y (h a y g), apart := fun a y g => fr.apart a y (h a y g) }

theorem sat_bindApp {x y : Str} {a : Addr} {xs : List PV} (hC : CxOk C) (hT : TOk prog w C lv T) (hx : ownOf Γ x) (hy : ρ y = some (.own a)) (hμ : μ a = some xs) (hR : R .next (upd ρ x (.app a)) μ) : Sat1 prog w C lv Γ (.bindApp x (.var y)) ρ μ R := by
  intro st hst A E V env G s₀ s hr hΓ fr
  obtain ⟨px, o, ap, pos, rfl, ho⟩ := inv_bindApp hst
  obtain ⟨np, rfl⟩ := inv_var ho
  rw [PySem.exec_Assign_Name (hs := rfl)]
  refine wpAny_bind (wpAny_standAt (wpAny_bind (Attribute_Name_ (fr.evStep hC hT hr hΓ (p := .own a) (by rw [ho]; exact hy) fun v s₁ fr1 rv => ?_))))
  have := rep_own.mp rv; subst this
  obtain ⟨us, j, h1, _, _⟩ := fr1.er.sr.ls a xs hμ
  refine get_append h1 (wpAny_bind (wpAny_standAt (wpAny_bind (wpAny_bindName ?_))))
  have fr2 := fr1.keeps (s₁ := { s₁ with heap := s₁.heap.push (bApp a), toks := s₁.toks + 1 }) (Keeps.push _ _) (Nat.le_succ _)
  refine wpAny_mono (fr_store (p := .app a) fr2 hΓ hx (rep_app.mpr ⟨_, _, rfl, ⟨Heap.get?_push_size _ rfl, fun hw => ?_⟩, rfl, rfl⟩)) (fun _ s' h' => wpAny_pure ⟨.next, _, _, hR, rfl, h'⟩) fun _ _ e => e
  obtain ⟨o, ho⟩ := fr1.er.sr.wl _ hw
  first | exact clash (fresh_none _) ho | (rw [fresh_none] at ho; cases ho)

theorem sat_callv {f : Str} {e : MExpr} {a : Addr} {xs : List PV} {p : PV} (hC : CxOk C) (hT : TOk prog w C lv T) (hfn : (f == ("__debug__" : Str) || f == ("__classdict__" : Str)) = false) (hx : ρ f = some (.app a)) (hμ : μ a = some xs) (he : ev T μ e ρ = some p) (hl : xs.length + 1 ≤ SZ) (hR : R .next ρ (muSet μ a (xs ++ [p]))) :
    Sat1 prog w C lv Γ (.callv f e) ρ μ R := by
  intro st hst A E V env G s₀ s hr hΓ fr
  obtain ⟨np, a', pos, spos, rfl, rfl⟩ := inv_callv hst
  have hst1 : starEach [a'] env = [(false, eval a' env)] := tr_star he [] env
  have hbt : backTo pos (starEach [a'] env) = [(false, eval a' env)] := by rw [hst1]; rfl
  refine wpAny_Expr_any (wpAny_Call_ofName ?_) (inter_false fr.er) rfl
  refine wpAny_with_toks (n := s.toks) (Nat.le_refl _) (wpAny_mono (name_sound fr.er hx hfn) (fun v s₁ h₁ htk => ?_) fun _ _ e _ => e)
  have fr1 := fr.keeps h₁.1 htk
  obtain ⟨b, o, rfl, hg, hao⟩ := rep_app.mp h₁.2
  rw [hbt]
  have fr1' := fr1.addG (b := b) (o := o) hg.1 fun hw => hg.2 (.inl hw)
  refine callWith_app (a := a) rfl (Calls.evalArgs_plain (Calls.spliced_cons (fr1'.evStep hC hT hr hΓ he fun v s₂ fr2 rv => Calls.spliced_nil ?_)))
  have hb2 := fr2.prot b o (.inr ⟨rfl, rfl⟩)
  obtain ⟨us, j, h1, h2, h3⟩ := fr2.er.sr.ls a xs hμ
  refine ⟨⟨o, hb2, hao⟩, call_app hb2 hao h1 (by rw [h3.length]; exact hl) fun h' k hk hs' => ?_⟩
  have fr3 := fr_mut (vs := us ++ [v]) (n := k) (fr2.subG (G' := G) fun a o g => .inl g) hμ (fun b o hb e => hs'.extBut b o hb e) hk (by simp [h3.length]; omega) (h3.append (Reps.cons rv Reps.nil))
  exact ⟨.next, ρ, _, hR, rfl, fr3⟩
end
end Mine
end

section
open PySem PySem.W PyProof.Rows PySem.SeqAt
set_option linter.unusedVariables false
set_option maxRecDepth 100000
namespace Mine

theorem mro_object : mroOf (.type "object") = pure [.type "object"] := by kernel_rfl
theorem lookup_object_new : typeLookup (.type "object") "__new__" = pure (some (.builtin "object.__new__")) := by rw [typeLookup_type, builtinLookup_eq_fast]; kernel_rfl
theorem sub_object : isSubtype (.type "object") (.type "object") = pure true := by rw [isSubtype_type]; kernel_rfl
theorem slot_object_init : Slot "object" "__init__" "object.__init__" :=
  .of (owner := "object") (n := "__init__") (by rw [typeLookup_type, builtinLookup_eq_fast]; kernel_rfl) (by decide +kernel) (by decide +kernel) (by decide +kernel)
    (by first | exact .inl (by decide +kernel) | exact .inr (by decide +kernel)) (by rw [isSubtype_type]; kernel_rfl)
theorem called_object : TypeCalled "object" "object.__new__" "object.__init__" :=
  ⟨by decide +kernel, by decide +kernel, ⟨_, _, mro_object⟩, madeBy_type mro_object lookup_object_new (by decide +kernel), by decide +kernel, sub_object, slot_object_init⟩
theorem typeCall_object : checkTypeCall "object" ⟨[], []⟩ = pure () := by kernel_rfl
theorem newCall_object : checkBuiltinCall "object.__new__" ⟨[.type "object"], []⟩ = pure () := by kernel_rfl
theorem madeHere_object : Bind.madeHere "object.__new__" (.type "object") = pure () := by kernel_rfl
theorem args_object_init (a : Value) : argsOk "object.__init__" ⟨[a], []⟩ := by unfold argsOk; kernel_rfl
theorem noNew_object : (Manifest.find? "object").elim false (·.mro.any fun t => (Manifest.find? t).elim false (·.noNew)) = false := by decide +kernel
theorem noDict_object : typeHasDict (.type "object") = false := by decide +kernel
theorem noDel_object : diesByItsTypesDel "object" = false := by decide +kernel
noncomputable def oObj : Obj := { cls := .type "object" }

theorem new_object_meets : Meets (Builtin.«object.__new__» ⟨[.type "object"], []⟩) (fun _ R s => R (.ok (.ret (.ref s.heap.objs.size))) { s with heap := s.heap.push oObj }) :=
  .of_wp fun prog w A R s h => by
    unfold Builtin.«object.__new__»
    refine wpAny_bind (wpAny_of_eq (a := true) rfl ?_)
    refine KFB.if_not rfl ?_
    refine KFB.if_not noNew_object ?_
    refine wpAny_bind (wpAny_of_eq (a := ()) madeHere_object ?_)
    refine KFB.if_not rfl ?_
    refine KFB.if_not noDict_object ?_
    refine wpAny_bind (wpAny_pure ?_)
    refine wpAny_bind (wpAny_newObj_type ?_)
    refine KFB.if_not noDel_object ?_
    exact wpAny_pure ⟨_, rfl, h⟩
theorem boot_object : bootBuiltins "object" = some (.type "object") := by decide +kernel

section
variable {prog : Program} {w : World} {C : Cx} {lv : Nat} {Γ : Names} {A : Around} {E : Value → Shared → Prop} {V : Addr → Prop} {env : Env} {G : Gr} {s₀ s s₁ : Shared} {ρ ρ' : Rho} {μ μ' : Mu} {R R' : CPost} {T : Str → List PV → Option PV}

theorem call_object {Q : Value → Shared → Prop} (h : Q (.ref s.heap.objs.size) { s with heap := s.heap.push oObj }) : wpAny (model prog w) A (call (.type "object") []) Q E s := by
  refine callType_meets (Q₁ := fun v s' => v = .ref s.heap.objs.size ∧ s' = { s with heap := s.heap.push oObj }) called_object typeCall_object newCall_object F.entry_object_new F.entry_object_init new_object_meets ⟨rfl, rfl⟩ ?_
  rintro obj s₁ ⟨rfl, rfl⟩
  refine ⟨⟨_, Heap.get?_push_size _ rfl, rfl⟩, args_object_init _, (fun _ R s => R (.ok (.ret .none)) s), Meets.of_wp (fun prog w A R s hs => wpAny_pure ⟨_, rfl, hs⟩), rfl, h⟩

theorem trs_nil {es : List Expr} (h : trs Γ es = []) : es = [] := by
  cases es with
  | nil => rfl
  | cons _ _ => cases h

theorem sat_object {x : Str} (hC : CxOk C) (hx : ownOf Γ x) (hR : ∀ a, R .next (upd ρ x (.obj a)) μ) : Sat1 prog w C lv Γ (.assign x (.call "object" [])) ρ μ R := by
  intro st hst A E V env G s₀ s hr hΓ fr
  obtain ⟨px, v, pos, rfl, hv⟩ := inv_assign hst
  obtain ⟨np, es', q, rfl, hes, hk, hd⟩ := inv_call hv
  have := trs_nil hes; subst this
  rw [PySem.exec_Assign_Name (hs := rfl)]
  have hkind : env.kindOf "object" = some .globalImplicit := by show env.scope.names.lookup _ = _; rw [hΓ]; exact hk
  obtain ⟨g1, g2⟩ := hC.bi "object" (by decide)
  refine wpAny_bind (wpAny_standAt (wpAny_bind (wpAny_Call_ofName (Calls.Name_function_global fr.er.kind hkind ?_ hd))))
  refine Calls.loadGlobal_builtin (base_g hC fr.er) g1 (base_b hC fr.er) (by rw [g2]; exact boot_object) ?_
  refine PySem.callWith_type rfl (PyProof.Rows.evalArgs_nil3 (call_object ?_))
  have fr1 := fr.keeps (s₁ := { s with heap := s.heap.push oObj }) (Keeps.push _ _) (Nat.le_refl _)
  refine wpAny_bind (wpAny_standAt (wpAny_bind (wpAny_bindName ?_)))
  exact wpAny_mono (fr_store (p := .obj s.heap.objs.size) fr1 hΓ hx (rep_obj.mpr rfl)) (fun _ s' h' => wpAny_pure ⟨.next, _, _, hR _, rfl, h'⟩) fun _ _ e => e

/-- x += e for whole numbers and for texts, x -= e for whole numbers -/
noncomputable def augAdd (a b : PV) : Option PV := match a with
  | .int x => match b with
    | .int y => some (.int (x + y))
    | _ => none
  | .str x => match b with
    | .str y => if x.length + y.length ≤ SZ then some (.str (x ++ y)) else none
    | _ => none
  | _ => none
noncomputable def evAug (op : Operator) (a b : PV) : Option PV := match op with
  | .Add => augAdd a b
  | .Sub => int2 (fun x y => some (.int (x - y))) a b
  | _ => none

theorem augAdd_sound {W : Addr → Prop} {a b r : PV} {va vb : Value} (h : augAdd a b = some r) (ra : Rep (frz s.heap W) a va) (rb : Rep (frz s.heap W) b vb) : wpAny (model prog w) A (inplaceOp .Add va vb) (Post W s r) E s := by
  cases a with
  | int x =>
    cases b with
    | int y =>
      cases Option.some.inj h
      obtain ⟨t, rfl⟩ := rep_int.mp ra
      obtain ⟨u, rfl⟩ := rep_int.mp rb
      exact AutoIntOps.iadd_0 post_int
    | _ => exact no h
  | str x =>
    cases b with
    | str y =>
      obtain ⟨hl, e⟩ := opt_if h
      subst e
      obtain ⟨q1, t, rfl⟩ := rep_str.mp ra
      obtain ⟨q2, u, rfl⟩ := rep_str.mp rb
      refine PyProof.Rows.iadd_str (fun t' tk => ?_) (by simpa [Str.len_mk, SZ_eq] using hl)
      rw [Str.app_mk]
      exact post_str (by simpa using hl)
    | _ => exact no h
  | _ => exact no h
theorem evAug_sound {W : Addr → Prop} {op : Operator} {a b r : PV} {va vb : Value} (h : evAug op a b = some r) (ra : Rep (frz s.heap W) a va) (rb : Rep (frz s.heap W) b vb) : wpAny (model prog w) A (inplaceOp op va vb) (Post W s r) E s := by
  cases op with
  | Add => exact augAdd_sound h ra rb
  | Sub =>
    obtain ⟨x, y, rfl, rfl, h⟩ := int2_inv h
    cases Option.some.inj h
    obtain ⟨t, rfl⟩ := rep_int.mp ra
    obtain ⟨u, rfl⟩ := rep_int.mp rb
    exact AutoIntOps.isub_0 post_int
  | _ => exact no h

theorem sat_aug {x : Str} {op : Operator} {e : MExpr} {p q r : PV} (hC : CxOk C) (hT : TOk prog w C lv T) (hxn : (x == ("__debug__" : Str) || x == ("__classdict__" : Str)) = false) (hx : ownOf Γ x) (hp : ρ x = some p) (hq : ev T μ e ρ = some q) (h : evAug op p q = some r) (hR : R .next (upd ρ x r) μ) :
    Sat1 prog w C lv Γ (.aug x op e) ρ μ R := by
  intro st hst A E V env G s₀ s hr hΓ fr
  obtain ⟨px, v, pos, rfl, rfl⟩ := inv_aug hst
  refine wpAny_AugAssign_Name ?_
  obtain ⟨v0, hv0, rv0⟩ := fr.er.vars x p hp
  have load : ∀ {Q : Value → Shared → Prop}, Q v0 s → wpAny (model prog w) A (loadName env x) Q E s := by
    intro Q hQ
    rcases hv0 with ⟨hk, m, hn, hm⟩ | ⟨hk | hk, c, hc, hi⟩
    · exact wpAny_loadName_local fr.er.kind hk hn hm hQ
    · exact wpAny_loadName_cell fr.er.kind hk hc hi hQ
    · exact wpAny_loadName_free fr.er.kind hk hc hi hQ (Bool.or_eq_false_iff.mp hxn).2
  refine load ?_
  refine wpAny_with_toks (n := s.toks) (Nat.le_refl _) (wpAny_mono (ev_sound hC hT hq A _ _ env s hr hΓ fr.er) (fun v s₁ h₁ ht => ?_) fun _ _ e => e)
  have fr1 := fr.keeps h₁.1 ht
  refine wpAny_with_toks (n := s₁.toks) (Nat.le_refl _) (wpAny_mono (evAug_sound h (rv0.keep (Keeps.k h₁.1)) h₁.2) (fun v' s₂ h₂ ht2 => ?_) fun _ _ e _ => e)
  have fr2 := fr1.keeps h₂.1 ht2
  exact wpAny_mono (fr_store fr2 hΓ hx h₂.2) (fun _ s' h' => ⟨.next, _, _, hR, rfl, h'⟩) fun _ _ e => e
end
end Mine
end

section
open PySem PySem.W PyProof.Rows PySem.SeqAt
set_option linter.unusedVariables false
namespace Mine
section
variable {prog : Program} {w : World} {C : Cx} {lv : Nat} {Γ : Names} {A : Around} {E : Value → Shared → Prop} {V : Addr → Prop} {env : Env} {G : Gr} {s₀ s s₁ : Shared} {ρ ρ' : Rho} {μ μ' : Mu} {R R' : CPost} {T : Str → List PV → Option PV}

theorem names_sub (f : Str → Pos → Bool) : ∀ (ts : List Expr) (xs : List Str), namesOf ts = some xs → (ts.filterMap fun
    | .Name id pos => if f id pos then some id else none
    | _ => none).Sublist xs ∧ ts.length = xs.length
  | [], xs, h => by cases Option.some.inj h; exact ⟨List.Sublist.slnil, rfl⟩
  | e :: es, xs, h => by
    cases e with
    | Name x pos =>
      cases hys : namesOf es with
      | none => exact no (namesOf_none hys h)
      | some ys =>
        cases namesOf_some hys h
        obtain ⟨h1, h2⟩ := names_sub f es ys hys
        refine ⟨?_, by simp [h2]⟩
        rw [List.filterMap_cons]
        simp only
        split
        · rename_i hf
          split at hf
          · cases hf
          · exact List.Sublist.cons _ h1
        · rename_i z hf
          split at hf
          · cases hf; exact List.Sublist.cons_cons _ h1
          · cases hf
    | _ => exact no h

theorem swapped_cases {ts : List Expr} {k : Nat} {tp : Pos} {xs : List Str} {v : Expr} (hn : namesOf ts = some xs) (hs : swapOk v = true) :
    swappedStores [.Tuple ts k tp] v env = pure none ∨ swappedStores [.Tuple ts k tp] v env = pure (some xs) := by
  cases v with
  | Tuple vs k2 p2 =>
    unfold swappedStores
    simp only
    split
    · exact .inl rfl
    · split
      · exact .inl rfl
      · split
        · exact .inl rfl
        · rename_i hnames
          split
          · exact .inl rfl
          · rename_i hf
            split
            · rename_i hc
              exfalso
              have hs : (!(vs.all (constantsAlone 8)) || vs.all (foldedForSure 8)) = true := hs
              rw [Bool.or_eq_true, Bool.not_eq_true'] at hs
              rcases hs with hs | hs
              · first | exact clash hs hc | (rw [hs] at hc; cases hc)
              · exact hf hs
            · refine .inr ?_
              have hh := names_sub (fun id pos => env.kindOf id == some .local && pos.line == (ts.head?.map (·.pos.line)).getD 0) ts xs hn
              have hl : (ts.filterMap fun
                | .Name id pos => if (env.kindOf id == some .local && pos.line == (ts.head?.map (·.pos.line)).getD 0) = true then some id else none
                | _ => none).length = xs.length := by
                rw [← hh.2]
                simp only [Bool.or_eq_true, bne_iff_ne, ne_eq, not_or, Decidable.not_not] at hnames
                exact hnames.1
              have := hh.1.eq_of_length hl
              exact congrArg (fun z => (pure (some z) : Sem (Option (List Str)))) this
  | _ => exact .inl rfl
end
end Mine
end

section
open PySem PySem.W PyProof.Rows PySem.SeqAt
set_option linter.unusedVariables false
namespace Mine

/-- the module's function f, as it stands -/
structure FnAt (C : Cx) (f : Str) (params : List Str) (sc : Scope) (body : List Stmt) : Prop where
  fn : ∃ a o fd, C.mg f = some (.ref a) ∧ C.h0.get? a = some o ∧ o.data = .func fd ∧ fd.globals = mainGlobals ∧ fd.builtins = builtinsNs ∧ fd.closure = [] ∧ fd.scope = sc ∧ fd.body = .stmts body ∧ C.h0.CodeRec fd.code fd.qualname ∧
    (∀ vals : List Value, vals.length = params.length → bindArgs fd ⟨vals, []⟩ = pure (params.zip vals))
  kind : sc.kind = .function
  co : sc.isCoroutine = false
  gen : sc.isGenerator = false
  own : ∀ x ∈ params, ownOf sc.names x
  nofree : ∀ x, sc.names.lookup x ≠ some .free

/-- what a function's body gives back -/
noncomputable def Ret (r : PV) : CPost := fun c ρ μ => ∃ p, c = .ret p ∧ rs μ p = r

section
variable {prog : Program} {w : World} {C : Cx} {lv : Nat} {Γ : Names} {A : Around} {E : Value → Shared → Prop} {s : Shared} {ρ ρ' : Rho} {μ : Mu}

noncomputable def Bound (kindOf : Str → Option NameKind) (g : Gr) (ρ : Rho) (m cm : Str → Option Value) : Prop :=
  ∀ x p, ρ x = some p → ∃ v, ((kindOf x = some .local ∧ m x = some v) ∨ (kindOf x = some .cell ∧ cm x = some v)) ∧ Rep g p v

theorem bound_zip {kindOf : Str → Option NameKind} {g : Gr} : ∀ (params : List Str) (args : List PV) (vals : List Value) (ρ ρ' : Rho) (m cm : Str → Option Value), updMany ρ params args = some ρ' → Reps g args vals →
    (∀ x ∈ params, kindOf x = some .local ∨ kindOf x = some .cell) → Bound kindOf g ρ m cm → Bound kindOf g ρ' (bindL kindOf (params.zip vals) m) (bindC kindOf (params.zip vals) cm)
  | [], args, vals, ρ, ρ', m, cm, h, r, hk, hb => by
    cases args with
    | nil => cases Option.some.inj h; exact hb
    | cons _ _ => exact no h
  | n :: ns, args, vals, ρ, ρ', m, cm, h, r, hk, hb => by
    cases args with
    | nil => exact no h
    | cons p ps =>
      have r := reps_cons.mp r
      obtain ⟨v, vs', rfl, rv, rr⟩ := r
      have h : updMany (upd ρ n p) ns ps = some ρ' := h
      rw [List.zip_cons_cons, bindL, bindC]
      refine bound_zip ns ps vs' _ ρ' _ _ h rr (fun x hx => hk x (List.mem_cons_of_mem _ hx)) ?_
      intro x q hx
      unfold upd at hx
      by_cases e : x = n
      · subst e
        rw [if_pos rfl] at hx; cases hx
        refine ⟨v, ?_, rv⟩
        rcases hk x List.mem_cons_self with h1 | h1
        · exact .inl ⟨h1, by rw [if_pos h1]; simp⟩
        · refine .inr ⟨h1, ?_⟩
          rw [if_neg (by rw [h1]; decide)]; simp
      · rw [if_neg e] at hx
        obtain ⟨u, hu, ru⟩ := hb x q hx
        refine ⟨u, ?_, ru⟩
        rcases hu with ⟨k1, k2⟩ | ⟨k1, k2⟩
        · refine .inl ⟨k1, ?_⟩
          split
          · simp only [if_neg e]; exact k2
          · exact k2
        · refine .inr ⟨k1, ?_⟩
          split
          · exact k2
          · simp only [if_neg e]; exact k2

theorem fn_call {f : Str} {params : List Str} {sc : Scope} {body : List Stmt} {args : List PV} {r : PV} {ρ0 : Rho} (hC : CxOk C) (F : FnAt C f params sc body) (hb : updMany (fun _ => none) params args = some ρ0)
    (hsat : SatM prog w C lv sc.names (trSs sc.names body) ρ0 (fun _ => none) (Ret r)) : CallOk prog w C (lv + 1) f args r := by
  obtain ⟨a, o, fd, h1, h2, h3, h4, h5, h6, h7, h8, h9, h10⟩ := F.fn
  refine ⟨a, o, fd, h1, h2, h3, fun A E W s vs hr hbase htk hwl hwb rp => ?_⟩
  have hlen : vs.length = params.length := by rw [rp.length, updMany_len _ _ _ _ hb]
  have hlim : s.heap.NoLimit := hC.lim.keeps hbase
  have hcd : s.heap.CodeRec fd.code fd.qualname := h9.keeps hbase
  refine wpAny_call (codeAny_call_function (by show A.depth < 1000; have := hr.dp; lia) (hbase _ _ h2) h3 (by rw [h7]; exact F.co) (by rw [h7]; exact F.gen) h8 hcd ?_)
  rw [h10 vs hlen, h6]
  have hkindP : ∀ x ∈ params.zip vs, fd.scope.names.lookup x.1 = some .local ∨ (fd.scope.names.lookup x.1 = some .cell ∧ ((cellsFrom (s.heap.objs.size + 1) fd.scope.names []).lookup x.1).isSome = true) := by
    intro x hx
    have := F.own x.1 (List.of_mem_zip hx).1
    rw [h7]
    rcases this with e | e
    · exact .inl e
    · refine .inr ⟨e, ?_⟩
      obtain ⟨c, hc, _⟩ := cellsFrom_new x.1 0 sc.names (s.heap.objs.size + 1) [] (Nat.zero_le _) (.inr (mem_of_lookup e))
      rw [hc]; rfl
  refine wpAny_pure (wpAny_with_toks (n := s.toks) (Nat.le_refl _) (wpAny_newFunctionEnv_cells (by rw [h7]; exact F.kind) hkindP fun env he s₁ x => fun htk1 => ⟨hlim.keeps x.toInCall.keep, codeAny_func ?_⟩))
  have hsc : env.scope = sc := by rw [he]; exact h7
  have hloc : env.locals = s.heap.objs.size := by rw [he]; rfl
  have hcells : env.cells = cellsFrom (s.heap.objs.size + 1) sc.names [] := by rw [he, ← h7]; rfl
  have hΓ : env.scope.names = sc.names := by rw [hsc]
  have fresh : ∀ b, s.heap.objs.size ≤ b → s.heap.get? b = none := fun b hb => by
    cases e : s.heap.get? b with
    | none => rfl
    | some o => exact absurd (Heap.lt_size e) (Nat.not_lt.mpr hb)
  have h0none : ∀ b, s.heap.get? b = none → C.h0.get? b = none := fun b hb => by
    cases e : C.h0.get? b with
    | none => rfl
    | some o => rw [hbase b o e] at hb; cases hb
  have hcf : ∀ y c, env.cells.lookup y = some c → s.heap.get? c = none := fun y c hc => fresh c (by
    have := x.above y c (mem_of_lookup hc)
    rw [hloc] at this; exact Nat.le_of_lt this)
  have hlf : s.heap.get? env.locals = none := by rw [hloc]; exact fresh _ (Nat.le_refl _)
  have hcel : ∀ y c, env.cells.lookup y = some c → ∃ cv, s₁.heap.IsCell c cv := fun y c hc => ⟨_, x.cell y c hc⟩
  have hns : ∃ m, s₁.heap.Ns env.locals m := ⟨_, x.toInCall.ns⟩
  have hWf : ∀ a, Wof env (fun _ => none) a → s.heap.get? a = none := by
    rintro a (rfl | ⟨y, hy⟩ | h)
    · exact hlf
    · exact hcf y a hy
    · cases h
  have hkd : ∀ y ∈ params, env.kindOf y = some .local ∨ env.kindOf y = some .cell := fun y hy => by
    show env.scope.names.lookup y = _ ∨ env.scope.names.lookup y = _
    rw [hΓ]; exact F.own y hy
  have bz := bound_zip params args vs (fun _ => none) ρ0 (fun _ => none) (fun _ => none) hb rp hkd (fun _ _ h => by cases h)
  have er : ER C (fun a => Wof env (fun _ => none) a ∨ W a) env s₁ ρ0 (fun _ => none) := by
    refine ⟨by rw [hsc]; exact F.kind, by rw [he]; exact h4, by rw [he]; exact h5, fun b o e => x.toInCall.keep b o (hbase b o e), ?_, ⟨?_, fun a xs hx => by cases hx⟩, ?_, Nat.le_trans htk htk1, ?_, ?_, hcel⟩
    · rintro a (h | h)
      · exact h0none a (hWf a h)
      · exact hwb a h
    · rintro a ((rfl | ⟨y, hy⟩ | h) | h)
      · obtain ⟨m, o, _, _, ho, _⟩ := hns; exact ⟨o, ho⟩
      · obtain ⟨cv, o, ho, _⟩ := hcel y a hy; exact ⟨o, ho⟩
      · cases h
      · obtain ⟨o, ho⟩ := hwl a h; exact ⟨o, x.toInCall.keep a o ho⟩
    · intro y p hy
      obtain ⟨v, hv, rv⟩ := bz y p hy
      refine ⟨v, ?_, Rep.mono (fun a o z => ⟨x.toInCall.keep a o z.1, fun hw => hw.elim (fun h => by have := hWf a h; first | exact clash z.1 this | (rw [z.1] at this; cases this)) z.2⟩) _ _ rv⟩
      rcases hv with ⟨k1, k2⟩ | ⟨k1, k2⟩
      · exact .inl ⟨k1, _, x.toInCall.ns, k2⟩
      · have k1' : sc.names.lookup y = some .cell := by rw [← hΓ]; exact k1
        obtain ⟨c, hc, _⟩ := cellsFrom_new y 0 sc.names (s.heap.objs.size + 1) [] (Nat.zero_le _) (.inr (mem_of_lookup k1'))
        rw [← hcells] at hc
        have := x.cell y c hc
        rw [k2] at this
        exact .inr ⟨.inl k1, c, hc, this⟩
    · intro y hy
      rcases hy with k1 | k1
      · have k1' : sc.names.lookup y = some .cell := by rw [← hΓ]; exact k1
        obtain ⟨c, hc, _⟩ := cellsFrom_new y 0 sc.names (s.heap.objs.size + 1) [] (Nat.zero_le _) (.inr (mem_of_lookup k1'))
        rw [← hcells] at hc
        obtain ⟨cv, hcv⟩ := hcel y c hc
        exact ⟨c, cv, hc, hcv⟩
      · exact absurd (by rw [← hΓ]; exact k1) (F.nofree y)
    · intro y z c hy hz
      exact name_of_addr x.apart (mem_of_lookup hy) (mem_of_lookup hz)
  have fr : FR C env W (fun a o => s.heap.get? a = some o) s s₁ ρ0 (fun _ => none) :=
    ⟨er, hns, x.toInCall.same, fun a o g => x.toInCall.keep a o g, fun a o g hw => (by have := hWf a hw; first | exact clash g this | (rw [g] at this; cases this)), fun a hv hw => (by obtain ⟨o, ho⟩ := hwl a hv; have := hWf a hw; first | exact clash ho this | (rw [ho] at this; cases this))⟩
  have hroom : Room lv (A.deeper env) := ⟨hr.hd, by have := hr.dp; show A.depth + 1 + lv + 1 ≤ 900; lia, by have := hr.un; show A.units + 3 + 4 * lv + 100 ≤ 9000; lia⟩
  refine wpAny_mono (hsat body rfl (A.deeper env) _ W env _ s s₁ hroom hΓ fr) (fun fl s' ho => ?_) fun _ _ e => e
  obtain ⟨c, ρ', μ', ⟨p, rfl, hp⟩, hfl, fr'⟩ := ho
  obtain ⟨v, rfl, rv⟩ := hfl
  subst hp
  refine ⟨?_, ?_⟩
  · obtain ⟨h', tk', e⟩ := fr'.shape
    exact ⟨h', tk', e, fun b o hb => by have := fr'.prot b o hb; rw [e] at this; exact this⟩
  · refine Rep.mono (fun a o z => ⟨z.1, fun hw => z.2 ⟨.inr hw, ?_⟩⟩) _ _ (rs_rep fr'.er.sr rv)
    cases e : μ' a with
    | none => rfl
    | some xs =>
      obtain ⟨o', ho'⟩ := hwl a hw
      exact absurd (.inr (.inr (by rw [e]; rfl))) (fr'.apart a o' ho')
end
end Mine
end

section
open PySem PySem.W PyProof.Rows PySem.SeqAt
set_option linter.unusedVariables false
namespace Mine
section
variable {prog : Program} {w : World} {C : Cx} {lv : Nat} {Γ : Names} {A : Around} {E : Value → Shared → Prop} {V : Addr → Prop} {env : Env} {G : Gr} {s₀ s s₁ : Shared} {ρ ρ' : Rho} {μ μ' : Mu} {R R' : CPost} {T : Str → List PV → Option PV}

/-- two names take the two items of a tuple, in either order of the stores -/
theorem unpack_core {ts : List Expr} {k : Nat} {tp : Pos} {x y : Str} {p q : PV} {v : Value} {sw : Option (List Str)} (fr : FR C env V G s₀ s ρ μ) (hr : Room lv A) (hΓ : env.scope.names = Γ) (hn : namesOf ts = some [x, y]) (hx : ownOf Γ x) (hy : ownOf Γ y) (hxy : x ≠ y)
    (hsw : sw = none ∨ sw = some [x, y]) (rv : Rep (frz s.heap (fun a => Wof env μ a ∨ V a)) (.tup [p, q]) v) :
    wpAny (model prog w) A (assignStores env v sw ((assignEach [.Tuple ts k tp] env).map (·.2))) (fun fl s' => fl = .next ∧ FR C env V G s₀ s' (upd (upd ρ x p) y q) μ) E s := by
  rcases hsw with rfl | rfl
  · show wpAny _ _ (do assignAll v [assign (.Tuple ts k tp) env]; pure Flow.next) _ _ _
    refine wpAny_bind (wpAny_mono (fr_assign (tgt := .Tuple ts k tp) (q := .tup [p, q]) (ρ' := upd (upd ρ x p) y q) fr hr hΓ (by rw [trTgt_some hn]; rfl) (fun z hz => ?_) rv) (fun _ s' h' => wpAny_pure ⟨rfl, h'⟩) fun _ _ e => e)
    rw [trTgt_some hn] at hz
    rcases List.mem_cons.mp hz with rfl | hz
    · exact hx
    · rw [List.mem_singleton.mp hz]; exact hy
  · obtain ⟨b, vs, n, rfl, hg, hl, hrp⟩ := rep_tup.mp rv
    obtain ⟨v1, v2, rfl, r1, r2⟩ := reps_two hrp
    show wpAny _ _ (do rule "assign.swapped-stores"; let items ← unpackItems (.ref b) ([v1, v2].toArray).size none; assignInOrder [bindName env y, bindName env x] items.reverse; pure Flow.next) _ _ _
    refine wpAny_bind (wpAny_rule (wpAny_bind (wpAny_unpackItems_tuple (items := [v1, v2].toArray) hr.hd (isTuple_of hg.1) fun h' he => ?_)))
    have hk : ∀ b o, s.heap.get? b = some o → h'.get? b = some o := fun b o e => he b o (Nat.ne_of_lt (Heap.lt_size e)) e
    have fr1 := fr.keeps (s₁ := { s with heap := h' }) ⟨h', s.toks, rfl, hk⟩ (Nat.le_refl _)
    show wpAny _ _ ((holding [v1] (bindName env y v2) >>= fun _ => assignInOrder [bindName env x] [v1]) >>= fun _ => pure Flow.next) _ _ _
    refine wpAny_bind (wpAny_bind (wpAny_holding (wpAny_bindName ?_)))
    have r1' : Rep (frz h' (fun a => Wof env μ a ∨ V a)) p v1 := r1.keep hk
    have r2' : Rep (frz h' (fun a => Wof env μ a ∨ V a)) q v2 := r2.keep hk
    obtain ⟨hky, hwy⟩ := slot_W fr1 hΓ hy
    refine wpAny_mono (store_KB (M := fun a => a = slotOf env y) fr1.er fr1.ns hky (.inl hwy) rfl r2') (fun _ s₂ h₂ => ?_) fun _ _ e => e
    have fr2 := fr1.step h₂.1 (fun a ha => ha ▸ hwy) h₂.2.1 h₂.2.2 fun a ha => .inl ha
    have r1'' : Rep (frz s₂.heap (fun a => Wof env μ a ∨ V a)) p v1 := Rep.mono (fun a o z => ⟨h₂.1.2.1 a o (fun e => z.2 (.inl (e ▸ hwy))) z.1, z.2⟩) _ _ r1'
    show wpAny _ _ (holding [] (bindName env x v1) >>= fun _ => assignInOrder [] []) _ _ _
    refine wpAny_bind (wpAny_holding (wpAny_bindName (wpAny_mono (fr_store fr2 hΓ hx r1'') (fun _ s₃ fr3 => ?_) fun _ _ e => e)))
    refine wpAny_pure (wpAny_pure ⟨rfl, ?_⟩)
    have : upd (upd ρ y q) x p = upd (upd ρ x p) y q := by
      funext z
      unfold upd
      by_cases e1 : z = x
      · subst e1; simp [hxy]
      · simp [e1]
    rw [← this]
    exact fr3

theorem exec_unpack {ts : List Expr} {k : Nat} {tp : Pos} {v : Expr} {pos : Pos} {x y : Str} {p q : PV} (hr : Room lv A) (hΓ : env.scope.names = Γ) (hn : namesOf ts = some [x, y]) (hs : swapOk v = true) (hx : ownOf Γ x) (hy : ownOf Γ y) (hxy : x ≠ y) {μ' : Mu}
    (hsole : swapsWithSole [.Tuple ts k tp] v pos.line env = pure false) (h : wpAny (model prog w) A (eval v env) (fun v s₁ => ∃ μ' p q, R .next (upd (upd ρ x p) y q) μ' ∧ FR C env V G s₀ s₁ ρ μ' ∧ Rep (frz s₁.heap (fun a => Wof env μ' a ∨ V a)) (.tup [p, q]) v) E s) :
    wpAny (model prog w) A (exec (.Assign [.Tuple ts k tp] v pos) env) (Out C env V G s₀ R) E s := by
  rw [PyProof.Rows.exec_Assign, hsole]
  refine wpAny_bind (wpAny_standAt (wpAny_bind (wpAny_pure ?_)))
  refine KFB.if_not rfl ?_
  refine wpAny_bind (wpAny_mono h (fun u s₁ h₁ => ?_) fun _ _ e => e)
  obtain ⟨μ', p, q, hR, fr, rv⟩ := h₁
  rcases swapped_cases (env := env) (k := k) (tp := tp) hn hs with e | e
  · refine wpAny_bind (wpAny_of_eq e ?_)
    exact wpAny_mono (unpack_core fr hr hΓ hn hx hy hxy (.inl rfl) rv) (fun fl s' h' => ⟨.next, _, _, hR, h'.1, h'.2⟩) fun _ _ e => e
  · refine wpAny_bind (wpAny_of_eq e ?_)
    exact wpAny_mono (unpack_core fr hr hΓ hn hx hy hxy (.inr rfl) rv) (fun fl s' h' => ⟨.next, _, _, hR, h'.1, h'.2⟩) fun _ _ e => e

theorem sole_tuple {ts : List Expr} {k : Nat} {tp : Pos} {v : Expr} {l : Nat} : swapsWithSole [.Tuple ts k tp] v l env = pure false := by
  show swapsWith v (some (.Tuple ts k tp)) l env = pure false
  unfold swapsWith
  cases v <;> rfl

theorem sat_unpack {x y : Str} {e : MExpr} {p q : PV} (hC : CxOk C) (hT : TOk prog w C lv T) (hx : ownOf Γ x) (hy : ownOf Γ y) (hxy : x ≠ y) (h : ev T μ e ρ = some (.tup [p, q])) (hR : R .next (upd (upd ρ x p) y q) μ) : Sat1 prog w C lv Γ (.unpack [x, y] e) ρ μ R := by
  intro st hst A E V env G s₀ s hr hΓ fr
  obtain ⟨ts, k, tp, v, pos, rfl, hn, rfl, hs⟩ := inv_unpack hst
  exact exec_unpack (p := p) (q := q) (μ' := μ) hr hΓ hn hs hx hy hxy sole_tuple (fr.evStep hC hT hr hΓ h fun u s₁ fr1 rv => ⟨μ, p, q, hR, fr1, rv⟩)

/-- an owned list is written no more -/
noncomputable def froze (μ : Mu) (a : Addr) (p : PV) : PV := match p with
  | .own b => if b = a then (match μ a with | some xs => .lst xs | none => p) else p
  | p => p
noncomputable def muDel (μ : Mu) (a : Addr) : Mu := fun b => if b = a then none else μ b

theorem froze_rep {W W' : Addr → Prop} {h : Heap} {a : Addr} {p : PV} {v : Value} {xs : List PV} {vs : List Value} {n : Nat} (hμ : μ a = some xs) (ha : h.get? a = some (lObj vs n)) (hl : vs.length ≤ SZ) (hW : ∀ b, W' b → W b ∧ b ≠ a) (hrp : Reps (frz h W) xs vs) (r : Rep (frz h W) p v) : Rep (frz h W') (froze μ a p) v := by
  have mono : ∀ b o, frz h W b o → frz h W' b o := fun b o z => ⟨z.1, fun hw => z.2 (hW b hw).1⟩
  cases p with
  | own b =>
    unfold froze
    simp only
    split
    · rename_i e
      subst e
      rw [hμ]
      have := rep_own.mp r; subst this
      exact rep_lst.mpr ⟨b, vs, n, rfl, ⟨ha, fun hw => (hW b hw).2 rfl⟩, hl, Reps.mono mono _ _ hrp⟩
    · exact Rep.mono mono _ _ r
  | _ => exact Rep.mono mono _ _ r

theorem sat_freeze {a : Addr} {xs : List PV} {ms : List MStmt} (hμ : μ a = some xs) (h : SatM prog w C lv Γ ms (fun x => (ρ x).map (froze μ a)) (muDel μ a) R) : SatM prog w C lv Γ ms ρ μ R := by
  intro ss hss A E V env G s₀ s hr hΓ fr
  have hWa : Wof env μ a := .inr (.inr (by rw [hμ]; rfl))
  obtain ⟨us, j, h1, h2, h3⟩ := fr.er.sr.ls a xs hμ
  obtain ⟨m, hm⟩ := fr.ns
  have hLa : env.locals ≠ a := by rintro rfl; exact ns_not_list hm h1
  have hca : ∀ x c, env.cells.lookup x = some c → c ≠ a := by rintro x c hc rfl; obtain ⟨cv, hi⟩ := fr.er.cel x c hc; exact cell_not_list hi h1
  have hsub : ∀ b, Wof env (muDel μ a) b → Wof env μ b ∧ b ≠ a := by
    rintro b (rfl | ⟨y, hy⟩ | hb)
    · exact ⟨.inl rfl, hLa⟩
    · exact ⟨.inr (.inl ⟨y, hy⟩), hca y b hy⟩
    · unfold muDel at hb
      split at hb
      · cases hb
      · rename_i e; exact ⟨.inr (.inr hb), e⟩
  have hsub2 : ∀ b, (Wof env (muDel μ a) b ∨ V b) → (Wof env μ b ∨ V b) ∧ b ≠ a := by
    rintro b (hb | hb)
    · exact ⟨.inl (hsub b hb).1, (hsub b hb).2⟩
    · exact ⟨.inr hb, fun e => fr.vd b hb (e ▸ hWa)⟩
  have mono : ∀ b o, frz s.heap (fun b => Wof env μ b ∨ V b) b o → frz s.heap (fun b => Wof env (muDel μ a) b ∨ V b) b o := fun b o z => ⟨z.1, fun hw => z.2 (hsub2 b hw).1⟩
  have er := fr.er
  refine h ss hss A E V env G s₀ s hr hΓ ⟨⟨er.kind, er.gl, er.bl, er.base, fun b hb => er.wb b (hsub2 b hb).1, ⟨fun b hb => er.sr.wl b (hsub2 b hb).1, fun b ys hb => ?_⟩, fun x p hx => ?_, er.tk, er.has, er.apart, er.cel⟩, fr.ns, fr.shape, fr.prot, fun b o g hw => fr.apart b o g (hsub b hw).1, fun b hv hw => fr.vd b hv (hsub b hw).1⟩
  · unfold muDel at hb
    split at hb
    · cases hb
    · obtain ⟨vs, n, q1, q2, q3⟩ := er.sr.ls b ys hb
      exact ⟨vs, n, q1, q2, Reps.mono mono _ _ q3⟩
  · simp only [Option.map_eq_some_iff] at hx
    obtain ⟨q, hq, rfl⟩ := hx
    obtain ⟨v, q1, q2⟩ := er.vars x q hq
    exact ⟨v, q1, froze_rep hμ h1 h2 hsub2 h3 q2⟩
end
end Mine
end

section
open PySem PySem.W PyProof.Rows PySem.SeqAt
set_option linter.unusedVariables false
namespace Mine

theorem cx_of {p : Program} {loose : List Str} {mean : ExcName → Option Value} {mg mb : Str → Option Value} {h : Heap} (T : Top p loose mean mg mb h) (tk0 : Nat)
    (hb : (biNames ++ biMore).all (fun x => !startupNames.contains x && !loose.contains x && !((recsOf p).map (·.name)).contains x && !((litsOf p).map (·.1)).contains x && !((clssOf p loose).map (·.name)).contains x && x != "__name__") = true) : CxOk ⟨h, mg, mb, tk0⟩ := by
  have key : ∀ x ∈ biNames ++ biMore, mg x = none ∧ mb x = bootBuiltins x := fun x hx => ?_
  · exact ⟨T.g, T.b, T.nolimit, fun x hx => key x (List.mem_append_left _ hx), fun x hx => key x (List.mem_append_right _ hx)⟩
  have := List.all_eq_true.mp hb x hx
  simp only [Bool.and_eq_true, Bool.not_eq_true', bne_iff_ne, ne_eq] at this
  obtain ⟨⟨⟨⟨⟨h1, h2⟩, h3⟩, h4⟩, h5⟩, h6⟩ := this
  have nm : ∀ {l : List Str}, l.contains x = false → x ∉ l := fun h hm => by
    rw [List.contains_iff_mem.mpr hm] at h; cases h
  exact ⟨T.free x (nm h1) (nm h2) (nm h3) (nm h4) (nm h5), T.builtins x h6⟩

theorem fn_of {p : Program} {loose : List Str} {mean : ExcName → Option Value} {mg mb : Str → Option Value} {h : Heap} (T : Top p loose mean mg mb h) (tk0 : Nat) (d : DefRec) (hd : d ∈ recsOf p) (params : List Str)
    (hp : ∀ (pm code doc : Value) (vals : List Value), vals.length = params.length → bindArgs (Calls.docDef d.name d.params d.body d.scope pm code doc) ⟨vals, []⟩ = pure (params.zip vals))
    (hk : d.scope.kind = .function) (hco : d.scope.isCoroutine = false) (hgen : d.scope.isGenerator = false) (hown : ∀ x ∈ params, ownOf d.scope.names x) (hfree : ∀ x, d.scope.names.lookup x ≠ some .free) :
    FnAt ⟨h, mg, mb, tk0⟩ d.name params d.scope d.body := by
  obtain ⟨a, o, pm, code, doc, h1, h2, h3, h4⟩ := T.fn d hd
  exact ⟨⟨a, o, _, h1, h2, h3, rfl, rfl, rfl, rfl, rfl, h4, fun vals hv => hp pm code doc vals hv⟩, hk, hco, hgen, hown, hfree⟩

theorem nofree_of {ns : Names} (h : ns.all (fun x => x.2 != .free) = true) : ∀ x, ns.lookup x ≠ some .free := by
  intro x hx
  have := List.all_eq_true.mp h (x, .free) (mem_of_lookup hx)
  cases this

/-- the script: a list of whole numbers -/
theorem script_of {P : Params} {h : Heap} {vals : List Value} {is : List Int} (hw : WellAll P h vals [.list (is.map .int)]) (hl : is.length ≤ 63) : Reps (frz h (fun _ => False)) [.lst (is.map .int)] vals := by
  cases hw with
  | cons h1 h2 =>
    cases h2
    cases h1 with
    | @list a vs _ ho hvs =>
      have key : ∀ (is : List Int) (vs : List Value), WellAll P h vs (is.map .int) → Reps (frz h (fun _ => False)) (is.map .int) vs := by
        intro is
        induction is with
        | nil => intro vs hv; cases hv; exact Reps.nil
        | cons i is ih =>
          intro vs hv
          cases hv with
          | cons g1 g2 =>
            cases g1
            exact Reps.cons (rep_int.mpr ⟨_, rfl⟩) (ih _ g2)
      have hr := key is vs hvs
      exact Reps.cons (rep_lst.mpr ⟨a, vs, 0, rfl, ⟨ho, fun h => h⟩, by rw [hr.length]; simp [SZ]; lia, hr⟩) Reps.nil

theorem pre_ints {R : WRecords} {args : List WData} (h : WShape.hasAll R args [.list .int] = true) : ∃ is : List Int, args = [.list (is.map .int)] := by
  obtain ⟨d, r, rfl, h1, h2⟩ := hasAllW_cons h
  have := hasAllW_nil h2; subst this
  obtain ⟨xs, rfl, h3⟩ := hasW_list h1
  have key : ∀ xs : List WData, WShape.hasItems R xs .int = true → ∃ is : List Int, xs = is.map .int := by
    intro xs
    induction xs with
    | nil => intro _; exact ⟨[], rfl⟩
    | cons x xs ih =>
      intro hx
      simp only [WShape.hasItems, Bool.and_eq_true] at hx
      obtain ⟨i, rfl⟩ := hasW_int hx.1
      obtain ⟨is, rfl⟩ := ih hx.2
      exact ⟨i :: is, rfl⟩
  obtain ⟨is, rfl⟩ := key xs h3
  exact ⟨is, rfl⟩

theorem pre_len {R : WRecords} {is : List Int} (h : WTm.holds R (((WTm.lit (WData.int (Int.ofNat 63))).lt (WTm.arg 0).len).not.and (WTm.lit (WData.bool true))) { args := [.list (is.map .int)] } = true) : is.length ≤ 63 := by
  rcases Nat.lt_or_ge 63 is.length with hh | hh
  · exfalso
    have hl : less? (WData.int 63) (WData.int is.length) = some true := by
      show some (decide ((63 : Int) < (is.length : Int))) = some true
      rw [decide_eq_true (by lia)]
    simp [WTm.holds, WTm.value, hl] at h
  · exact hh

/-- the end of the law: True comes back, all else is kept -/
theorem good_true {c : ClaimW} {cl : Str → Option Addr} {mean : ExcName → Option Value} {args : List WData} {s s' : Shared} {v : Value} {W : Addr → Prop} (hg : s.gens = #[]) (hra : ∀ cls, c.raises args cls = false) (hpost : c.post args (.bool true) args = true)
    (h : Post W s (.bool true) v s') : GoodWG c cl mean args s (.ok (.ret v)) s' := by
  have := rep_bool.mp h.2; subst this
  obtain ⟨h', tk, rfl, hk⟩ := h.1
  exact GoodW.toG ⟨.inl ⟨_, _, _, rfl, hra, .bool true, hpost, fun _ => ⟨List.nodup_nil, fun a ha => (nomatch ha)⟩⟩, hk, rfl, hg⟩
end Mine
end

section
open PySem PySem.W PyProof.Rows PySem.SeqAt
set_option linter.unusedVariables false
set_option maxRecDepth 10000
namespace Mine

section
variable {T : Str → List PV → Option PV} {μ : Mu} {ρ : Rho} {a b c : MExpr} {x y z : PV}
theorem ev_cmp_of {op : CmpOp} (h1 : ev T μ a ρ = some x) (h2 : ev T μ b ρ = some y) : ev T μ (.cmp op a b) ρ = evCmp μ op x y := by
  show (match ev T μ a ρ, ev T μ b ρ with
    | some x, some y => evCmp μ op x y
    | _, _ => none) = _
  rw [h1, h2]
theorem ev_bin_of {op : Operator} (h1 : ev T μ a ρ = some x) (h2 : ev T μ b ρ = some y) : ev T μ (.bin op a b) ρ = evBin μ op x y := by
  show (match ev T μ a ρ, ev T μ b ρ with
    | some x, some y => evBin μ op x y
    | _, _ => none) = _
  rw [h1, h2]
theorem ev_idx_of (h1 : ev T μ a ρ = some x) (h2 : ev T μ b ρ = some y) : ev T μ (.idx a b) ρ = evIdx μ x y := by
  show (match ev T μ a ρ, ev T μ b ρ with
    | some x, some y => evIdx μ x y
    | _, _ => none) = _
  rw [h1, h2]
theorem ev_and_of {p q : Bool} (h1 : ev T μ a ρ = some (.bool p)) (h2 : p = true → ev T μ b ρ = some (.bool q)) : ev T μ (.and a b) ρ = some (.bool (p && q)) := by
  show (match ev T μ a ρ with
    | some x => match truth x with
      | some true => ev T μ b ρ
      | some false => some x
      | none => none
    | none => none) = _
  rw [h1]
  cases p with
  | true => exact h2 rfl
  | false => rfl
theorem ev_or_of {p q : Bool} (h1 : ev T μ a ρ = some (.bool p)) (h2 : p = false → ev T μ b ρ = some (.bool q)) : ev T μ (.or a b) ρ = some (.bool (p || q)) := by
  show (match ev T μ a ρ with
    | some x => match truth x with
      | some true => some x
      | some false => ev T μ b ρ
      | none => none
    | none => none) = _
  rw [h1]
  cases p with
  | true => rfl
  | false => exact h2 rfl
theorem evs_one (h1 : ev T μ a ρ = some x) : evs T μ [a] ρ = some [x] := by
  show (match ev T μ a ρ, some [] with
    | some x, some xs => some (x :: xs)
    | _, _ => none) = _
  rw [h1]
theorem evs_more {es : List MExpr} {xs : List PV} (h1 : ev T μ a ρ = some x) (h2 : evs T μ es ρ = some xs) : evs T μ (a :: es) ρ = some (x :: xs) := by
  show (match ev T μ a ρ, evs T μ es ρ with
    | some x, some xs => some (x :: xs)
    | _, _ => none) = _
  rw [h1, h2]
theorem ev_call_of {f : Str} {es : List MExpr} {xs : List PV} (h : evs T μ es ρ = some xs) (hf : f ∉ biNames) (ho : xs.all notOwn = true) : ev T μ (.call f es) ρ = T f xs := by
  show (match evs T μ es ρ with
    | some xs => if f ∈ biNames then evCall μ f xs else
      if xs.all notOwn then T f xs else match T f (xs.map (rs μ)) with
        | some r => if flat r then some r else none
        | none => none
    | none => none) = _
  rw [h]
  show (if f ∈ biNames then _ else _) = _
  rw [if_neg hf, if_pos ho]
theorem ev_bi_of {f : Str} {es : List MExpr} {xs : List PV} (h : evs T μ es ρ = some xs) (hf : f ∈ biNames) : ev T μ (.call f es) ρ = evCall μ f xs := by
  show (match evs T μ es ρ with
    | some xs => if f ∈ biNames then evCall μ f xs else
      if xs.all notOwn then T f xs else match T f (xs.map (rs μ)) with
        | some r => if flat r then some r else none
        | none => none
    | none => none) = _
  rw [h]
  exact if_pos hf
theorem ev_len_of {n : Nat} (h : ev T μ a ρ = some x) (hl : lenV (rs μ x) = some (.int n)) : ev T μ (.call "len" [a]) ρ = some (.int n) := (ev_bi_of (evs_one h) (by decide)).trans hl
theorem rs_own {u : Addr} {xs : List PV} (h : μ u = some xs) : rs μ (.own u) = .lst xs := by
  show (match μ u with
    | some xs => PV.lst xs
    | none => .own u) = _
  rw [h]
theorem idx_own {u : Addr} {xs : List PV} {k : Int} (h : μ u = some xs) : evIdx μ (.own u) (.int k) = getI xs k := by
  show (match rs μ (.own u) with
    | .lst xs => getI xs k
    | .tup xs => getI xs k
    | .str xs => (getI xs k).map fun c => PV.str [c]
    | _ => none) = _
  rw [rs_own h]
theorem ev_meth_of {o : MExpr} {m : Str} {es : List MExpr} {xs : List PV} (h1 : ev T μ o ρ = some x) (h2 : evs T μ es ρ = some xs) : ev T μ (.meth o m es) ρ = evMeth μ x m xs := by
  show (match ev T μ o ρ, evs T μ es ρ with
    | some x, some xs => evMeth μ x m xs
    | _, _ => none) = _
  rw [h1, h2]
theorem join_own {u : Addr} {xs : List PV} {w : List Nat} (hμ : μ u = some xs) (hj : joinStrs [] xs = some w) (hl : w.length ≤ SZ) : evMeth μ (.str []) "join" [.own u] = some (.str w) := by
  show (match rs μ (.own u) with
      | .lst xs => match joinStrs [] xs with
        | some y => if y.length + ([] : List Nat).length ≤ SZ then some (PV.str y) else none
        | none => none
      | _ => none) = _
  rw [rs_own hμ]
  show (match joinStrs [] xs with
        | some y => if y.length + ([] : List Nat).length ≤ SZ then some (PV.str y) else none
        | none => none) = _
  rw [hj]
  exact if_pos (by rw [List.length_nil, Nat.add_zero]; exact hl)
theorem ev_tup_of {es : List MExpr} {xs : List PV} (h : evs T μ es ρ = some xs) (hl : xs.length ≤ SZ) : ev T μ (.tup es) ρ = some (.tup xs) := by
  show (match evs T μ es ρ with
    | some xs => if xs.length ≤ SZ then some (PV.tup xs) else none
    | none => none) = _
  rw [h]
  exact if_pos hl
/-- a text between two written ones -/
theorem ev_fstr3 {l r y : List Nat} {e : MExpr} (h : ev T μ e ρ = some (.str y)) (hl : l.length + (y.length + (r.length + 0)) ≤ SZ) : ev T μ (.fstr [(.const (.str l)), (.fmt e), (.const (.str r))]) ρ = some (.str (l ++ y ++ r)) := by
  have h1 : ev T μ (.fmt e) ρ = some (.str y) := by
    show (match ev T μ e ρ with
      | some (.str x) => some (PV.str x)
      | _ => none) = _
    rw [h]
  have h2 : evs T μ [(.const (.str l)), (.fmt e), (.const (.str r))] ρ = some [.str l, .str y, .str r] := evs_more (x := .str l) rfl (evs_more h1 (evs_one rfl))
  show (match evs T μ [(.const (.str l)), (.fmt e), (.const (.str r))] ρ with
    | some xs => match catStrs xs with
      | some y => if y.length ≤ SZ ∧ 2 ≤ 3 then some (PV.str y) else none
      | none => none
    | none => none) = _
  rw [h2]
  show (if (l ++ (y ++ (r ++ []))).length ≤ SZ ∧ 2 ≤ 3 then some (PV.str (l ++ (y ++ (r ++ [])))) else none) = _
  rw [if_pos ⟨by rw [List.length_append, List.length_append, List.length_append]; exact hl, by decide⟩, List.append_nil, List.append_assoc]
end
theorem getI_at {α : Type} (xs : List α) (k : Nat) : getI xs (k : Int) = xs[k]? := if_pos (Int.natCast_nonneg k)
theorem dec_lt (a b : Nat) : decide ((a : Int) < (b : Int)) = decide (a < b) := by rw [Bool.eq_iff_iff, decide_eq_true_iff, decide_eq_true_iff]; exact Int.ofNat_lt
theorem dec_eq (a b : Nat) : ((a : Int) == (b : Int)) = decide (a = b) := by rw [Bool.eq_iff_iff, decide_eq_true_iff, beq_iff_eq]; exact Int.ofNat_inj

/-- a part: the star, or a text -/
noncomputable def encP (s : Addr) : Option (List Nat) → PV
  | none => .obj s
  | some x => .str x

noncomputable def isTxt : Option (List Nat) → Bool
  | some _ => true
  | none => false
/-- the texts at the front, and what comes behind them -/
noncomputable def txts : List (Option (List Nat)) → List (List Nat)
  | some x :: r => x :: txts r
  | _ => []
noncomputable def behind : List (Option (List Nat)) → List (Option (List Nat))
  | some _ :: r => behind r
  | r => r
theorem txts_behind : ∀ ps, ps = (txts ps).map some ++ behind ps
  | [] => rfl
  | none :: r => rfl
  | some x :: r => by simp only [txts, behind, List.map_cons, List.cons_append]; rw [← txts_behind r]
theorem behind_len : ∀ ps, (behind ps).length ≤ ps.length
  | [] => Nat.le_refl _
  | none :: r => Nat.le_refl _
  | some x :: r => by simp only [behind, List.length_cons]; exact Nat.le_succ_of_le (behind_len r)

/-- what is written for the parts from the first star on -/
noncomputable def tailOf : Nat → List (Option (List Nat)) → Option (List (List Nat))
  | 0, _ => none
  | _ + 1, [] => some []
  | _ + 1, some _ :: _ => none
  | _ + 1, [none] => some [[46, 42]]
  | _ + 1, none :: none :: _ => none
  | k + 1, none :: some x :: r =>
    if behind (some x :: r) = [] then some [[46, 42], (txts (some x :: r)).flatten]
    else (tailOf k (behind (some x :: r))).map fun t => ([40, 63, 62, 46, 42, 63] ++ (txts (some x :: r)).flatten ++ [41]) :: t

noncomputable def joinTxt (ps : List (Option (List Nat))) : Option (List Nat) :=
  (tailOf (ps.length + 1) (behind ps)).map fun t => [40, 63, 115, 58] ++ (txts ps ++ t).flatten ++ [41, 92, 90]

noncomputable def bJoin : List MStmt := [
  .assign "res" (.lst []),
  .bindApp "add" (.var "res"),
  .unpack ["i", "n"] (.tup [(.const (.int 0)), (.call "len" [(.var "inp")])]),
  .while_ (.and (.cmp .Lt (.var "i") (.var "n")) (.cmp .IsNot (.idx (.var "inp") (.var "i")) (.var "STAR"))) [
    .callv "add" (.idx (.var "inp") (.var "i")),
    .aug "i" .Add (.const (.int 1))],
  .while_ (.cmp .Lt (.var "i") (.var "n")) [
    .assert_ (.cmp .Is (.idx (.var "inp") (.var "i")) (.var "STAR")),
    .aug "i" .Add (.const (.int 1)),
    .if_ (.cmp .Eq (.var "i") (.var "n")) [
      .callv "add" (.const (.str [46, 42])),
      .brk] [],
    .assert_ (.cmp .IsNot (.idx (.var "inp") (.var "i")) (.var "STAR")),
    .assign "fixed" (.lst []),
    .while_ (.and (.cmp .Lt (.var "i") (.var "n")) (.cmp .IsNot (.idx (.var "inp") (.var "i")) (.var "STAR"))) [
      .mcall (.var "fixed") "append" (.idx (.var "inp") (.var "i")),
      .aug "i" .Add (.const (.int 1))],
    .assign "fixed" (.meth (.const (.str [])) "join" [(.var "fixed")]),
    .if_ (.cmp .Eq (.var "i") (.var "n")) [
      .callv "add" (.const (.str [46, 42])),
      .callv "add" (.var "fixed")] [
      .callv "add" (.fstr [(.const (.str [40, 63, 62, 46, 42, 63])), (.fmt (.var "fixed")), (.const (.str [41]))])]],
  .assert_ (.cmp .Eq (.var "i") (.var "n")),
  .assign "res" (.meth (.const (.str [])) "join" [(.var "res")]),
  .ret (.fstr [(.const (.str [40, 63, 115, 58])), (.fmt (.var "res")), (.const (.str [41, 92, 90]))])]

noncomputable def nJoin : Names := [("inp", .local), ("STAR", .local), ("res", .local), ("add", .local), ("i", .local), ("n", .local), ("fixed", .local), ("len", .globalImplicit)]

structure JV (ps : List (Option (List Nat))) (s a : Addr) (k : Nat) (out : List (List Nat)) (ρ : Rho) (μ : Mu) : Prop where
  inp : ρ "inp" = some (.lst (ps.map (encP s)))
  star : ρ "STAR" = some (.obj s)
  n : ρ "n" = some (.int ps.length)
  i : ρ "i" = some (.int k)
  add : ρ "add" = some (.app a)
  res : ρ "res" = some (.own a)
  mu : μ a = some (out.map .str)
  le : k ≤ ps.length

noncomputable abbrev T0 : Str → List PV → Option PV := fun _ _ => none

section
variable {prog : Program} {w : World} {C : Cx} {lv : Nat} {ρ : Rho} {μ : Mu} {R : CPost} {ps : List (Option (List Nat))} {s a : Addr} {k : Nat} {out : List (List Nat)}

theorem t0ok : TOk prog w C lv T0 := fun _ _ _ h => by cases h

theorem JV.push (h : JV ps s a k out ρ μ) (x : List Nat) : JV ps s a k (out ++ [x]) ρ (muSet μ a (out.map .str ++ [.str x])) :=
  { h with mu := by simp [muSet] }
theorem JV.inc (h : JV ps s a k out ρ μ) (hk : k < ps.length) : JV ps s a (k + 1) out (upd ρ "i" (.int (k + 1 : Nat))) μ :=
  ⟨by rw [← h.inp]; rfl, by rw [← h.star]; rfl, by rw [← h.n]; rfl, rfl, by rw [← h.add]; rfl, by rw [← h.res]; rfl, h.mu, hk⟩
theorem JV.fixed (h : JV ps s a k out ρ μ) (p : PV) : JV ps s a k out (upd ρ "fixed" p) μ :=
  ⟨by rw [← h.inp]; rfl, by rw [← h.star]; rfl, by rw [← h.n]; rfl, by rw [← h.i]; rfl, by rw [← h.add]; rfl, by rw [← h.res]; rfl, h.mu, h.le⟩
theorem JV.muNe (h : JV ps s a k out ρ μ) {b : Addr} (hb : b ≠ a) (xs : List PV) : JV ps s a k out ρ (muSet μ b xs) :=
  { h with mu := by unfold muSet; rw [if_neg (Ne.symm hb)]; exact h.mu }

theorem idx_enc (h : JV ps s a k out ρ μ) {x : Option (List Nat)} (hx : ps[k]? = some x) : ev T0 μ (.idx (.var "inp") (.var "i")) ρ = some (encP s x) := by
  rw [ev_idx_of (a := .var "inp") (b := .var "i") h.inp h.i]
  show getI (ps.map (encP s)) (k : Int) = _
  rw [getI_at, List.getElem?_map, hx]; rfl
theorem lt_enc (h : JV ps s a k out ρ μ) : ev T0 μ (.cmp .Lt (.var "i") (.var "n")) ρ = some (.bool (decide (k < ps.length))) := by
  rw [ev_cmp_of (a := .var "i") (b := .var "n") h.i h.n, ← dec_lt]; rfl
theorem eq_enc (h : JV ps s a k out ρ μ) : ev T0 μ (.cmp .Eq (.var "i") (.var "n")) ρ = some (.bool (decide (k = ps.length))) := by
  rw [ev_cmp_of (a := .var "i") (b := .var "n") h.i h.n, ← dec_eq]; rfl
theorem is_self (s : Addr) : pvis (.obj s) (.obj s) = some true := if_pos rfl
theorem isnot_enc (h : JV ps s a k out ρ μ) {x : Option (List Nat)} (hx : ps[k]? = some x) : ev T0 μ (.cmp .IsNot (.idx (.var "inp") (.var "i")) (.var "STAR")) ρ = some (.bool (isTxt x)) := by
  rw [ev_cmp_of (b := .var "STAR") (idx_enc h hx) h.star]
  show (pvis (encP s x) (.obj s)).map (fun x => PV.bool !x) = _
  cases x with
  | none => rw [show encP s none = .obj s from rfl, is_self]; rfl
  | some y => rfl
theorem is_enc (h : JV ps s a k out ρ μ) {x : Option (List Nat)} (hx : ps[k]? = some x) : ev T0 μ (.cmp .Is (.idx (.var "inp") (.var "i")) (.var "STAR")) ρ = some (.bool (!isTxt x)) := by
  rw [ev_cmp_of (b := .var "STAR") (idx_enc h hx) h.star]
  show (pvis (encP s x) (.obj s)).map PV.bool = _
  cases x with
  | none => rw [show encP s none = .obj s from rfl, is_self]; rfl
  | some y => rfl
/-- the loops' condition -/
theorem cond_enc (h : JV ps s a k out ρ μ) {rest : List (Option (List Nat))} (hr : ps.drop k = rest) : ev T0 μ (.and (.cmp .Lt (.var "i") (.var "n")) (.cmp .IsNot (.idx (.var "inp") (.var "i")) (.var "STAR"))) ρ = some (.bool (rest.head?.any isTxt)) := by
  cases rest with
  | nil =>
    have : ps.length ≤ k := List.drop_eq_nil_iff.mp hr
    exact ev_and_of (p := false) (q := false) ((lt_enc h).trans (by rw [decide_eq_false (Nat.not_lt.mpr this)])) fun h => (nomatch h)
  | cons x r =>
    have hlt : k < ps.length := by
      rcases Nat.lt_or_ge k ps.length with h | h
      · exact h
      · rw [List.drop_eq_nil_iff.mpr h] at hr; cases hr
    have hx : ps[k]? = some x := by
      have := congrArg List.head? hr
      rw [List.head?_drop] at this; simpa using this
    exact ev_and_of (p := true) ((lt_enc h).trans (by rw [decide_eq_true hlt])) fun _ => isnot_enc h hx
end
end Mine
end

section
open PySem PySem.W PyProof.Rows PySem.SeqAt
set_option linter.unusedVariables false
set_option maxRecDepth 10000
namespace Mine

noncomputable def wt : List (Option (List Nat)) → Nat
  | [] => 0
  | none :: r => 10 + wt r
  | some x :: r => x.length + 1 + wt r
noncomputable def wo : List (List Nat) → Nat
  | [] => 0
  | x :: r => x.length + 1 + wo r
theorem wo_app : ∀ a b, wo (a ++ b) = wo a + wo b
  | [], b => by simp [wo]
  | x :: a, b => by simp [wo, wo_app a b]; lia
theorem wo_flat : ∀ a, a.flatten.length + a.length = wo a
  | [] => rfl
  | x :: a => by have := wo_flat a; simp [wo] at this ⊢; lia
theorem wt_split : ∀ ps, wo (txts ps) + wt (behind ps) = wt ps
  | [] => rfl
  | none :: r => by simp [txts, behind, wo]
  | some x :: r => by have := wt_split r; simp [txts, behind, wo, wt]; lia

theorem joinStrs_nil : ∀ fx : List (List Nat), joinStrs [] (fx.map .str) = some fx.flatten
  | [] => rfl
  | [x] => by rw [List.flatten_cons, List.flatten_nil, List.append_nil]; rfl
  | x :: y :: r => by
    show (joinStrs [] ((y :: r).map .str)).map (fun y => x ++ [] ++ y) = _
    rw [joinStrs_nil (y :: r), List.append_nil]; rfl

theorem drop_succ {α : Type} {ps : List α} {k : Nat} {x : α} {r : List α} (h : ps.drop k = x :: r) : ps.drop (k + 1) = r ∧ ps[k]? = some x ∧ k < ps.length := by
  have hlt : k < ps.length := by
    rcases Nat.lt_or_ge k ps.length with h' | h'
    · exact h'
    · rw [List.drop_eq_nil_iff.mpr h'] at h; cases h
  refine ⟨?_, ?_, hlt⟩
  · rw [← List.drop_drop, h]; rfl
  · have := congrArg List.head? h
    rw [List.head?_drop] at this; simpa using this

theorem own_n {x : Str} (h : (nJoin.lookup x == some .local) = true) : ownOf nJoin x := .inl (beq_iff_eq.mp h)

section
variable {prog : Program} {w : World} {C : Cx} {lv : Nat} {ρ : Rho} {μ : Mu} {R : CPost} {ps : List (Option (List Nat))} {s a : Addr} {k : Nat} {out : List (List Nat)}

theorem aug_i (hC : CxOk C) (h : JV ps s a k out ρ μ) (hR : R .next (upd ρ "i" (.int (k + 1 : Nat))) μ) : Sat1 prog w C lv nJoin (.aug "i" .Add (.const (.int 1))) ρ μ R :=
  sat_aug (T := T0) (p := .int k) (q := .int 1) hC t0ok rfl (own_n rfl) h.i rfl rfl (by simpa using hR)
theorem add_s (hC : CxOk C) (h : JV ps s a k out ρ μ) {e : MExpr} {x : List Nat} (he : ev T0 μ e ρ = some (.str x)) (hl : out.length + 1 ≤ SZ) (hR : R .next ρ (muSet μ a (out.map .str ++ [.str x]))) : Sat1 prog w C lv nJoin (.callv "add" e) ρ μ R :=
  sat_callv (T := T0) hC t0ok rfl h.add h.mu he (by simpa using hl) hR

/-- the end: all is written -/
theorem join_end (hC : CxOk C) (h : JV ps s a ps.length out ρ μ) (hw : wo out + 20 ≤ SZ) :
    SatM prog w C lv nJoin [.assert_ (.cmp .Eq (.var "i") (.var "n")), .assign "res" (.meth (.const (.str [])) "join" [(.var "res")]),
      .ret (.fstr [(.const (.str [40, 63, 115, 58])), (.fmt (.var "res")), (.const (.str [41, 92, 90]))])] ρ μ (Ret (.str ([40, 63, 115, 58] ++ out.flatten ++ [41, 92, 90]))) := by
  have hf := wo_flat out
  refine sat_cons (sat_assert (T := T0) (x := .bool true) hC t0ok (by rw [eq_enc h]; simp) rfl ?_)
  refine sat_cons (sat_assign (T := T0) (.str out.flatten) hC t0ok (own_n rfl) ?_ ?_)
  · have hr : ρ "res" = some (.own a) := h.res
    rw [ev_meth_of (x := .str []) rfl (evs_one (a := .var "res") hr)]
    exact join_own h.mu (joinStrs_nil _) (by lia)
  · refine sat_cons (sat_ret (T := T0) (.str ([40, 63, 115, 58] ++ out.flatten ++ [41, 92, 90])) hC t0ok ?_ ⟨_, rfl, rfl⟩)
    have hr : (upd ρ "res" (PV.str out.flatten)) "res" = some (.str out.flatten) := rfl
    exact ev_fstr3 (e := .var "res") hr (by simp only [List.length_cons, List.length_nil]; lia)

inductive JI1 (ps : List (Option (List Nat))) (s a : Addr) (m : Nat) (ρ : Rho) (μ : Mu) : Prop
  | mk (k : Nat) (out : List (List Nat)) (rest : List (Option (List Nat))) (hd : ps.drop k = rest) (hm : m = rest.length) (hj : JV ps s a k out ρ μ) (h1 : out ++ txts rest = txts ps) (h2 : behind rest = behind ps) (h3 : wo out + wt rest ≤ wt ps)
inductive JI3 (ps : List (Option (List Nat))) (s a : Addr) (out : List (List Nat)) (b : Addr) (r : List (Option (List Nat))) (m : Nat) (ρ : Rho) (μ : Mu) : Prop
  | mk (k : Nat) (fx : List (List Nat)) (rest : List (Option (List Nat))) (hd : ps.drop k = rest) (hm : m = rest.length) (hj : JV ps s a k out ρ μ) (hf1 : ρ "fixed" = some (.own b)) (hf2 : μ b = some (fx.map .str)) (h1 : fx ++ txts rest = txts r) (h2 : behind rest = behind r) (h3 : wo fx + wt rest ≤ wt r)
/-- the texts ahead of the first star -/
theorem join_w1 (hC : CxOk C) (hsz : wt ps + 20 ≤ SZ) (h : JV ps s a 0 [] ρ μ) {ms : List MStmt}
    (hR : ∀ k ρ μ, JV ps s a k (txts ps) ρ μ → ps.drop k = behind ps → SatM prog w C lv nJoin ms ρ μ R) :
    SatM prog w C lv nJoin (.while_ (.and (.cmp .Lt (.var "i") (.var "n")) (.cmp .IsNot (.idx (.var "inp") (.var "i")) (.var "STAR"))) [
      .callv "add" (.idx (.var "inp") (.var "i")),
      .aug "i" .Add (.const (.int 1))] :: ms) ρ μ R := by
  refine sat_cons (sat_while (T := T0) (JI1 ps s a) ps.length hC t0ok
    ⟨0, [], ps, rfl, rfl, h, rfl, rfl, by simp [wo]⟩ ?_)
  rintro m ρ μ ⟨k, out, rest, hd, rfl, hj, h1, h2, h3⟩
  refine ⟨_, _, cond_enc hj hd, rfl, ?_⟩
  have hstop : rest.head?.any isTxt = false → txts rest = [] ∧ behind rest = rest := by
    cases rest with
    | nil => intro _; exact ⟨rfl, rfl⟩
    | cons x r => cases x with
      | none => intro _; exact ⟨rfl, rfl⟩
      | some y => intro h; cases h
  cases hb : rest.head?.any isTxt with
  | false =>
    obtain ⟨e1, e2⟩ := hstop hb
    simp only [Bool.false_eq_true, if_false]
    rw [e1, List.append_nil] at h1
    subst h1
    exact hR k ρ μ hj (by rw [hd, ← h2, e2])
  | true =>
    simp only [if_true]
    cases rest with
    | nil => cases hb
    | cons x r =>
      cases x with
      | none => cases hb
      | some y =>
        obtain ⟨d1, d2, d3⟩ := drop_succ hd
        have hf := wo_flat out
        simp only [wt] at h3
        refine sat_cons (add_s hC hj (x := y) (idx_enc hj d2) (by lia) ?_)
        have hj1 := hj.push y
        refine sat_cons (aug_i hC hj1 ?_)
        refine sat_nil ⟨r.length, by simp, ⟨k + 1, out ++ [y], r, d1, rfl, hj1.inc d3, by simpa [txts] using h1, h2, ?_⟩⟩
        rw [wo_app]; simp [wo]; lia

/-- the texts behind a star -/
theorem join_w3 (hC : CxOk C) {b : Addr} {ms : List MStmt} {r : List (Option (List Nat))} {k0 : Nat} (hsz : wo out + wt r + 20 ≤ SZ) (h : JV ps s a k0 out ρ μ) (hd0 : ps.drop k0 = r) (hba : b ≠ a) (hfx : ρ "fixed" = some (.own b)) (hμb : μ b = some [])
    (hR : ∀ k ρ μ, JV ps s a k out ρ μ → ps.drop k = behind r → ρ "fixed" = some (.own b) → μ b = some ((txts r).map .str) → SatM prog w C lv nJoin ms ρ μ R) :
    SatM prog w C lv nJoin (.while_ (.and (.cmp .Lt (.var "i") (.var "n")) (.cmp .IsNot (.idx (.var "inp") (.var "i")) (.var "STAR"))) [
      .mcall (.var "fixed") "append" (.idx (.var "inp") (.var "i")),
      .aug "i" .Add (.const (.int 1))] :: ms) ρ μ R := by
  refine sat_cons (sat_while (T := T0) (JI3 ps s a out b r) r.length hC t0ok
    ⟨k0, [], r, hd0, rfl, h, hfx, hμb, rfl, rfl, by simp [wo]⟩ ?_)
  rintro m ρ μ ⟨k, fx, rest, hd, rfl, hj, hf1, hf2, h1, h2, h3⟩
  refine ⟨_, _, cond_enc hj hd, rfl, ?_⟩
  have hstop : rest.head?.any isTxt = false → txts rest = [] ∧ behind rest = rest := by
    cases rest with
    | nil => intro _; exact ⟨rfl, rfl⟩
    | cons x r => cases x with
      | none => intro _; exact ⟨rfl, rfl⟩
      | some y => intro h; cases h
  cases hb : rest.head?.any isTxt with
  | false =>
    obtain ⟨e1, e2⟩ := hstop hb
    simp only [Bool.false_eq_true, if_false]
    rw [e1, List.append_nil] at h1
    subst h1
    exact hR k ρ μ hj (by rw [hd, ← h2, e2]) hf1 hf2
  | true =>
    simp only [if_true]
    cases rest with
    | nil => cases hb
    | cons x r' =>
      cases x with
      | none => cases hb
      | some y =>
        obtain ⟨d1, d2, d3⟩ := drop_succ hd
        have hf := wo_flat fx
        simp only [wt] at h3
        refine sat_cons (sat_append (T := T0) (p := .str y) hC t0ok hf1 hf2 (idx_enc hj d2) (by simp only [List.length_map]; lia) ?_)
        have hj1 := hj.muNe hba (fx.map .str ++ [.str y])
        refine sat_cons (aug_i hC hj1 ?_)
        refine sat_nil ⟨r'.length, by simp, ⟨k + 1, fx ++ [y], r', d1, rfl, hj1.inc d3, by rw [← hf1]; rfl, by simp [muSet], by simpa [txts] using h1, h2, ?_⟩⟩
        rw [wo_app]; simp [wo]; lia
end
end Mine
end

section
open PySem PySem.W PyProof.Rows PySem.SeqAt
set_option linter.unusedVariables false
set_option maxRecDepth 10000
namespace Mine
section
variable {prog : Program} {w : World} {C : Cx} {lv : Nat} {ρ : Rho} {μ : Mu} {R : CPost} {ps : List (Option (List Nat))} {s a : Addr} {k : Nat} {out : List (List Nat)}

theorem tail_step {f : Nat} {x : List Nat} {r : List (Option (List Nat))} {tl : List (List Nat)} (h : tailOf f (none :: some x :: r) = some tl) :
    (behind (some x :: r) = [] ∧ tl = [[46, 42], (txts (some x :: r)).flatten]) ∨
    (behind (some x :: r) ≠ [] ∧ ∃ t, tailOf (f - 1) (behind (some x :: r)) = some t ∧ tl = ([40, 63, 62, 46, 42, 63] ++ (txts (some x :: r)).flatten ++ [41]) :: t) := by
  cases f with
  | zero => simp [tailOf] at h
  | succ f =>
    rw [tailOf] at h
    split at h
    · rename_i e; cases h; exact .inl ⟨e, rfl⟩
    · rename_i e
      simp only [Option.map_eq_some_iff] at h
      obtain ⟨t, h1, h2⟩ := h
      exact .inr ⟨e, t, h1, h2.symm⟩

theorem behind_head : ∀ ps x r, behind ps = x :: r → x = none
  | [], x, r, h => by simp [behind] at h
  | none :: q, x, r, h => by simp [behind] at h; exact h.1.symm
  | some y :: q, x, r, h => behind_head q x r (by simpa [behind] using h)

inductive JI2 (ps : List (Option (List Nat))) (s a : Addr) (all : List (List Nat)) (m : Nat) (ρ : Rho) (μ : Mu) : Prop
  | mk (k : Nat) (o : List (List Nat)) (rest : List (Option (List Nat))) (f : Nat) (tl : List (List Nat)) (hd : ps.drop k = rest) (hk : k ≤ ps.length) (hm : m = rest.length) (hj : JV ps s a k o ρ μ) (ht : tailOf f rest = some tl) (h1 : o ++ tl = all) (h2 : wo o + wt rest ≤ wt ps) (h3 : ∀ x r, rest = x :: r → x = none)
theorem join_w2 (hC : CxOk C) {ms : List MStmt} {f0 k0 : Nat} {tl0 : List (List Nat)} (hsz : wt ps + 20 ≤ SZ) (h : JV ps s a k0 out ρ μ) (hd0 : ps.drop k0 = behind ps) (hout : wo out + wt (behind ps) ≤ wt ps) (ht0 : tailOf f0 (behind ps) = some tl0)
    (hR : ∀ ρ μ out', JV ps s a ps.length out' ρ μ → out' = out ++ tl0 → wo out' + 20 ≤ SZ → SatM prog w C lv nJoin ms ρ μ R) :
    SatM prog w C lv nJoin (.while_ (.cmp .Lt (.var "i") (.var "n")) [
      .assert_ (.cmp .Is (.idx (.var "inp") (.var "i")) (.var "STAR")),
      .aug "i" .Add (.const (.int 1)),
      .if_ (.cmp .Eq (.var "i") (.var "n")) [
        .callv "add" (.const (.str [46, 42])),
        .brk] [],
      .assert_ (.cmp .IsNot (.idx (.var "inp") (.var "i")) (.var "STAR")),
      .assign "fixed" (.lst []),
      .while_ (.and (.cmp .Lt (.var "i") (.var "n")) (.cmp .IsNot (.idx (.var "inp") (.var "i")) (.var "STAR"))) [
        .mcall (.var "fixed") "append" (.idx (.var "inp") (.var "i")),
        .aug "i" .Add (.const (.int 1))],
      .assign "fixed" (.meth (.const (.str [])) "join" [(.var "fixed")]),
      .if_ (.cmp .Eq (.var "i") (.var "n")) [
        .callv "add" (.const (.str [46, 42])),
        .callv "add" (.var "fixed")] [
        .callv "add" (.fstr [(.const (.str [40, 63, 62, 46, 42, 63])), (.fmt (.var "fixed")), (.const (.str [41]))])]] :: ms) ρ μ R := by
  have len0 : ∀ k, k ≤ ps.length → ps.drop k = [] → k = ps.length := fun k hk hd => Nat.le_antisymm hk (List.drop_eq_nil_iff.mp hd)
  refine sat_cons (sat_while (T := T0) (JI2 ps s a (out ++ tl0)) (behind ps).length hC t0ok
    ⟨k0, out, behind ps, f0, tl0, hd0, h.le, rfl, h, ht0, rfl, hout, behind_head ps⟩ ?_)
  rintro m ρ μ ⟨k, o, rest, f, tl, hd, hkl, rfl, hj, ht, h1, h2, h3⟩
  refine ⟨_, _, lt_enc hj, rfl, ?_⟩
  cases rest with
  | nil =>
    have hk := len0 k hkl hd
    have hdec : decide (k < ps.length) = false := by simp; lia
    rw [hdec]
    simp only [Bool.false_eq_true, if_false]
    have htl : tl = [] := by
      cases f with
      | zero => simp [tailOf] at ht
      | succ f => simpa [tailOf] using ht.symm
    subst htl
    rw [List.append_nil] at h1
    subst hk
    exact hR ρ μ o hj h1 (by simp [wt] at h2; lia)
  | cons x r =>
    obtain ⟨d1, d2, d3⟩ := drop_succ hd
    have := h3 x r rfl; subst this
    rw [decide_eq_true d3]
    simp only [if_true]
    have hwo := wo_flat o
    simp only [wt] at h2
    refine sat_cons (sat_assert (T := T0) (x := .bool true) hC t0ok (is_enc hj d2) rfl ?_)
    refine sat_cons (aug_i hC hj ?_)
    have hj1 := hj.inc d3
    cases r with
    | nil =>
      have hk : k + 1 = ps.length := len0 (k + 1) d3 d1
      have htl : tl = [[46, 42]] := by
        cases f with
        | zero => simp [tailOf] at ht
        | succ f => simpa [tailOf] using ht.symm
      subst htl
      refine sat_cons (sat_if (T := T0) true (x := .bool true) hC t0ok (by rw [eq_enc hj1, decide_eq_true hk]) rfl ?_)
      simp only [if_true]
      refine sat_cons (add_s hC hj1 (x := [46, 42]) rfl (by lia) (sat_cons (sat_brk ?_)))
      have hj2 := hj1.push [46, 42]
      have key : ∀ n, k + 1 = n → JV ps s a (k + 1) (o ++ [[46, 42]]) (upd ρ "i" (.int (k + 1 : Nat))) (muSet μ a (o.map .str ++ [.str [46, 42]])) → JV ps s a n (o ++ [[46, 42]]) (upd ρ "i" (.int (k + 1 : Nat))) (muSet μ a (o.map .str ++ [.str [46, 42]])) := by
        rintro n rfl h; exact h
      exact hR _ _ _ (key _ hk hj2) h1 (by rw [wo_app]; simp [wo, wt] at h2 ⊢; lia)
    | cons y r =>
      obtain ⟨e1, e2, e3⟩ := drop_succ d1
      cases y with
      | none =>
        exfalso
        cases f with
        | zero => simp [tailOf] at ht
        | succ f => simp [tailOf] at ht
      | some z =>
        refine sat_cons (sat_if (T := T0) false (x := .bool false) hC t0ok (by rw [eq_enc hj1]; simp; lia) rfl ?_)
        simp only [Bool.false_eq_true, if_false]
        refine sat_nil ?_
        refine sat_cons (sat_assert (T := T0) (x := .bool true) hC t0ok (isnot_enc hj1 e2) rfl ?_)
        refine sat_cons (sat_own (T := T0) [] hC t0ok (own_n rfl) rfl (by simp [SZ]) fun b hb => ?_)
        have hba : b ≠ a := by rintro rfl; first | exact clash hj1.mu hb | (rw [hj1.mu] at hb; cases hb)
        have hj2 := (hj1.fixed (.own b)).muNe hba []
        have hsplit := wt_split (some z :: r)
        refine join_w3 hC (r := some z :: r) (b := b) (by lia) hj2 d1 hba rfl (by simp [muSet]) ?_
        intro k3 ρ3 μ3 hj3 hd3 hf3 hμ3
        have hwf := wo_flat (txts (some z :: r))
        refine sat_cons (sat_assign (T := T0) (.str (txts (some z :: r)).flatten) hC t0ok (own_n rfl) ?_ ?_)
        · rw [ev_meth_of (x := .str []) rfl (evs_one (a := .var "fixed") hf3)]
          exact join_own hμ3 (joinStrs_nil _) (by lia)
        · have hj4 := hj3.fixed (.str (txts (some z :: r)).flatten)
          rcases tail_step ht with ⟨hb1, rfl⟩ | ⟨hb1, t, ht1, rfl⟩
          · rw [hb1] at hd3
            have hk3 : k3 = ps.length := len0 k3 hj3.le hd3
            refine sat_cons (sat_if (T := T0) true (x := .bool true) hC t0ok (by rw [eq_enc hj4, decide_eq_true hk3]) rfl ?_)
            simp only [if_true]
            refine sat_cons (add_s hC hj4 (x := [46, 42]) rfl (by lia) ?_)
            have hj5 := hj4.push [46, 42]
            refine sat_cons (add_s hC hj5 (x := (txts (some z :: r)).flatten) rfl (by simp; lia) (sat_nil (sat_nil ?_)))
            have hj6 := hj5.push (txts (some z :: r)).flatten
            refine ⟨0, by simp, ⟨k3, _, [], 1, [], hd3, by lia, rfl, hj6, rfl, by simpa using h1, ?_, fun x r h => by cases h⟩⟩
            rw [wo_app, wo_app]; simp only [wo, wt, List.length_cons, List.length_nil]; lia
          · have hk3 : k3 < ps.length := by
              rcases Nat.lt_or_ge k3 ps.length with hh | hh
              · exact hh
              · rw [List.drop_eq_nil_iff.mpr hh] at hd3; exact absurd hd3.symm hb1
            refine sat_cons (sat_if (T := T0) false (x := .bool false) hC t0ok (by rw [eq_enc hj4]; simp; lia) rfl ?_)
            simp only [Bool.false_eq_true, if_false]
            refine sat_cons (add_s hC hj4 (x := [40, 63, 62, 46, 42, 63] ++ (txts (some z :: r)).flatten ++ [41]) ?_ (by lia) (sat_nil (sat_nil ?_)))
            · have hr : (upd ρ3 "fixed" (PV.str (txts (some z :: r)).flatten)) "fixed" = some (.str (txts (some z :: r)).flatten) := rfl
              exact ev_fstr3 (e := .var "fixed") hr (by simp only [List.length_cons, List.length_nil]; lia)
            · have hj5 := hj4.push ([40, 63, 62, 46, 42, 63] ++ (txts (some z :: r)).flatten ++ [41])
              refine ⟨(behind (some z :: r)).length, ?_, ⟨k3, _, behind (some z :: r), f - 1, t, hd3, by lia, rfl, hj5, ht1, by simpa using h1, ?_, behind_head _⟩⟩
              · have := behind_len (some z :: r); simp at this ⊢; lia
              · rw [wo_app]; simp only [wo, List.length_append, List.length_cons, List.length_nil]; lia

theorem join_sat (hC : CxOk C) {txt : List Nat} (hsz : wt ps + 20 ≤ SZ) (ht : joinTxt ps = some txt) :
    SatM prog w C lv nJoin bJoin (upd (upd (fun _ => none) "inp" (.lst (ps.map (encP s)))) "STAR" (.obj s)) (fun _ => none) (Ret (.str txt)) := by
  unfold joinTxt at ht
  simp only [Option.map_eq_some_iff] at ht
  obtain ⟨tl, ht, rfl⟩ := ht
  have hsplit := wt_split ps
  have hlen : ps.length ≤ wt ps := by
    clear ht hsplit hsz
    induction ps with
    | nil => exact Nat.le_refl _
    | cons x r ih => cases x <;> simp [wt] <;> lia
  refine sat_cons (sat_own (T := T0) [] hC t0ok (own_n rfl) rfl (by simp [SZ]) fun a ha => ?_)
  refine sat_cons (sat_bindApp (T := T0) (a := a) (xs := []) hC t0ok (own_n rfl) rfl (by simp [muSet]) ?_)
  refine sat_cons (sat_unpack (T := T0) (p := .int 0) (q := .int ps.length) hC t0ok (own_n rfl) (own_n rfl) (by decide) ?_ ?_)
  · have hl : ev T0 (muSet (fun _ => none) a []) (.call "len" [(.var "inp")]) (upd (upd (upd (upd (fun _ => none) "inp" (PV.lst (ps.map (encP s)))) "STAR" (.obj s)) "res" (.own a)) "add" (.app a)) = some (.int ps.length) := ev_len_of (x := .lst (ps.map (encP s))) rfl (by show some (PV.int _) = _; rw [List.length_map])
    exact ev_tup_of (evs_more (x := .int 0) rfl (evs_one hl)) (by show 2 ≤ SZ; decide)
  refine join_w1 (s := s) (a := a) hC hsz ⟨rfl, rfl, rfl, rfl, rfl, rfl, by simp [muSet], Nat.zero_le _⟩ fun k ρ μ hj hd => ?_
  refine join_w2 hC hsz hj hd (by lia) ht fun ρ μ o hj ho hw => ?_
  subst ho
  exact join_end hC hj hw
end
end Mine
end

section
open PySem PySem.W PyProof.Rows PySem.SeqAt
set_option linter.unusedVariables false
namespace Mine

/-- the environment that a list of names and values tells -/
noncomputable def envOf (l : List (Str × PV)) : Rho := fun x => l.lookup x
/-- all that the list tells holds of ρ -/
noncomputable def AllIn : List (Str × PV) → Rho → Prop
  | [], _ => True
  | q :: r, ρ => ρ q.1 = some q.2 ∧ AllIn r ρ
theorem allIn_le : ∀ {l : List (Str × PV)} {ρ : Rho}, AllIn l ρ → ∀ x p, envOf l x = some p → ρ x = some p
  | [], ρ, h, x, p, e => no e
  | (y, q) :: r, ρ, h, x, p, e => by
    have e : (match x == y with | true => some q | false => r.lookup x) = some p := e
    cases hb : x == y with
    | true =>
      rw [hb] at e
      have e := Option.some.inj e
      subst e
      rw [beq_iff_eq.mp hb]; exact h.1
    | false =>
      rw [hb] at e
      exact allIn_le h.2 x p e

section
variable {prog : Program} {w : World} {C : Cx} {lv : Nat} {Γ : Names} {A : Around} {E : Value → Shared → Prop} {V : Addr → Prop} {env : Env} {G : Gr} {s₀ s s₁ : Shared} {ρ ρ' : Rho} {μ μ' : Mu} {R R' : CPost} {T : Str → List PV → Option PV}

theorem ER.weak {W : Addr → Prop} (er : ER C W env s ρ' μ) (h : ∀ x p, ρ x = some p → ρ' x = some p) : ER C W env s ρ μ :=
  { er with vars := fun x p hx => er.vars x p (h x p hx) }
theorem FR.weak (fr : FR C env V G s₀ s ρ' μ) (h : ∀ x p, ρ x = some p → ρ' x = some p) : FR C env V G s₀ s ρ μ :=
  { fr with er := fr.er.weak h }
/-- what is not needed may be forgotten -/
theorem SatM.weak {ms : List MStmt} (hs : SatM prog w C lv Γ ms ρ μ R) (h : ∀ x p, ρ x = some p → ρ' x = some p) : SatM prog w C lv Γ ms ρ' μ R :=
  fun ss hss A E V env G s₀ s hr hΓ fr => hs ss hss A E V env G s₀ s hr hΓ (fr.weak h)
theorem sat_env {ms : List MStmt} (l : List (Str × PV)) (h : AllIn l ρ) (hs : SatM prog w C lv Γ ms (envOf l) μ R) : SatM prog w C lv Γ ms ρ μ R := hs.weak (allIn_le h)
end
end Mine
end

section
open PySem PySem.W PyProof.Rows PySem.SeqAt
set_option linter.unusedVariables false
namespace Mine
section
variable {prog : Program} {w : World} {A : Around} {E : Value → Shared → Prop} {s : Shared}
set_option maxRecDepth 20000 in
/-- an item is put -/
theorem setItem_pos {l : Addr} {us : List Value} {n : Nat} {k : Int} {t : Tok} {v : Value} {Q : Unit → Shared → Prop} (ho : s.heap.get? l = some (lObj us n)) (h0 : 0 ≤ k) (hlt : k.toNat < us.length) (hfit : k < 2 ^ 63)
    (hQ : Q () { s with heap := s.heap.update l (Obj.mapSeq (·.setIfInBounds k.toNat v)) }) : wpAny (model prog w) A (setItem (.ref l) (.int k t) v) Q E s := by
  have hl := isList_of ho
  have hd : (lObj us n).data = .seq us.toArray n := rfl
  generalize lObj us n = o at ho hd
  unfold setItem
  try with_reducible refine wpAny_holding ?_
  first | refine wpAny_bind (wpAny_pure ?_) | skip
  refine wpAny_bind (wpAny_sequenceKey hl.typeIs (by decide) ?_)
  refine wpAny_bind (wpAny_callSpecial?_slot (name := Str.ofString "__setitem__") hl.typeIs PySem.slot_list_setitem
    (wpAny_call_entry PySem.slot_list_setitem hl.typeIs PySem.entry_list_setitem ?_ (PySem.args_list_setitem _ _ _)))
  show wpAny _ _ (Builtin.List.listSubscript? (.int k t) >>= _) _ _ s
  refine wpAny_bind (wpAny_listSubscript_int (fitsIndex_of h0 hfit) ?_)
  clear hfit
  obtain ⟨j, rfl⟩ := Int.eq_ofNat_of_zero_le h0
  have hj : j < us.length := hlt
  have hx : us.toArray[j]? = some us[j] := by simp [hj]
  show wpAny _ _ ((seqItemAt l j >>= fun r => pure (r.map (j, ·))) >>= _) _ _ s
  refine wpAny_bind (wpAny_bind (wpAny_seqItemAt ho hd (wpAny_pure ?_)))
  rw [hx]
  show wpAny _ _ (setSeqItemAt l j v >>= _) _ _ s
  refine wpAny_bind (wpAny_setSeqItemAt ho hd ?_)
  first
    | exact wpAny_bind (wpAny_pure (wpAny_pure ⟨.none, rfl, wpAny_pure hQ⟩))
    | exact wpAny_pure ⟨.none, rfl, wpAny_pure hQ⟩
set_option maxRecDepth 20000 in
/-- an item is put, told from behind -/
theorem setItem_neg {l : Addr} {us : List Value} {n : Nat} {k : Int} {t : Tok} {v : Value} {Q : Unit → Shared → Prop} (ho : s.heap.get? l = some (lObj us n))
    (h0 : k < 0) (h1 : -(us.length : Int) ≤ k) (hfit : -(2 ^ 63) ≤ k)
    (hQ : Q () { s with heap := s.heap.update l (Obj.mapSeq (·.setIfInBounds (k + us.length).toNat v)) }) :
    wpAny (model prog w) A (setItem (.ref l) (.int k t) v) Q E s := by
  have hl := isList_of ho
  have hd : (lObj us n).data = .seq us.toArray n := rfl
  have hlt : (k + us.length).toNat < us.length := by lia
  have hidx : seqIndex? k us.length = some (k + us.length).toNat := seqIndex_neg h0 h1
  generalize (k + (us.length : Int)).toNat = i at hlt hQ hidx
  have hx : us.toArray[i]? = some us[i] := by simp [hlt]
  unfold setItem
  try with_reducible refine wpAny_holding ?_
  first | refine wpAny_bind (wpAny_pure ?_) | skip
  refine wpAny_bind (wpAny_sequenceKey hl.typeIs (by decide) ?_)
  refine wpAny_bind (wpAny_callSpecial?_slot (name := Str.ofString "__setitem__") hl.typeIs PySem.slot_list_setitem
    (wpAny_call_entry PySem.slot_list_setitem hl.typeIs PySem.entry_list_setitem ?_ (PySem.args_list_setitem _ _ _)))
  show wpAny _ _ (Builtin.List.listSubscript? (.int k t) >>= _) _ _ s
  refine wpAny_bind (wpAny_listSubscript_int (fitsIndex_neg h0 hfit) ?_)
  clear hfit
  obtain ⟨j, rfl⟩ : ∃ j : Nat, k = Int.negSucc j := by
    cases k with
    | ofNat n => exact absurd h0 (Int.not_lt.mpr (Int.natCast_nonneg n))
    | negSucc n => exact ⟨n, rfl⟩
  show wpAny _ _ ((Builtin.List.listItems (.ref l) >>= fun xs => pure ((seqIndex? (Int.negSucc j) xs.size).bind fun i => xs[i]?.map (i, ·))) >>= _) _ _ s
  refine wpAny_bind (wpAny_bind ?_)
  show wpAny _ _ (seqItems? (.ref l) >>= _) _ _ s
  refine wpAny_bind (wpAny_seqItems ho hd (wpAny_pure (wpAny_pure ?_)))
  rw [show us.toArray.size = us.length from by simp, hidx]
  simp only [Option.bind_some, hx, Option.map_some]
  show wpAny _ _ (setSeqItemAt l i v >>= _) _ _ s
  refine wpAny_bind (wpAny_setSeqItemAt ho hd ?_)
  first
    | exact wpAny_bind (wpAny_pure (wpAny_pure ⟨.none, rfl, wpAny_pure hQ⟩))
    | exact wpAny_pure ⟨.none, rfl, wpAny_pure hQ⟩
end

/-- the place that a whole number tells -/
noncomputable def place (n : Nat) (k : Int) : Nat := if 0 ≤ k then k.toNat else (k + n).toNat
theorem Reps.set {g : Gr} : ∀ {ps : List PV} {vs : List Value} {p : PV} {v : Value} (i : Nat), Reps g ps vs → Rep g p v → Reps g (ps.set i p) (vs.set i v)
  | [], vs, p, v, i, r, rp => by cases reps_nil.mp r; exact Reps.nil
  | q :: ps, vs, p, v, i, r, rp => by
    have r := reps_cons.mp r
    obtain ⟨u, us, rfl, h1, h2⟩ := r
    cases i with
    | zero => exact Reps.cons rp h2
    | succ i => exact Reps.cons h1 (Reps.set i h2 rp)

section
variable {prog : Program} {w : World} {C : Cx} {lv : Nat} {Γ : Names} {A : Around} {E : Value → Shared → Prop} {V : Addr → Prop} {env : Env} {G : Gr} {s₀ s s₁ : Shared} {ρ ρ' : Rho} {μ μ' : Mu} {R R' : CPost} {T : Str → List PV → Option PV}

theorem fr_set {a : Addr} {xs : List PV} {p : PV} {k : Int} {t : Tok} {v : Value} {Q : Unit → Shared → Prop} (fr : FR C env V G s₀ s ρ μ) (hμ : μ a = some xs) (h1 : -(xs.length : Int) ≤ k) (h2 : k < xs.length) (rv : Rep (frz s.heap (fun a => Wof env μ a ∨ V a)) p v)
    (hQ : ∀ s', FR C env V G s₀ s' ρ (muSet μ a (xs.set (place xs.length k) p)) → Q () s') : wpAny (model prog w) A (setItem (.ref a) (.int k t) v) Q E s := by
  obtain ⟨us, j, q1, q2, q3⟩ := fr.er.sr.ls a xs hμ
  have hlen := q3.length
  have hsm : us.length ≤ 16777216 := q2
  have fin : ∀ i, i = place xs.length k → FR C env V G s₀ { s with heap := s.heap.update a (Obj.mapSeq (·.setIfInBounds i v)) } ρ (muSet μ a (xs.set (place xs.length k) p)) := by
    rintro i rfl
    obtain ⟨n', g1, g2⟩ := upd_list (h := s.heap) (fun z => z.setIfInBounds (place xs.length k) v) q1
    exact fr_mut (vs := us.set (place xs.length k) v) (n := n') fr hμ (fun b o hb e => g2.extBut b o hb e) (by rw [g1]; simp) (by rw [List.length_set]; exact q2) (Reps.set _ q3 rv)
  by_cases h0 : 0 ≤ k
  · refine setItem_pos q1 h0 (by lia) (by lia) (hQ _ (fin _ ?_))
    unfold place; rw [if_pos h0]
  · refine setItem_neg q1 (by lia) (by lia) (by lia) (hQ _ (fin _ ?_))
    unfold place; rw [if_neg h0, hlen]

theorem swap_sub {v o i : Expr} {p : Pos} {l : Nat} {env : Env} : swapsWith v (some (.Subscript o i p)) l env = pure false := by
  cases v <;> rfl
/-- an item of an owned list is put -/
theorem sat_setIdxE {x : MExpr} {i e : MExpr} {a : Addr} {xs : List PV} {k : Int} (p : PV) (hC : CxOk C) (hT : TOk prog w C lv T) (hx : ev T μ x ρ = some (.own a)) (hμ : μ a = some xs) (he : ev T μ e ρ = some p) (hi : ev T μ i ρ = some (.int k))
    (h1 : -(xs.length : Int) ≤ k) (h2 : k < xs.length) (hR : R .next ρ (muSet μ a (xs.set (place xs.length k) p))) : Sat1 prog w C lv Γ (.setIdx x i e) ρ μ R := by
  intro st hst A E V env G s₀ s hr hΓ fr
  obtain ⟨o', i', q, v, pos, rfl, ho, rfl, rfl⟩ := inv_setIdx hst
  refine wpAny_Assign_Subscript (fr.evStep hC hT hr hΓ he fun v s₁ fr1 rv => ?_) swap_sub
  refine wpAny_with_toks (n := s₁.toks) (Nat.le_refl _) (wpAny_mono (ev_sound hC hT (p := .own a) (by rw [ho]; exact hx) A _ _ env s₁ hr hΓ fr1.er) (fun ov s₂ h₂ t2 => ?_) fun _ _ e _ => e)
  have fr2 := fr1.keeps h₂.1 t2
  refine wpAny_with_toks (n := s₂.toks) (Nat.le_refl _) (wpAny_mono (ev_sound hC hT hi A _ _ env s₂ hr hΓ fr2.er) (fun iv s₃ h₃ t3 => ?_) fun _ _ e _ => e)
  have fr3 := fr2.keeps h₃.1 t3
  have := rep_own.mp h₂.2; subst this
  obtain ⟨t, rfl⟩ := rep_int.mp h₃.2
  exact fr_set fr3 hμ h1 h2 (rv.keep fun b o e => Keeps.k h₃.1 _ _ (Keeps.k h₂.1 _ _ e)) fun s' fr' => ⟨.next, ρ, _, hR, rfl, fr'⟩
theorem sat_setIdx {x : Str} {i e : MExpr} {a : Addr} {xs : List PV} {k : Int} (p : PV) (hC : CxOk C) (hT : TOk prog w C lv T) (hx : ρ x = some (.own a)) (hμ : μ a = some xs) (he : ev T μ e ρ = some p) (hi : ev T μ i ρ = some (.int k))
    (h1 : -(xs.length : Int) ≤ k) (h2 : k < xs.length) (hR : R .next ρ (muSet μ a (xs.set (place xs.length k) p))) : Sat1 prog w C lv Γ (.setIdx (.var x) i e) ρ μ R := sat_setIdxE p hC hT hx hμ he hi h1 h2 hR
end
end Mine
end

section
open PySem PySem.W PyProof.Rows PySem.SeqAt
set_option linter.unusedVariables false
namespace Mine
/-- with one token more behind it -/
noncomputable def Cx.tick (C : Cx) : Cx := ⟨C.h0, C.mg, C.mb, C.tk0 + 1⟩
theorem CxOk.tick {C : Cx} (h : CxOk C) : CxOk C.tick := ⟨h.g, h.b, h.lim, h.bi, h.bi2⟩
section
variable {prog : Program} {w : World} {C : Cx} {lv : Nat} {Γ : Names} {A : Around} {E : Value → Shared → Prop} {V : Addr → Prop} {env : Env} {G : Gr} {s₀ s s₁ : Shared} {ρ ρ' : Rho} {μ μ' : Mu} {R R' : CPost} {T : Str → List PV → Option PV}
theorem FR.up (fr : FR C env V G s₀ s ρ μ) (ht : C.tk0 + 1 ≤ s.toks) : FR C.tick env V G s₀ s ρ μ :=
  ⟨⟨fr.er.kind, fr.er.gl, fr.er.bl, fr.er.base, fr.er.wb, fr.er.sr, fr.er.vars, ht, fr.er.has, fr.er.apart, fr.er.cel⟩, fr.ns, fr.shape, fr.prot, fr.apart, fr.vd⟩
theorem FR.down (fr : FR C.tick env V G s₀ s ρ μ) : FR C env V G s₀ s ρ μ :=
  ⟨⟨fr.er.kind, fr.er.gl, fr.er.bl, fr.er.base, fr.er.wb, fr.er.sr, fr.er.vars, Nat.le_of_succ_le fr.er.tk, fr.er.has, fr.er.apart, fr.er.cel⟩, fr.ns, fr.shape, fr.prot, fr.apart, fr.vd⟩

/-- the first statement of the laws: behind it a token has been given -/
theorem sat_tick {x y : Str} {k : Int} {ms : List MStmt} {p : PV} (hC : CxOk C) (hx : ownOf Γ x) (h : ev T0 μ (.slc (.var y) (.const .none) (.const (.int k)) (.const .none)) ρ = some p)
    (hs : SatM prog w C.tick lv Γ ms (upd ρ x p) μ R) : SatM prog w C lv Γ (.assign x (.slc (.var y) (.const .none) (.const (.int k)) (.const .none)) :: ms) ρ μ R := by
  intro ss hss A E V env G s₀ s hr hΓ fr
  cases ss with
  | nil => cases hss
  | cons st ss =>
    have hss : trS Γ st :: trSs Γ ss = _ :: ms := hss
    injection hss with h1 h2
    obtain ⟨px, v, pos, rfl, hv⟩ := inv_assign h1
    obtain ⟨v', lo', hi', st', q, vpos, rfl, e1, e2, e3, e4⟩ := inv_slc hv
    have hh : ∃ kk pp, hi' = some (.Constant (.int k) kk pp) := by
      cases hi' with
      | none => cases e3
      | some e =>
        obtain ⟨kk, pp, rfl⟩ := inv_int (Γ := Γ) (v := e) e3
        exact ⟨kk, pp, rfl⟩
    obtain ⟨kk, pp, rfl⟩ := hh
    obtain ⟨xv, l, u, kv, g1, g2, g3, g4, g5⟩ := ev_slc h
    cases Option.some.inj g3
    have part : ∀ (o : Option Expr) (z : PV), ev T0 μ (trOpt Γ o) ρ = some z → ∀ (A : Around) (E : Value → Shared → Prop) (W : Addr → Prop) (env : Env) (s : Shared), Room lv A → env.scope.names = Γ → ER C W env s ρ μ → wpAny (model prog w) A (evalPart o env) (fun v s' => Post W s z v s' ∧ s.toks ≤ s'.toks) E s := by
      intro o z hz
      cases o with
      | none => cases Option.some.inj hz; exact part_none
      | some e => exact part_some (ev_sound hC t0ok hz)
    refine wpAny_execs_cons ?_
    rw [PySem.exec_Assign_Name (hs := rfl)]
    refine wpAny_bind (wpAny_standAt (wpAny_bind (wpAny_mono (slc_gen 1 (ev_sound hC t0ok (by rw [e1]; exact g1)) (part _ _ (by rw [e2]; exact g2)) ?_ (part _ _ (by rw [e4]; exact g4)) g5 hr hΓ fr.er) (fun v s₁ h₁ => wpAny_bind (wpAny_standAt (wpAny_bind (wpAny_bindName ?_)))) fun _ _ e => e)))
    · intro A E W env s _ _ _
      exact wpAny_Constant_int (k := kk) (pos := pp) ⟨⟨Keeps.tk _, rep_int.mpr ⟨_, rfl⟩⟩, Nat.le_refl _⟩
    · have fr1 := (fr.keeps h₁.1.1 (Nat.le_of_succ_le h₁.2)).up (Nat.le_trans (Nat.succ_le_succ fr.er.tk) h₁.2)
      refine wpAny_mono (fr_store fr1 hΓ hx h₁.1.2) (fun _ s' h' => wpAny_pure ?_) fun _ _ e => e
      refine wpAny_mono (hs ss h2 A E V env G s₀ s' hr hΓ h') (fun fl s'' ho => ?_) fun _ _ e => e
      obtain ⟨c, ρ', μ', hR, hfl, fr'⟩ := ho
      exact ⟨c, ρ', μ', hR, hfl, fr'.down⟩
end
end Mine
end

section
open PySem PySem.W PyProof.Rows PySem.SeqAt
set_option linter.unusedVariables false
namespace Mine
theorem clip_pos (n k : Nat) : clip n (k : Int) = min k n := by
  unfold clip
  rw [if_neg (by lia)]; lia
theorem clip_neg (n k : Nat) (hk : 0 < k) : clip n (-(k : Int)) = n - k := by
  unfold clip
  rw [if_pos (by lia)]; lia
theorem sl_mid {α : Type} (xs : List α) (k m : Nat) : sl xs (some (k : Int)) (some ((k : Int) + (m : Int))) = (xs.drop k).take m := by
  unfold sl
  rw [show ((k : Int) + (m : Int)) = ((k + m : Nat) : Int) by lia]
  simp only [Option.elim, clip_pos]
  rcases Nat.le_or_le k xs.length with h | h
  · rw [Nat.min_eq_left h]
    rcases Nat.le_or_le (k + m) xs.length with h2 | h2
    · rw [Nat.min_eq_left h2]; congr 1; lia
    · rw [Nat.min_eq_right h2, List.take_of_length_le (by simp), List.take_of_length_le (by simp; lia)]
  · rw [Nat.min_eq_right h, List.drop_eq_nil_iff.mpr (Nat.le_refl _), List.drop_eq_nil_iff.mpr h, List.take_nil, List.take_nil]
theorem sl_upto {α : Type} (xs : List α) (k : Nat) : sl xs none (some (k : Int)) = xs.take k := by
  unfold sl
  simp only [Option.elim, clip_pos, List.drop_zero, Nat.sub_zero]
  rcases Nat.le_or_le k xs.length with h | h
  · rw [Nat.min_eq_left h]
  · rw [Nat.min_eq_right h, List.take_length, List.take_of_length_le h]
theorem sl_last3 {α : Type} (xs : List α) (k : Nat) (hk : 0 < k) : sl xs (some (-(k : Int))) none = xs.drop (xs.length - k) := by
  unfold sl
  simp only [Option.elim, clip_neg _ _ hk]
  rw [List.take_of_length_le (by simp)]
theorem sl_inner {α : Type} (xs : List α) (j k : Nat) (hk : 0 < k) (hl : j + k ≤ xs.length) : sl xs (some (j : Int)) (some (-(k : Int))) = (xs.drop j).take (xs.length - k - j) := by
  unfold sl
  simp only [Option.elim, clip_neg _ _ hk, clip_pos]
  rw [Nat.min_eq_left (by lia)]

/-- the text inside the frame, cut into kinds and pieces -/
noncomputable def scan : Nat → List Nat → List Nat → List (List Nat) → List Nat × List (List Nat)
  | 0, _, K, P => (K, P)
  | n + 1, rest, K, P => match rest with
    | [] => (K, P)
    | c :: r =>
      if (c :: r).take 6 = [40, 63, 62, 46, 42, 63] then scan n ((c :: r).drop 6) (K ++ [104]) (P ++ [[]])
      else if (c :: r).take 2 = [46, 42] then scan n ((c :: r).drop 2) (K ++ [108]) (P ++ [[]])
      else if c = 41 then scan n r (K ++ [98]) (P ++ [[]])
      else scan n r K (P.dropLast ++ [P.getLastD [] ++ [c]])
theorem scan_nil {n : Nat} {K : List Nat} {P : List (List Nat)} : scan n [] K P = (K, P) := by cases n <;> rfl

/-- the places that a piece of some kind may take -/
noncomputable def spotsOf (fits : List Nat → List Nat → Nat → Bool) (name : List Nat) (kd : Nat) (pc : List Nat) (at_ : Nat) : List Nat :=
  (if kd = 108 then (if pc.length ≤ name.length then [name.length - pc.length] else []) else if kd = 104 then List.range' at_ (name.length + 1 - at_) else [at_]).filter fun p => decide (at_ ≤ p) && fits pc name p
noncomputable def walkP (fits : List Nat → List Nat → Nat → Bool) (name : List Nat) : List (Nat × List Nat) → Nat → Option Nat
  | [], a => some a
  | q :: r, a => match spotsOf fits name q.1 q.2 a with
    | [] => none
    | p :: _ => walkP fits name r (p + q.2.length)
end Mine
end

section
open PySem PySem.W PyProof.Rows PySem.SeqAt
set_option linter.unusedVariables false
set_option maxRecDepth 10000
namespace Mine
noncomputable def nTakes : Names := [("text", .local), ("name", .cell), ("kinds", .local), ("body", .local), ("pieces", .cell), ("k", .cell), ("size", .local), ("at", .cell), ("spots", .local), ("len", .globalImplicit), ("range", .globalImplicit), ("list", .globalImplicit)]
/-- the names that the cutting writes -/
structure TkN (Γ : Names) : Prop where
  size : ownOf Γ "size"
  kinds : ownOf Γ "kinds"
  k : ownOf Γ "k"
  spots : ownOf Γ "spots"
noncomputable def bCut : List MStmt := [
    .assign "size" (.const (.int 1)),
    .if_ (.cmp .Eq (.slc (.var "body") (.var "k") (.bin .Add (.var "k") (.const (.int 6))) (.const .none)) (.const (.str [40, 63, 62, 46, 42, 63]))) [
      .aug "kinds" .Add (.const (.str [104])),
      .mcall (.var "pieces") "append" (.const (.str [])),
      .assign "size" (.const (.int 6))] [
      .if_ (.cmp .Eq (.slc (.var "body") (.var "k") (.bin .Add (.var "k") (.const (.int 2))) (.const .none)) (.const (.str [46, 42]))) [
        .aug "kinds" .Add (.const (.str [108])),
        .mcall (.var "pieces") "append" (.const (.str [])),
        .assign "size" (.const (.int 2))] [
        .if_ (.cmp .Eq (.idx (.var "body") (.var "k")) (.const (.str [41]))) [
          .aug "kinds" .Add (.const (.str [98])),
          .mcall (.var "pieces") "append" (.const (.str []))] [
          .setIdx (.var "pieces") (.neg (.const (.int 1))) (.bin .Add (.idx (.var "pieces") (.neg (.const (.int 1)))) (.idx (.var "body") (.var "k")))]]],
    .aug "k" .Add (.var "size")]
noncomputable def eCut (name body K : List Nat) (u : Addr) (k : Nat) : List (Str × PV) := [("name", .str name), ("kinds", .str K), ("body", .str body), ("pieces", .own u), ("k", .int k)]
section
variable {prog : Program} {w : World} {C : Cx} {lv : Nat} {R : CPost} {T : Str → List PV → Option PV} {μ : Mu}
/-- what holds ahead of a cut -/
inductive CutI (name body : List Nat) (u : Addr) (fin : List Nat × List (List Nat)) (m : Nat) : Rho → Mu → Prop
  | mk (k : Nat) (K : List Nat) (P : List (List Nat)) (μ : Mu) (hμ : μ u = some (P.map .str)) (hP : P ≠ []) (hk : k ≤ body.length) (hm : m = body.length - k) (n : Nat) (hn : body.length - k ≤ n) (hs : scan n (body.drop k) K P = fin)
    (hK : K.length ≤ k + 1) (hL : P.length ≤ k + 1) (hX : ∀ x ∈ P, x.length ≤ k) : CutI name body u fin m (envOf (eCut name body K u k)) μ

theorem nTakes_ok : TkN nTakes := ⟨.inl rfl, .inl rfl, .inr rfl, .inl rfl⟩
theorem last_get (P : List (List Nat)) (hP : P ≠ []) : getI (P.map PV.str) (-1) = some (.str (P.getLastD [])) := by
  obtain ⟨Q, x, rfl⟩ := List.eq_nil_or_concat P |>.resolve_left hP
  unfold getI
  rw [if_neg (by decide), if_pos (by simp; lia)]
  have e : (-1 + (((Q.concat x).map PV.str).length : Int)).toNat = Q.length := by simp; lia
  rw [e]; simp
theorem last_set (P : List (List Nat)) (hP : P ≠ []) (y : List Nat) : (P.map PV.str).set (place (P.map PV.str).length (-1)) (.str y) = (P.dropLast ++ [y]).map .str := by
  obtain ⟨Q, x, rfl⟩ := List.eq_nil_or_concat P |>.resolve_left hP
  unfold place
  rw [if_neg (by decide)]
  have e : (-1 + (((Q.concat x).map PV.str).length : Int)).toNat = Q.length := by simp; lia
  rw [e]; simp
theorem drop_head {body : List Nat} {k c : Nat} {r : List Nat} (h : body.drop k = c :: r) : body[k]? = some c ∧ body.drop (k + 1) = r := by
  have hlt : k < body.length := by
    rcases Nat.lt_or_ge k body.length with h' | h'
    · exact h'
    · rw [List.drop_eq_nil_iff.mpr h'] at h; cases h
  rw [List.drop_eq_getElem_cons hlt] at h
  injection h with h1 h2
  exact ⟨by rw [List.getElem?_eq_getElem hlt, h1], h2⟩

theorem cut_loop {Γ : Names} (hN : TkN Γ) (hC : CxOk C) (hT : TOk prog w C lv T) {name body : List Nat} {u : Addr} {fin : List Nat × List (List Nat)} {ms : List MStmt} (hb : body.length < 2 ^ 20) {K : List Nat} {P : List (List Nat)} (h0 : CutI name body u fin body.length (envOf (eCut name body K u 0)) μ)
    (hR : ∀ μ, μ u = some (fin.2.map .str) → fin.1.length ≤ body.length + 1 → SatM prog w C lv Γ ms (envOf (eCut name body fin.1 u body.length)) μ R) :
    SatM prog w C lv Γ (.while_ (.cmp .Lt (.var "k") (.call "len" [(.var "body")])) bCut :: ms) (envOf (eCut name body K u 0)) μ R := by
  refine sat_cons (sat_while (T := T) (CutI name body u fin) body.length hC hT h0 ?_)
  rintro m ρ μ ⟨k, K, P, _, hμ, hP, hk, rfl, n, hn, hs, hK, hL, hX⟩
  refine ⟨.bool (decide ((k : Int) < (body.length : Int))), decide ((k : Int) < (body.length : Int)), rfl, rfl, ?_⟩
  by_cases hlt : k < body.length
  · rw [decide_eq_true (Int.ofNat_lt.mpr hlt), if_pos rfl]
    -- behind the cut
    have done : ∀ (sz : Nat) (K' : List Nat) (P' : List (List Nat)) (μ' : Mu) (n : Nat), μ' u = some (P'.map .str) → P' ≠ [] → 0 < sz → k + sz ≤ body.length → body.length - (k + sz) ≤ n → scan n (body.drop (k + sz)) K' P' = fin → K'.length ≤ k + sz + 1 → P'.length ≤ k + sz + 1 → (∀ x ∈ P', x.length ≤ k + sz) →
        SatM prog w C lv Γ [.aug "k" .Add (.var "size")] (envOf (("size", .int sz) :: eCut name body K' u k)) μ' (Loop (Then prog w C lv Γ ms R .next) (Then prog w C lv Γ ms R) fun ρ' μ' => ∃ m, m < body.length - k ∧ CutI name body u fin m ρ' μ') := by
      intro sz K' P' μ' n q1 q2 q3 q4 qn q5 q6 q7 q8
      refine sat_cons (sat_aug (T := T) (p := .int k) (q := .int sz) (r := .int ((k : Int) + (sz : Int))) hC hT rfl hN.k rfl rfl rfl ?_)
      exact sat_env (eCut name body K' u (k + sz)) ⟨rfl, rfl, rfl, rfl, rfl, trivial⟩ (sat_nil ⟨body.length - (k + sz), by lia, ⟨k + sz, K', P', μ', q1, q2, q4, rfl, n, qn, q5, q6, q7, q8⟩⟩)
    cases hd : body.drop k with
    | nil => exact absurd (List.drop_eq_nil_iff.mp hd) (by lia)
    | cons c r =>
      obtain ⟨hc, hr⟩ := drop_head hd
      obtain ⟨n, rfl⟩ : ∃ n', n = n' + 1 := ⟨n - 1, by lia⟩
      rw [hd] at hs
      have hs : (if (c :: r).take 6 = [40, 63, 62, 46, 42, 63] then scan n ((c :: r).drop 6) (K ++ [104]) (P ++ [[]])
        else if (c :: r).take 2 = [46, 42] then scan n ((c :: r).drop 2) (K ++ [108]) (P ++ [[]])
        else if c = 41 then scan n r (K ++ [98]) (P ++ [[]])
        else scan n r K (P.dropLast ++ [P.getLastD [] ++ [c]])) = fin := hs
      have hsz : body.length ≤ 1048576 := by lia
      have grow : ∀ x ∈ P ++ [[]], x.length ≤ k + 1 := fun x hx => by
        rcases List.mem_append.mp hx with hx | hx
        · exact Nat.le_succ_of_le (hX x hx)
        · rw [List.mem_singleton.mp hx]; exact Nat.zero_le _
      have hone : SatM prog w C lv Γ bCut (envOf (eCut name body K u k)) μ (Loop (Then prog w C lv Γ ms R .next) (Then prog w C lv Γ ms R) fun ρ' μ' => ∃ m, m < body.length - k ∧ CutI name body u fin m ρ' μ') := by
        refine sat_cons (sat_assign (T := T) (.int 1) hC hT hN.size rfl ?_)
        refine sat_cons (sat_if (T := T) (x := .bool (sl body (some (k : Int)) (some ((k : Int) + 6)) == [40, 63, 62, 46, 42, 63])) _ hC hT rfl rfl ?_)
        have e6 : sl body (some (k : Int)) (some ((k : Int) + 6)) = (c :: r).take 6 := by rw [← hd]; exact sl_mid body k 6
        have e2 : sl body (some (k : Int)) (some ((k : Int) + 2)) = (c :: r).take 2 := by rw [← hd]; exact sl_mid body k 2
        by_cases h6 : (c :: r).take 6 = [40, 63, 62, 46, 42, 63]
        · rw [if_pos h6] at hs
          rw [e6, h6]
          have hl6 : k + 6 ≤ body.length := by
            have := congrArg List.length h6
            rw [← hd] at this
            simp at this; lia
          refine sat_cons (sat_aug (T := T) (p := .str K) (q := .str [104]) (r := .str (K ++ [104])) hC hT rfl hN.kinds rfl rfl (if_pos (by simp [SZ]; lia)) ?_)
          refine sat_cons (sat_append (T := T) (p := .str []) hC hT rfl hμ rfl (by simp [SZ]; lia) ?_)
          refine sat_cons (sat_assign (T := T) (.int 6) hC hT hN.size rfl (sat_nil ?_))
          refine sat_env (("size", .int (6 : Nat)) :: eCut name body (K ++ [104]) u k) ⟨rfl, rfl, rfl, rfl, rfl, rfl, trivial⟩ (done 6 (K ++ [104]) (P ++ [[]]) _ n (by simp [muSet]) (by simp) (by decide) hl6 (by lia) ?_ (by simp; lia) (by simp; lia) fun x hx => Nat.le_trans (grow x hx) (by lia))
          rw [← hs, ← hd, List.drop_drop]
        · rw [if_neg h6] at hs
          rw [e6, beq_eq_false_iff_ne.mpr h6]
          refine sat_cons (sat_if (T := T) (x := .bool (sl body (some (k : Int)) (some ((k : Int) + 2)) == [46, 42])) _ hC hT rfl rfl ?_)
          by_cases h2 : (c :: r).take 2 = [46, 42]
          · rw [if_pos h2] at hs
            rw [e2, h2]
            have hl2 : k + 2 ≤ body.length := by
              have := congrArg List.length h2
              rw [← hd] at this
              simp at this; lia
            refine sat_cons (sat_aug (T := T) (p := .str K) (q := .str [108]) (r := .str (K ++ [108])) hC hT rfl hN.kinds rfl rfl (if_pos (by simp [SZ]; lia)) ?_)
            refine sat_cons (sat_append (T := T) (p := .str []) hC hT rfl hμ rfl (by simp [SZ]; lia) ?_)
            refine sat_cons (sat_assign (T := T) (.int 2) hC hT hN.size rfl (sat_nil (sat_nil ?_)))
            refine sat_env (("size", .int (2 : Nat)) :: eCut name body (K ++ [108]) u k) ⟨rfl, rfl, rfl, rfl, rfl, rfl, trivial⟩ (done 2 (K ++ [108]) (P ++ [[]]) _ n (by simp [muSet]) (by simp) (by decide) hl2 (by lia) ?_ (by simp; lia) (by simp; lia) fun x hx => Nat.le_trans (grow x hx) (by lia))
            rw [← hs, ← hd, List.drop_drop]
          · rw [if_neg h2] at hs
            rw [e2, beq_eq_false_iff_ne.mpr h2]
            have ec : ev T μ (.idx (.var "body") (.var "k")) (upd (envOf (eCut name body K u k)) "size" (.int 1)) = some (.str [c]) := by
              show ((getI body (k : Int)).map fun c => PV.str [c]) = _
              rw [getI_at, hc]; rfl
            refine sat_cons (sat_if (T := T) (x := .bool ([c] == [41])) _ hC hT (ev_cmp_of (y := .str [41]) ec rfl) rfl ?_)
            by_cases h1 : c = 41
            · rw [if_pos h1] at hs
              subst h1
              refine sat_cons (sat_aug (T := T) (p := .str K) (q := .str [98]) (r := .str (K ++ [98])) hC hT rfl hN.kinds rfl rfl (if_pos (by simp [SZ]; lia)) ?_)
              refine sat_cons (sat_append (T := T) (p := .str []) hC hT rfl hμ rfl (by simp [SZ]; lia) (sat_nil (sat_nil (sat_nil ?_))))
              refine sat_env (("size", .int (1 : Nat)) :: eCut name body (K ++ [98]) u k) ⟨rfl, rfl, rfl, rfl, rfl, rfl, trivial⟩ (done 1 (K ++ [98]) (P ++ [[]]) _ n (by simp [muSet]) (by simp) (by decide) hlt (by lia) (by rw [hr]; exact hs) (by simp; lia) (by simp; lia) fun x hx => grow x hx)
            · rw [if_neg h1] at hs
              have e1 : ([c] == [41]) = false := by rw [beq_eq_false_iff_ne]; intro h; exact h1 (List.cons.inj h).1
              rw [e1]
              have el : ev T μ (.idx (.var "pieces") (.neg (.const (.int 1)))) (upd (envOf (eCut name body K u k)) "size" (.int 1)) = some (.str (P.getLastD [])) := by
                show (match rs μ (.own u) with
                  | .lst xs => getI xs (-1)
                  | .tup xs => getI xs (-1)
                  | .str xs => (getI xs (-1)).map fun c => PV.str [c]
                  | _ => none) = _
                rw [rs, hμ]
                exact last_get P hP
              have hlast : (P.getLastD []).length ≤ k := by
                obtain ⟨Q, x, rfl⟩ := List.eq_nil_or_concat P |>.resolve_left hP
                simpa using hX x (by simp)
              refine sat_cons (sat_setIdx (T := T) (.str (P.getLastD [] ++ [c])) (k := -1) hC hT rfl hμ ?_ rfl ?_ ?_ ?_)
              · rw [ev_bin_of el ec]
                show (if (P.getLastD []).length + [c].length ≤ SZ then some (PV.str (P.getLastD [] ++ [c])) else none) = _
                rw [if_pos (by rw [List.length_singleton]; simp only [SZ]; lia)]
              · have := List.length_pos_iff.mpr hP
                rw [List.length_map]; lia
              · have := List.length_pos_iff.mpr hP
                rw [List.length_map]; lia
              · rw [last_set P hP]
                refine sat_nil (sat_nil (sat_nil ?_))
                refine sat_env (("size", .int (1 : Nat)) :: eCut name body K u k) ⟨rfl, rfl, rfl, rfl, rfl, rfl, trivial⟩ (done 1 K (P.dropLast ++ [P.getLastD [] ++ [c]]) _ n (by simp [muSet]) (by simp) (by decide) hlt (by lia) (by rw [hr]; exact hs) (by lia) (by simp; lia) fun x hx => ?_)
                rcases List.mem_append.mp hx with hx | hx
                · exact Nat.le_succ_of_le (hX x (List.dropLast_subset P hx))
                · rw [List.mem_singleton.mp hx, List.length_append, List.length_singleton]; lia
      exact hone
  · rw [decide_eq_false (fun h => hlt (Int.ofNat_lt.mp h)), if_neg Bool.false_ne_true]
    have : k = body.length := by lia
    subst this
    rw [List.drop_length, scan_nil] at hs
    subst hs
    exact hR μ hμ hK
end
end Mine
end

section
open PySem PySem.W PyProof.Rows PySem.SeqAt
set_option linter.unusedVariables false
set_option maxRecDepth 10000
namespace Mine
section
variable {T : Str → List PV → Option PV} {μ : Mu} {ρ : Rho} {a b c : MExpr} {x y z : PV}
/-- a comprehension, told by what each item gives -/
theorem compRun_of {f : PV → Option (List PV)} {F : PV → List PV} : ∀ {items : List PV}, (∀ q ∈ items, f q = some (F q)) → compRun f items = some (items.flatMap F)
  | [], _ => rfl
  | q :: r, h => by
    show (match f q, compRun f r with
      | some a, some r => some (a ++ r)
      | _, _ => none) = _
    rw [h q List.mem_cons_self, compRun_of fun x hx => h x (List.mem_cons_of_mem _ hx)]
    rfl
/-- what the items of a comprehension give, one by one -/
noncomputable def compF (T : Str → List PV → Option PV) (μ : Mu) (elt : MExpr) (t : MTgt) (ifs : List MExpr) (fr : List Str) (ρ : Rho) : PV → Option (List PV) := fun p => match bindT (restr fr ρ) t p with
  | some ρ' => match evAll T μ ifs ρ' with
    | some true => (ev T μ elt ρ').map fun y => [y]
    | some false => some []
    | none => none
  | none => none
theorem ev_comp_fin {elt it : MExpr} {t : MTgt} {ifs : List MExpr} {fr : List Str} {items ys : List PV} (h1 : ev T μ it ρ = some x) (h2 : iter μ x = some items) (h3 : compRun (compF T μ elt t ifs fr ρ) items = some ys) (hl : ys.length ≤ SZ) (hi : items.length ≤ SZ) :
    ev T μ (.comp1 elt t it ifs fr) ρ = some (.lst ys) := by
  have fin : ∀ (f : PV → Option (List PV)), compRun f items = some ys → (match compRun f items with
      | some ys => if ys.length ≤ SZ ∧ items.length ≤ SZ then some (PV.lst ys) else none
      | none => none) = some (.lst ys) := by
    intro f hf
    rw [hf]
    exact if_pos ⟨hl, hi⟩
  show (match ev T μ it ρ with
    | some x => match iter μ x with
      | some items => match compRun (compF T μ elt t ifs fr ρ) items with
        | some ys => if ys.length ≤ SZ ∧ items.length ≤ SZ then some (PV.lst ys) else none
        | none => none
      | none => none
    | none => none) = _
  rw [h1]
  show (match iter μ x with
      | some items => match compRun (compF T μ elt t ifs fr ρ) items with
        | some ys => if ys.length ≤ SZ ∧ items.length ≤ SZ then some (PV.lst ys) else none
        | none => none
      | none => none) = _
  rw [h2]
  exact fin _ h3
theorem ev_filter {v : Str} {it cond : MExpr} {fr : List Str} {items : List PV} (f : PV → Bool) (h1 : ev T μ it ρ = some x) (h2 : iter μ x = some items)
    (h3 : ∀ q ∈ items, ev T μ cond (upd (restr fr ρ) v q) = some (.bool (f q))) (hl : items.length ≤ SZ) : ev T μ (.comp1 (.var v) (.one v) it [cond] fr) ρ = some (.lst (items.filter f)) := by
  have fl : items.flatMap (fun q => if f q then [q] else []) = items.filter f := by
    clear h1 h2 h3 hl
    induction items with
    | nil => rfl
    | cons q r ih =>
      rw [List.flatMap_cons, ih, List.filter_cons]
      cases f q <;> rfl
  refine ev_comp_fin h1 h2 ?_ (Nat.le_trans (List.length_filter_le f items) hl) hl
  rw [← fl]
  refine compRun_of fun q hq => ?_
  show (match (match ev T μ cond (upd (restr fr ρ) v q) with
    | some x => match truth x with
      | some true => some true
      | some false => some false
      | none => none
    | none => none) with
      | some true => (ev T μ (.var v) (upd (restr fr ρ) v q)).map fun y => [y]
      | some false => some []
      | none => none) = _
  rw [h3 q hq]
  cases f q with
  | true =>
    show ((if v = v then some q else restr fr ρ v).map fun y => [y]) = _
    rw [if_pos rfl]; rfl
  | false => rfl
/-- a comprehension without a test -/
theorem ev_map {v : Str} {it elt : MExpr} {fr : List Str} {items : List PV} (f : PV → PV) (h1 : ev T μ it ρ = some x) (h2 : iter μ x = some items)
    (h3 : ∀ q ∈ items, ev T μ elt (upd (restr fr ρ) v q) = some (f q)) (hl : items.length ≤ SZ) : ev T μ (.comp1 elt (.one v) it [] fr) ρ = some (.lst (items.map f)) := by
  have fl : items.flatMap (fun q => [f q]) = items.map f := by
    clear h1 h2 h3 hl
    induction items with
    | nil => rfl
    | cons q r ih => rw [List.flatMap_cons, ih]; rfl
  refine ev_comp_fin h1 h2 ?_ (by rw [List.length_map]; exact hl) hl
  rw [← fl]
  refine compRun_of fun q hq => ?_
  show ((ev T μ elt (upd (restr fr ρ) v q)).map fun y => [y]) = _
  rw [h3 q hq]; rfl
end
section
variable {prog : Program} {w : World} {C : Cx} {lv : Nat} {Γ : Names} {ρ : Rho} {μ : Mu} {R : CPost}
theorem Loop.imp {K : Rho → Mu → Prop} {N N' : Rho → Mu → Prop} (h : ∀ ρ μ, N ρ μ → N' ρ μ) : ∀ c ρ μ, Loop K R N c ρ μ → Loop K R N' c ρ μ
  | .next, ρ, μ, x => h ρ μ x
  | .brk, ρ, μ, x => x
  | .ret p, ρ, μ, x => x
theorem for_inv {t : MTgt} {b : List MStmt} {K : Rho → Mu → Prop} (I : List PV → Rho → Mu → Prop) (hend : ∀ ρ μ, I [] ρ μ → K ρ μ)
    (step : ∀ p ps ρ μ, I (p :: ps) ρ μ → ∃ ρ1, bindT ρ t p = some ρ1 ∧ SatM prog w C lv Γ b ρ1 μ (Loop K R (I ps))) : ∀ items ρ μ, I items ρ μ → ForS prog w C lv Γ t b K R items ρ μ
  | [], ρ, μ, h => hend ρ μ h
  | p :: ps, ρ, μ, h => by
    obtain ⟨ρ1, h1, h2⟩ := step p ps ρ μ h
    exact ⟨ρ1, h1, h2.mono (Loop.imp fun ρ μ hI => for_inv I hend step ps ρ μ hI)⟩
end
end Mine
end

section
open PySem PySem.W PyProof.Rows PySem.SeqAt
set_option linter.unusedVariables false
set_option maxRecDepth 10000
namespace Mine
/-- the first half of a turn: the places that come into question -/
noncomputable def bSpots : List MStmt := [
    .assign "spots" (.lst [(.var "at")]),
    .if_ (.cmp .Eq (.idx (.var "kinds") (.var "k")) (.const (.str [104]))) [
      .assign "spots" (.call "list" [(.call "range" [(.var "at"), (.bin .Add (.call "len" [(.var "name")]) (.const (.int 1)))])])] [],
    .if_ (.cmp .Eq (.idx (.var "kinds") (.var "k")) (.const (.str [108]))) [
      .assign "spots" (.lst [(.bin .Sub (.call "len" [(.var "name")]) (.call "len" [(.idx (.var "pieces") (.var "k"))]))])] [],
    .assign "spots" (.comp1 (.var "p") (.one "p") (.var "spots") [(.and (.cmp .GtE (.var "p") (.var "at")) (.call "_law_fits" [(.idx (.var "pieces") (.var "k")), (.var "name"), (.var "p")]))] ["at", "k", "name", "pieces"])]
noncomputable def eTurn (name K : List Nat) (u : Addr) (at_ k : Nat) : List (Str × PV) := [("k", .int k), ("name", .str name), ("kinds", .str K), ("pieces", .own u), ("at", .int at_)]
theorem allIn_app : ∀ {l X : List (Str × PV)} {ρ : Rho}, AllIn l ρ → AllIn X ρ → AllIn (l ++ X) ρ
  | [], _, _, _, h => h
  | _ :: _, _, _, h1, h => ⟨h1.1, allIn_app h1.2 h⟩
section
variable {prog : Program} {w : World} {C : Cx} {lv : Nat} {R : CPost} {T : Str → List PV → Option PV} {μ : Mu}
noncomputable def rawSpots (name : List Nat) (kd : Nat) (pc : List Nat) (a : Nat) : List PV :=
  if kd = 108 then [.int ((name.length : Int) - (pc.length : Int))] else if kd = 104 then intsFrom a ((name.length : Int) + 1 - (a : Int)).toNat 1 else [.int a]
noncomputable def okSpot (fits : List Nat → List Nat → Nat → Bool) (name pc : List Nat) (a : Nat) : PV → Bool
  | .int p => decide ((a : Int) ≤ p) && fits pc name p.toNat
  | _ => false
theorem raw_ok {fits : List Nat → List Nat → Nat → Bool} {name pc : List Nat} {kd a : Nat} (ha : a ≤ name.length) : (rawSpots name kd pc a).filter (okSpot fits name pc a) = (spotsOf fits name kd pc a).map fun (p : Nat) => PV.int p := by
  unfold rawSpots spotsOf
  have gen : ∀ l : List Nat, (l.map fun (p : Nat) => PV.int p).filter (okSpot fits name pc a) = (l.filter fun p => decide (a ≤ p) && fits pc name p).map fun (p : Nat) => PV.int p := by
    intro l
    rw [List.filter_map]
    congr 1
    apply List.filter_congr
    intro p _
    show (decide ((a : Int) ≤ (p : Int)) && fits pc name (p : Int).toNat) = _
    rw [Int.toNat_natCast]
    congr 1
    rw [Bool.eq_iff_iff]; simp
  by_cases h1 : kd = 108
  · rw [if_pos h1, if_pos h1]
    by_cases h2 : pc.length ≤ name.length
    · rw [if_pos h2, ← gen]
      rw [show ((name.length : Int) - (pc.length : Int)) = ((name.length - pc.length : Nat) : Int) by lia]; rfl
    · rw [if_neg h2]
      have : okSpot fits name pc a (.int ((name.length : Int) - (pc.length : Int))) = false := by
        show (decide ((a : Int) ≤ _) && _) = false
        rw [decide_eq_false (by lia)]; rfl
      rw [List.filter_cons, this]; rfl
  · rw [if_neg h1, if_neg h1]
    by_cases h2 : kd = 104
    · rw [if_pos h2, if_pos h2, ← gen]
      congr 1
      unfold intsFrom
      rw [show ((name.length : Int) + 1 - (a : Int)).toNat = name.length + 1 - a by lia, List.range'_eq_map_range, List.map_map]
      apply List.map_congr_left
      intro i _
      show PV.int ((a : Int) + (i : Int) * 1) = PV.int ((a + i : Nat) : Int)
      congr 1; lia
    · rw [if_neg h2, if_neg h2, ← gen]; rfl

/-- the first half of a turn -/
theorem spots_sat {Γ : Names} (hN : TkN Γ) (hC : CxOk C) (hT : TOk prog w C lv T) {fits : List Nat → List Nat → Nat → Bool} {name K pc : List Nat} {P : List (List Nat)} {u : Addr} {a k kd : Nat} {ms : List MStmt} (X : List (Str × PV)) (hX1 : ∀ v, AllIn X (upd (envOf (eTurn name K u a k ++ X)) "spots" v)) (hX2 : ∀ v0 v, AllIn X (upd (envOf (("spots", v0) :: (eTurn name K u a k ++ X))) "spots" v)) (hμ : μ u = some (P.map .str)) (hk : K[k]? = some kd) (hp : P[k]? = some pc) (hn : name.length < 2 ^ 20) (hpc : pc.length < 2 ^ 20) (ha : a ≤ name.length)
    (hf : ∀ p : Nat, p ≤ name.length → T "_law_fits" [.str pc, .str name, .int p] = some (.bool (fits pc name p)))
    (hR : SatM prog w C lv Γ ms (envOf (("spots", .lst ((spotsOf fits name kd pc a).map fun (p : Nat) => PV.int p)) :: (eTurn name K u a k ++ X))) μ R) :
    SatM prog w C lv Γ (bSpots ++ ms) (envOf (eTurn name K u a k ++ X)) μ R := by
  have ek : ∀ v, ev T μ (.idx (.var "kinds") (.var "k")) (envOf (("spots", v) :: (eTurn name K u a k ++ X))) = some (.str [kd]) := by
    intro v
    show ((getI K (k : Int)).map fun c => PV.str [c]) = _
    rw [getI_at, hk]; rfl
  have hpg : getI (P.map PV.str) (k : Int) = some (.str pc) := by rw [getI_at, List.getElem?_map, hp]; rfl
  -- the places are sifted
  have s4 : SatM prog w C lv Γ (.assign "spots" (.comp1 (.var "p") (.one "p") (.var "spots") [(.and (.cmp .GtE (.var "p") (.var "at")) (.call "_law_fits" [(.idx (.var "pieces") (.var "k")), (.var "name"), (.var "p")]))] ["at", "k", "name", "pieces"]) :: ms) (envOf (("spots", .lst (rawSpots name kd pc a)) :: (eTurn name K u a k ++ X))) μ R := by
    refine sat_cons (sat_assign (T := T) (.lst ((rawSpots name kd pc a).filter (okSpot fits name pc a))) hC hT hN.spots ?_ ?_)
    · refine ev_filter (okSpot fits name pc a) (x := .lst (rawSpots name kd pc a)) rfl rfl ?_ ?_
      · intro q hq
        have hqi : ∃ p : Int, q = .int p ∧ p ≤ name.length := by
          unfold rawSpots at hq
          split at hq
          · exact ⟨_, List.mem_singleton.mp hq, by lia⟩
          · split at hq
            · unfold intsFrom at hq
              obtain ⟨i, hi, rfl⟩ := List.mem_map.mp hq
              have := List.mem_range.mp hi
              exact ⟨_, rfl, by lia⟩
            · exact ⟨_, List.mem_singleton.mp hq, by lia⟩
        obtain ⟨p, rfl, hple⟩ := hqi
        refine ev_and_of (p := decide ((a : Int) ≤ p)) rfl fun hge => ?_
        have hge := of_decide_eq_true hge
        obtain ⟨p, rfl⟩ : ∃ n : Nat, p = (n : Int) := ⟨p.toNat, by lia⟩
        rw [Int.toNat_natCast]
        rw [ev_call_of (xs := [.str pc, .str name, .int p]) (evs_more ((ev_idx_of rfl rfl).trans ((idx_own hμ).trans hpg)) rfl) (by decide) rfl]
        exact hf p (by lia)
      · unfold rawSpots
        split
        · simp [SZ]
        · split
          · simp [intsFrom, SZ]; lia
          · simp [SZ]
    · rw [raw_ok ha]
      exact sat_env (("spots", .lst ((spotsOf fits name kd pc a).map fun (p : Nat) => PV.int p)) :: (eTurn name K u a k ++ X)) (allIn_app (l := ("spots", _) :: eTurn name K u a k) ⟨rfl, rfl, rfl, rfl, rfl, rfl, trivial⟩ (hX2 _ _)) hR
  have s3 : ∀ v, (kd ≠ 108 → v = .lst (rawSpots name kd pc a)) → SatM prog w C lv Γ (.if_ (.cmp .Eq (.idx (.var "kinds") (.var "k")) (.const (.str [108]))) [
      .assign "spots" (.lst [(.bin .Sub (.call "len" [(.var "name")]) (.call "len" [(.idx (.var "pieces") (.var "k"))]))])] [] :: .assign "spots" (.comp1 (.var "p") (.one "p") (.var "spots") [(.and (.cmp .GtE (.var "p") (.var "at")) (.call "_law_fits" [(.idx (.var "pieces") (.var "k")), (.var "name"), (.var "p")]))] ["at", "k", "name", "pieces"]) :: ms) (envOf (("spots", v) :: (eTurn name K u a k ++ X))) μ R := by
    intro v hv
    refine sat_cons (sat_if (T := T) (x := .bool ([kd] == [108])) _ hC hT (ev_cmp_of (y := .str [108]) (ek v) rfl) rfl ?_)
    by_cases h : kd = 108
    · subst h
      refine sat_cons (sat_assign (T := T) (.lst [.int ((name.length : Int) - (pc.length : Int))]) hC hT hN.spots ?_ (sat_nil ?_))
      · have h1 : ev T μ (.bin .Sub (.call "len" [(.var "name")]) (.call "len" [(.idx (.var "pieces") (.var "k"))])) (envOf (("spots", v) :: (eTurn name K u a k ++ X))) = some (.int ((name.length : Int) - (pc.length : Int))) :=
          ev_bin_of (x := .int name.length) (y := .int pc.length) rfl (ev_len_of ((ev_idx_of rfl rfl).trans ((idx_own hμ).trans hpg)) rfl)
        show (match evs T μ [_] (envOf (("spots", v) :: (eTurn name K u a k ++ X))) with
          | some xs => if xs.length ≤ SZ then some (PV.lst xs) else none
          | none => none) = _
        rw [evs_one h1]; rfl
      · exact sat_env (("spots", .lst (rawSpots name 108 pc a)) :: (eTurn name K u a k ++ X)) (allIn_app (l := ("spots", _) :: eTurn name K u a k) ⟨rfl, rfl, rfl, rfl, rfl, rfl, trivial⟩ (hX2 _ _)) s4
    · have e1 : ([kd] == [108]) = false := by rw [beq_eq_false_iff_ne]; intro hh; exact h (List.cons.inj hh).1
      rw [e1]
      refine sat_nil ?_
      rw [hv h]
      exact s4
  refine sat_cons (sat_assign (T := T) (.lst [.int a]) hC hT hN.spots rfl ?_)
  refine sat_env (("spots", .lst [.int a]) :: (eTurn name K u a k ++ X)) (allIn_app (l := ("spots", _) :: eTurn name K u a k) ⟨rfl, rfl, rfl, rfl, rfl, rfl, trivial⟩ (hX1 _)) ?_
  refine sat_cons (sat_if (T := T) (x := .bool ([kd] == [104])) _ hC hT (ev_cmp_of (y := .str [104]) (ek _) rfl) rfl ?_)
  by_cases h : kd = 104
  · subst h
    refine sat_cons (sat_assign (T := T) (.lst (intsFrom a ((name.length : Int) + 1 - (a : Int)).toNat 1)) hC hT hN.spots ?_ (sat_nil ?_))
    · have h1 : ev T μ (.call "range" [(.var "at"), (.bin .Add (.call "len" [(.var "name")]) (.const (.int 1)))]) (envOf (("spots", .lst [.int a]) :: (eTurn name K u a k ++ X))) = some (.rng a ((name.length : Int) + 1 - (a : Int)).toNat 1) := by
        rw [ev_bi_of (xs := [.int a, .int ((name.length : Int) + 1)]) rfl (by decide)]
        show (if (a : Int).natAbs < 2 ^ 60 ∧ ((name.length : Int) + 1).natAbs < 2 ^ 60 then some (PV.rng a ((name.length : Int) + 1 - (a : Int)).toNat 1) else none) = _
        rw [if_pos ⟨by lia, by lia⟩]
      rw [ev_bi_of (evs_one h1) (by decide)]
      show (if ((name.length : Int) + 1 - (a : Int)).toNat ≤ SZ then some (PV.lst (intsFrom a ((name.length : Int) + 1 - (a : Int)).toNat 1)) else none) = _
      rw [if_pos (by simp only [SZ]; lia)]
    · exact sat_env (("spots", .lst (rawSpots name 104 pc a)) :: (eTurn name K u a k ++ X)) (allIn_app (l := ("spots", _) :: eTurn name K u a k) ⟨rfl, rfl, rfl, rfl, rfl, rfl, trivial⟩ (hX2 _ _)) (s3 _ fun _ => rfl)
  · have e1 : ([kd] == [104]) = false := by rw [beq_eq_false_iff_ne]; intro hh; exact h (List.cons.inj hh).1
    rw [e1]
    refine sat_nil (s3 _ fun h2 => ?_)
    unfold rawSpots
    rw [if_neg h2, if_neg h]
end
end Mine
end

section
open PySem PySem.W PyProof.Rows PySem.SeqAt
set_option linter.unusedVariables false
set_option maxRecDepth 10000
namespace Mine
noncomputable def bTurn : List MStmt := bSpots ++ [
    .if_ (.cmp .Eq (.var "spots") (.lst [])) [
      .ret (.const (.bool false))] [],
    .assign "at" (.bin .Add (.idx (.var "spots") (.const (.int 0))) (.call "len" [(.idx (.var "pieces") (.var "k"))]))]
noncomputable def bTakes : List MStmt := [
  .assign "kinds" (.ite (.and (.cmp .Eq (.slc (.var "text") (.const .none) (.const (.int 4)) (.const .none)) (.const (.str [40, 63, 115, 58]))) (.cmp .Eq (.slc (.var "text") (.neg (.const (.int 3))) (.const .none) (.const .none)) (.const (.str [41, 92, 90])))) (.const (.str [98])) (.const (.str [110, 111, 110, 101]))),
  .assign "body" (.slc (.var "text") (.const (.int 4)) (.neg (.const (.int 3))) (.const .none)),
  .assign "pieces" (.lst [(.const (.str []))]),
  .assign "k" (.const (.int 0)),
  .while_ (.cmp .Lt (.var "k") (.call "len" [(.var "body")])) bCut,
  .if_ (.cmp .NotIn (.repl (.var "kinds") [104, 98] []) (.tup [(.const (.str [98])), (.const (.str [98, 108]))])) [
    .ret (.const .none)] [],
  .assign "at" (.const (.int 0)),
  .for_ (.one "k") (.call "range" [(.call "len" [(.var "kinds")])]) bTurn,
  .ret (.cmp .Eq (.var "at") (.call "len" [(.var "name")]))]
noncomputable def eFor (name K : List Nat) (u : Addr) (a : Nat) : List (Str × PV) := [("name", .str name), ("kinds", .str K), ("pieces", .own u), ("at", .int a)]
noncomputable def takesP (fits : List Nat → List Nat → Nat → Bool) (name : List Nat) (q : List (Nat × List Nat)) : Bool := match walkP fits name q 0 with
  | some a => a == name.length
  | none => false
section
variable {prog : Program} {w : World} {C : Cx} {lv : Nat} {R : CPost} {T : Str → List PV → Option PV} {μ : Mu}
inductive TkI (fits : List Nat → List Nat → Nat → Bool) (name K : List Nat) (u : Addr) (P : List (List Nat)) (res : Option Nat) (items : List PV) : Rho → Mu → Prop
  | mk (k a : Nat) (μ : Mu) (hμ : μ u = some (P.map .str)) (hi : items = (intsFrom 0 K.length 1).drop k) (ha : a ≤ name.length) (hw : walkP fits name ((K.zip P).drop k) a = res) : TkI fits name K u P res items (envOf (eFor name K u a)) μ
theorem ints_at {n k : Nat} {p : PV} {ps : List PV} (h : p :: ps = (intsFrom 0 n 1).drop k) : k < n ∧ p = .int k ∧ ps = (intsFrom 0 n 1).drop (k + 1) := by
  have hlt : k < (intsFrom 0 n 1).length := by
    rcases Nat.lt_or_ge k (intsFrom 0 n 1).length with h' | h'
    · exact h'
    · rw [List.drop_eq_nil_iff.mpr h'] at h; cases h
  rw [List.drop_eq_getElem_cons hlt] at h
  injection h with h1 h2
  have hn : k < n := by simpa [intsFrom] using hlt
  refine ⟨hn, ?_, h2⟩
  rw [h1]
  simp [intsFrom]
theorem zip_at {K : List Nat} {P : List (List Nat)} {k kd : Nat} {pc : List Nat} (hk : K[k]? = some kd) (hp : P[k]? = some pc) : (K.zip P).drop k = (kd, pc) :: (K.zip P).drop (k + 1) := by
  have h : (K.zip P)[k]? = some (kd, pc) := by rw [List.getElem?_zip_eq_some]; exact ⟨hk, hp⟩
  have hlt : k < (K.zip P).length := (List.getElem?_eq_some_iff.mp h).1
  rw [List.drop_eq_getElem_cons hlt]
  congr 1
  exact Option.some.inj ((List.getElem?_eq_getElem hlt).symm.trans h)

theorem own_one {Γ : Names} {x : Str} (h : ownOf Γ x) : ∀ y ∈ tgtNames (.one x), ownOf Γ y := fun y hy => by rw [List.mem_singleton.mp hy]; exact h
theorem turn_takes (hC : CxOk C) (hT : TOk prog w C lv T) {fits : List Nat → List Nat → Nat → Bool} {name K : List Nat} {P : List (List Nat)} {u : Addr} {ms : List MStmt} (hl : P.length = K.length) (hn : name.length < 2 ^ 20) (hpc : ∀ pc ∈ P, pc.length < 2 ^ 20) (hK : K.length < 2 ^ 20)
    (hf : ∀ pc ∈ P, ∀ p : Nat, p ≤ name.length → T "_law_fits" [.str pc, .str name, .int p] = some (.bool (fits pc name p))) (hfit : ∀ pc p, fits pc name p = true → p + pc.length ≤ name.length) (hμ : μ u = some (P.map .str))
    (hend : ∀ a μ, a ≤ name.length → walkP fits name (K.zip P) 0 = some a → SatM prog w C lv nTakes ms (envOf (eFor name K u a)) μ R)
    (hno : ∀ ρ μ, walkP fits name (K.zip P) 0 = none → R (.ret (.bool false)) ρ μ) :
    SatM prog w C lv nTakes (.for_ (.one "k") (.call "range" [(.call "len" [(.var "kinds")])]) bTurn :: ms) (envOf (eFor name K u 0)) μ R := by
  have hr : ev T μ (.call "range" [(.call "len" [(.var "kinds")])]) (envOf (eFor name K u 0)) = some (.rng 0 K.length 1) := by
    rw [ev_bi_of (xs := [.int K.length]) rfl (by decide)]
    show (if (K.length : Int).natAbs < 2 ^ 60 then some (PV.rng 0 (K.length : Int).toNat 1) else none) = _
    rw [if_pos (by lia), Int.toNat_natCast]
  refine sat_cons (sat_for (T := T) (x := .rng 0 K.length 1) (intsFrom 0 K.length 1) hC hT hr rfl rfl (own_one (.inr rfl)) ?_)
  refine for_inv (TkI fits name K u P (walkP fits name (K.zip P) 0)) ?_ ?_ _ _ _ ⟨0, 0, μ, hμ, rfl, Nat.zero_le _, rfl⟩
  · rintro ρ μ ⟨k, a, _, hμ, hi, ha, hw⟩
    have hk : K.length ≤ k := by
      have := List.drop_eq_nil_iff.mp hi.symm
      simpa [intsFrom] using this
    rw [List.drop_eq_nil_iff.mpr (by simp; lia)] at hw
    exact hend a μ ha hw.symm
  · rintro p ps ρ μ ⟨k, a, _, hμ, hi, ha, hw⟩
    obtain ⟨hk, rfl, rfl⟩ := ints_at hi
    have hk1 : K[k]? = some K[k] := List.getElem?_eq_getElem hk
    have hp1 : P[k]? = some (P[k]'(by lia)) := List.getElem?_eq_getElem (by lia)
    have hmem : P[k]'(by lia) ∈ P := List.getElem_mem _
    generalize K[k] = kd at hk1
    generalize P[k]'(by lia) = pc at hp1 hmem
    rw [zip_at hk1 hp1] at hw
    refine ⟨_, rfl, ?_⟩
    refine sat_env (eTurn name K u a k) ⟨rfl, rfl, rfl, rfl, rfl, trivial⟩ ?_
    refine spots_sat nTakes_ok hC hT [] (fun _ => trivial) (fun _ _ => trivial) hμ hk1 hp1 hn (hpc pc hmem) ha (hf pc hmem) ?_
    have hw : (match spotsOf fits name kd pc a with
      | [] => none
      | p :: _ => walkP fits name ((K.zip P).drop (k + 1)) (p + pc.length)) = walkP fits name (K.zip P) 0 := hw
    cases hs : spotsOf fits name kd pc a with
    | nil =>
      rw [hs] at hw
      refine sat_cons (sat_if (T := T) (x := .bool true) true hC hT rfl rfl ?_)
      exact sat_cons (sat_ret (T := T) (.bool false) hC hT rfl (hno _ _ hw.symm))
    | cons p0 more =>
      rw [hs] at hw
      have hp0 : fits pc name p0 = true := by
        have : p0 ∈ spotsOf fits name kd pc a := by rw [hs]; exact List.mem_cons_self
        unfold spotsOf at this
        exact (Bool.and_eq_true_iff.mp (List.mem_filter.mp this).2).2
      refine sat_cons (sat_if (T := T) (x := .bool false) false hC hT rfl rfl ?_)
      refine sat_nil ?_
      have hlen : ev T μ (.call "len" [(.idx (.var "pieces") (.var "k"))]) (envOf (("spots", .lst ((p0 :: more).map fun (p : Nat) => PV.int p)) :: eTurn name K u a k)) = some (.int pc.length) :=
        ev_len_of ((ev_idx_of rfl rfl).trans ((idx_own hμ).trans (by rw [getI_at, List.getElem?_map, hp1]; rfl))) rfl
      refine sat_cons (sat_assign (T := T) (.int ((p0 : Int) + (pc.length : Int))) hC hT (.inr rfl) (ev_bin_of (x := .int p0) rfl hlen) ?_)
      exact sat_env (eFor name K u (p0 + pc.length)) ⟨rfl, rfl, rfl, rfl, trivial⟩ (sat_nil ⟨k + 1, p0 + pc.length, μ, hμ, rfl, hfit pc p0 hp0, hw⟩)
end
end Mine
end

section
open PySem PySem.W PyProof.Rows PySem.SeqAt
set_option linter.unusedVariables false
set_option maxRecDepth 10000
namespace Mine
noncomputable def frame (body : List Nat) : List Nat := [40, 63, 115, 58] ++ body ++ [41, 92, 90]
theorem frame_head (body : List Nat) : sl (frame body) none (some 4) = [40, 63, 115, 58] := by
  rw [show (4 : Int) = ((4 : Nat) : Int) from rfl, sl_upto]
  simp [frame]
theorem frame_tail (body : List Nat) : sl (frame body) (some (-3)) none = [41, 92, 90] := by
  rw [show (-3 : Int) = -((3 : Nat) : Int) from rfl, sl_last3 _ _ (by decide)]
  unfold frame
  rw [List.length_append, List.length_append, show ([40, 63, 115, 58] : List Nat).length + body.length + ([41, 92, 90] : List Nat).length - 3 = ([40, 63, 115, 58] ++ body).length by simp; lia, List.drop_left]
theorem frame_body (body : List Nat) : sl (frame body) (some 4) (some (-3)) = body := by
  rw [show (-3 : Int) = -((3 : Nat) : Int) from rfl, show (4 : Int) = ((4 : Nat) : Int) from rfl, sl_inner _ _ _ (by decide) (by simp [frame])]
  unfold frame
  rw [List.append_assoc, show List.drop 4 (([40, 63, 115, 58] : List Nat) ++ (body ++ [41, 92, 90])) = body ++ [41, 92, 90] from rfl]
  have e : List.length (([40, 63, 115, 58] : List Nat) ++ (body ++ [41, 92, 90])) - 3 - 4 = body.length := by simp
  rw [e, List.take_left]
section
variable {prog : Program} {w : World} {C : Cx} {lv : Nat} {R : CPost} {T : Str → List PV → Option PV} {μ : Mu} {ρ : Rho} {a b c : MExpr}
theorem ev_ite_of {t : Bool} {v : PV} (h1 : ev T μ c ρ = some (.bool t)) (h2 : ev T μ (if t then a else b) ρ = some v) : ev T μ (.ite c a b) ρ = some v := by
  show (match ev T μ c ρ with
    | some x => match truth x with
      | some true => ev T μ a ρ
      | some false => ev T μ b ρ
      | none => none
    | none => none) = _
  rw [h1]
  cases t with
  | true => exact h2
  | false => exact h2
theorem ev_repl_of {o : MExpr} {x y z : List Nat} (h : ev T μ o ρ = some (.str x)) : ev T μ (.repl o y z) ρ = T "str.replace" [.str x, .str y, .str z] := by
  show (match ev T μ o ρ with
    | some p => match p with
      | .str x => T "str.replace" [.str x, .str y, .str z]
      | _ => none
    | none => none) = _
  rw [h]

/-- what the text takes -/
theorem takes_sat (hC : CxOk C) (hT : TOk prog w C lv T) {fits : List Nat → List Nat → Nat → Bool} {name body K K' : List Nat} {P : List (List Nat)} (hb : body.length < 2 ^ 19) (hn : name.length < 2 ^ 20) (hs : scan body.length body [98] [[]] = (K, P)) (hl : P.length = K.length) (hpc : ∀ pc ∈ P, pc.length < 2 ^ 20)
    (hr : T "str.replace" [.str K, .str [104, 98], .str []] = some (.str K')) (hK' : K' = [98] ∨ K' = [98, 108])
    (hf : ∀ pc ∈ P, ∀ p : Nat, p ≤ name.length → T "_law_fits" [.str pc, .str name, .int p] = some (.bool (fits pc name p))) (hfit : ∀ pc p, fits pc name p = true → p + pc.length ≤ name.length) :
    SatM prog w C lv nTakes bTakes (upd (upd (fun _ => none) "text" (.str (frame body))) "name" (.str name)) (fun _ => none) (Ret (.bool (takesP fits name (K.zip P)))) := by
  refine sat_cons (sat_assign (T := T) (.str [98]) hC hT (.inl rfl) ?_ ?_)
  · refine ev_ite_of (t := true) ?_ rfl
    refine ev_and_of (p := true) (q := true) ?_ fun _ => ?_
    · show some (PV.bool (sl (frame body) none (some 4) == [40, 63, 115, 58])) = _
      rw [frame_head]; rfl
    · show some (PV.bool (sl (frame body) (some (-3)) none == [41, 92, 90])) = _
      rw [frame_tail]; rfl
  refine sat_cons (sat_assign (T := T) (.str body) hC hT (.inl rfl) ?_ ?_)
  · show some (PV.str (sl (frame body) (some 4) (some (-3)))) = _
    rw [frame_body]
  refine sat_cons (sat_own (T := T) [.str []] hC hT (.inr rfl) rfl (by decide) fun u hu => ?_)
  refine sat_cons (sat_assign (T := T) (.int 0) hC hT (.inr rfl) rfl ?_)
  refine sat_env (eCut name body [98] u 0) ⟨rfl, rfl, rfl, rfl, rfl, trivial⟩ ?_
  refine cut_loop nTakes_ok (fin := (K, P)) hC hT (by lia) (P := [[]]) ⟨0, [98], [[]], _, by simp [muSet], by decide, Nat.zero_le _, rfl, body.length, by lia, hs, by decide, by decide, by decide⟩ fun μ hμ hKl => ?_
  have hnot : ev T μ (.cmp .NotIn (.repl (.var "kinds") [104, 98] []) (.tup [(.const (.str [98])), (.const (.str [98, 108]))])) (envOf (eCut name body K u body.length)) = some (.bool false) := by
    rw [ev_cmp_of (x := .str K') (y := .tup [.str [98], .str [98, 108]]) ((ev_repl_of rfl).trans hr) rfl]
    rcases hK' with rfl | rfl <;> rfl
  refine sat_cons (sat_if (T := T) (x := .bool false) false hC hT hnot rfl (sat_nil ?_))
  refine sat_cons (sat_assign (T := T) (.int 0) hC hT (.inr rfl) rfl ?_)
  refine sat_env (eFor name K u 0) ⟨rfl, rfl, rfl, rfl, trivial⟩ ?_
  refine turn_takes hC hT hl hn hpc (Nat.lt_of_le_of_lt hKl (by show body.length + 1 < 2 ^ 20; lia)) hf hfit hμ (fun a μ ha hw => ?_) fun ρ μ hw => ?_
  · refine sat_cons (sat_ret (T := T) (.bool ((a : Int) == (name.length : Int))) hC hT rfl ⟨_, rfl, ?_⟩)
    show PV.bool ((a : Int) == (name.length : Int)) = _
    unfold takesP
    rw [hw]
    congr 1
    rw [Bool.eq_iff_iff]; simp; lia
  · refine ⟨_, rfl, ?_⟩
    show PV.bool false = _
    unfold takesP
    rw [hw]
end
end Mine
end

section
open PySem PySem.W PyProof.Rows PySem.SeqAt
set_option linter.unusedVariables false
set_option maxRecDepth 10000
namespace Mine
section
variable {T : Str → List PV → Option PV} {μ : Mu} {ρ : Rho} {x : PV}
/-- a comprehension of two clauses without tests -/
theorem ev_map2 {v v2 : Str} {it it2 elt : MExpr} {fr : List Str} {items : List PV} (f2 : PV → List PV) (f : PV → PV → PV) (h1 : ev T μ it ρ = some x) (h2 : iter μ x = some items)
    (h3 : ∀ q ∈ items, ∃ y, ev T μ it2 (upd (restr fr ρ) v q) = some y ∧ iter μ y = some (f2 q) ∧ ∀ q2 ∈ f2 q, ev T μ elt (upd (upd (restr fr ρ) v q) v2 q2) = some (f q q2)) (hl : (items.flatMap fun q => (f2 q).map (f q)).length ≤ SZ) (hi : items.length ≤ SZ) :
    ev T μ (.comp2 elt (.one v) it [] (.one v2) it2 [] fr) ρ = some (.lst (items.flatMap fun q => (f2 q).map (f q))) := by
  have run : ∀ (g : PV → Option (List PV)), (∀ q ∈ items, g q = some ((f2 q).map (f q))) → (match compRun g items with
      | some ys => if ys.length ≤ SZ ∧ items.length ≤ SZ then some (PV.lst ys) else none
      | none => none) = some (.lst (items.flatMap fun q => (f2 q).map (f q))) := by
    intro g hg
    rw [compRun_of hg]
    exact if_pos ⟨hl, hi⟩
  show (match ev T μ it ρ with
    | some x => match iter μ x with
      | some items => match compRun (fun p => match ev T μ it2 (upd (restr fr ρ) v p) with
          | some x2 => match iter μ x2 with
            | some items2 => compRun (fun p2 => (ev T μ elt (upd (upd (restr fr ρ) v p) v2 p2)).map fun y => [y]) items2
            | none => none
          | none => none) items with
        | some ys => if ys.length ≤ SZ ∧ items.length ≤ SZ then some (PV.lst ys) else none
        | none => none
      | none => none
    | none => none) = _
  rw [h1]
  show (match iter μ x with
      | some items => match compRun (fun p => match ev T μ it2 (upd (restr fr ρ) v p) with
          | some x2 => match iter μ x2 with
            | some items2 => compRun (fun p2 => (ev T μ elt (upd (upd (restr fr ρ) v p) v2 p2)).map fun y => [y]) items2
            | none => none
          | none => none) items with
        | some ys => if ys.length ≤ SZ ∧ items.length ≤ SZ then some (PV.lst ys) else none
        | none => none
      | none => none) = _
  rw [h2]
  refine run _ fun q hq => ?_
  obtain ⟨y, e1, e2, e3⟩ := h3 q hq
  show (match ev T μ it2 (upd (restr fr ρ) v q) with
          | some x2 => match iter μ x2 with
            | some items2 => compRun (fun p2 => (ev T μ elt (upd (upd (restr fr ρ) v q) v2 p2)).map fun y => [y]) items2
            | none => none
          | none => none) = _
  rw [e1]
  show (match iter μ y with
            | some items2 => compRun (fun p2 => (ev T μ elt (upd (upd (restr fr ρ) v q) v2 p2)).map fun y => [y]) items2
            | none => none) = _
  rw [e2]
  show compRun _ (f2 q) = _
  rw [compRun_of (F := fun p2 => [f q p2]) fun q2 hq2 => by rw [e3 q2 hq2]; rfl]
  congr 1
  generalize f2 q = l
  induction l with
  | nil => rfl
  | cons a l ih => rw [List.flatMap_cons, ih]; rfl
theorem ev_not_of {a : MExpr} {b : Bool} (h : ev T μ a ρ = some (.bool b)) : ev T μ (.not a) ρ = some (.bool !b) := by
  show (match ev T μ a ρ with
    | some x => (truth x).map fun b => PV.bool !b
    | none => none) = _
  rw [h]; rfl
theorem muSet_same {a : Addr} {xs : List PV} : muSet μ a xs a = some xs := if_pos rfl
theorem muSet_other {a b : Addr} {xs : List PV} (h : b ≠ a) : muSet μ a xs b = μ b := if_neg h
theorem ev_own_idx {v : Str} {e : MExpr} {u : Addr} {xs : List PV} {k : Int} (hp : ρ v = some (.own u)) (hμ : μ u = some xs) (he : ev T μ e ρ = some (.int k)) : ev T μ (.idx (.var v) e) ρ = getI xs k := (ev_idx_of (a := .var v) hp he).trans (idx_own hμ)
end
end Mine
end

section
set_option linter.unusedVariables false
namespace Mine
/-- a row of signs at a place of the name -/
noncomputable def fit (name : List Nat) : List Nat → Nat → Bool
  | [], _ => true
  | c :: r, p => decide (p < name.length) && (c == 46 || c == name.getD p 0) && fit name r (p + 1)
noncomputable def fitsN (pc name : List Nat) (p : Nat) : Bool := decide (p + pc.length ≤ name.length) && fit name pc p
noncomputable def signOk (c : Nat) : Prop := c = 97 ∨ c = 98 ∨ c = 46
noncomputable def okParts (ps : List (Option (List Nat))) : Prop := ∀ x, some x ∈ ps → ∀ c ∈ x, signOk c
theorem fit_len {name : List Nat} : ∀ (seg : List Nat) (p : Nat), fit name seg p = true → seg ≠ [] → p + seg.length ≤ name.length
  | [], p, _, h => absurd rfl h
  | [c], p, h, _ => by simp [fit] at h; simp; lia
  | c :: d :: r, p, h, _ => by
    rw [fit] at h
    simp only [Bool.and_eq_true] at h
    have := fit_len (d :: r) (p + 1) h.2 (by simp)
    simp at this ⊢; lia
theorem fit_append {name : List Nat} : ∀ (x y : List Nat) (p : Nat), fit name (x ++ y) p = (fit name x p && fit name y (p + x.length))
  | [], y, p => by simp [fit]
  | c :: r, y, p => by
    rw [List.cons_append, fit, fit, fit_append r y (p + 1), List.length_cons, show p + 1 + r.length = p + (r.length + 1) by lia]
    simp only [Bool.and_assoc]
/-- the parts can take the name from p to q -/
noncomputable def Reach (name : List Nat) : List (Option (List Nat)) → Nat → Nat → Prop
  | [], p, q => p = q
  | none :: r, p, q => ∃ p', p ≤ p' ∧ p' ≤ name.length ∧ Reach name r p' q
  | some x :: r, p, q => fit name x p = true ∧ Reach name r (p + x.length) q
theorem reach_seg {name : List Nat} : ∀ (ps : List (Option (List Nat))) (p q : Nat), Reach name ps p q ↔ fit name (txts ps).flatten p = true ∧ Reach name (behind ps) (p + (txts ps).flatten.length) q
  | [], p, q => by simp [txts, behind, fit]
  | none :: r, p, q => by simp [txts, behind, fit]
  | some x :: r, p, q => by
    rw [Reach, reach_seg r, txts, behind, List.flatten_cons, fit_append, Bool.and_eq_true, List.length_append, and_assoc, Nat.add_assoc]
theorem reach_down {name : List Nat} {r : List (Option (List Nat))} {p p' q : Nat} (h : p' ≤ p) (hr : Reach name (none :: r) p q) : Reach name (none :: r) p' q := by
  obtain ⟨a, h1, h2, h3⟩ := hr
  exact ⟨a, by lia, h2, h3⟩
theorem txts_mem : ∀ (ps : List (Option (List Nat))) (x : List Nat), x ∈ txts ps → some x ∈ ps
  | some y :: r, x, h => by
    simp only [txts, List.mem_cons] at h
    rcases h with rfl | h
    · simp
    · exact List.mem_cons_of_mem _ (txts_mem r x h)
  | [], x, h => by simp [txts] at h
  | none :: r, x, h => by simp [txts] at h
theorem okParts_flat {ps : List (Option (List Nat))} (h : okParts ps) : ∀ c ∈ (txts ps).flatten, signOk c := by
  intro c hc
  obtain ⟨x, hx, hc⟩ := List.mem_flatten.mp hc
  exact h x (txts_mem ps x hx) c hc
theorem behind_mem : ∀ (ps : List (Option (List Nat))) (x : Option (List Nat)), x ∈ behind ps → x ∈ ps
  | some y :: r, x, h => List.mem_cons_of_mem _ (behind_mem r x (by simpa [behind] using h))
  | [], x, h => by simp [behind] at h
  | none :: r, x, h => by simpa [behind] using h
theorem okParts_behind {ps : List (Option (List Nat))} (h : okParts ps) : okParts (behind ps) := fun x hx => h x (behind_mem ps _ hx)
theorem flat_ne {x : List Nat} {r : List (Option (List Nat))} (hx : x ≠ []) : (txts (some x :: r)).flatten ≠ [] := by
  simp [txts, hx]

/-- the pieces from the first star on, each with its kind -/
noncomputable def tailQ : Nat → List (Option (List Nat)) → List (Nat × List Nat)
  | 0, _ => []
  | _ + 1, [] => []
  | _ + 1, some _ :: _ => []
  | _ + 1, [none] => [(108, [])]
  | _ + 1, none :: none :: _ => []
  | k + 1, none :: some x :: r =>
    if behind (some x :: r) = [] then [(108, (txts (some x :: r)).flatten)]
    else (104, (txts (some x :: r)).flatten) :: (98, []) :: tailQ k (behind (some x :: r))

theorem rng_head {f : Nat → Bool} : ∀ (m a p : Nat) (rest : List Nat), (List.range' a m).filter f = p :: rest → a ≤ p ∧ p < a + m ∧ f p = true ∧ ∀ q, a ≤ q → q < p → f q = false
  | 0, a, p, rest, h => by cases h
  | m + 1, a, p, rest, h => by
    rw [List.range'_succ, List.filter_cons] at h
    cases hf : f a with
    | true =>
      rw [hf, if_pos rfl] at h
      injection h with h1 h2
      subst h1
      exact ⟨Nat.le_refl _, by lia, hf, fun q h3 h4 => by lia⟩
    | false =>
      rw [hf, if_neg Bool.false_ne_true] at h
      obtain ⟨h1, h2, h3, h4⟩ := rng_head m (a + 1) p rest h
      refine ⟨by lia, by lia, h3, fun q h5 h6 => ?_⟩
      by_cases e : q = a
      · rw [e]; exact hf
      · exact h4 q (by lia) h6
theorem rng_nil {f : Nat → Bool} {m a : Nat} (h : (List.range' a m).filter f = []) : ∀ q, a ≤ q → q < a + m → f q = false := by
  intro q h1 h2
  have : q ∈ List.range' a m := by rw [List.mem_range'_1]; exact ⟨h1, h2⟩
  have := List.filter_eq_nil_iff.mp h q this
  simpa using this
theorem fitsN_of {pc name : List Nat} {p : Nat} (hp : p ≤ name.length) : fitsN pc name p = fit name pc p := by
  unfold fitsN
  cases hf : fit name pc p with
  | false => rw [Bool.and_false]
  | true =>
    by_cases h : pc = []
    · subst h; simp [hp]
    · rw [decide_eq_true (fit_len pc p hf h)]; rfl

theorem walk_reach {name : List Nat} : ∀ (k : Nat) (ps : List (Option (List Nat))) (tl : List (List Nat)) (p : Nat), tailOf k ps = some tl → (∀ x, some x ∈ ps → x ≠ []) → p ≤ name.length → (walkP fitsN name (tailQ k ps) p = some name.length ↔ Reach name ps p name.length)
  | 0, ps, tl, p, h, _, _ => by simp [tailOf] at h
  | k + 1, [], tl, p, h, _, hp => by simp [tailQ, walkP, Reach]
  | k + 1, some _ :: _, tl, p, h, _, _ => by simp [tailOf] at h
  | k + 1, none :: none :: _, tl, p, h, _, _ => by simp [tailOf] at h
  | k + 1, [none], tl, p, h, _, hp => by
    have e : walkP fitsN name (tailQ (k + 1) [none]) p = some name.length := by
      rw [tailQ, walkP]
      have : spotsOf fitsN name 108 [] p = [name.length] := by
        unfold spotsOf
        simp [fitsN, fit, hp]
      rw [this]; rfl
    rw [e]
    exact ⟨fun _ => ⟨name.length, hp, Nat.le_refl _, rfl⟩, fun _ => rfl⟩
  | k + 1, none :: some x :: r, tl, p, h, hne, hp => by
    have hne2 : ∀ z, some z ∈ some x :: r → z ≠ [] := fun z hz => hne z (List.mem_cons_of_mem _ hz)
    have hsn := flat_ne (r := r) (hne2 x (by simp))
    rw [tailOf] at h
    rw [tailQ, Reach]
    simp only [reach_seg (some x :: r)]
    split at h
    · rename_i hb
      rw [if_pos hb, hb]
      generalize (txts (some x :: r)).flatten = seg at hsn ⊢
      rw [walkP]
      constructor
      · intro hw
        cases hs : spotsOf fitsN name 108 seg p with
        | nil => rw [hs] at hw; cases hw
        | cons q more =>
          have hm : q ∈ spotsOf fitsN name 108 seg p := by rw [hs]; exact List.mem_cons_self
          unfold spotsOf at hm
          rw [if_pos rfl] at hm
          obtain ⟨h1, h2⟩ := List.mem_filter.mp hm
          obtain ⟨h2, h3⟩ := Bool.and_eq_true_iff.mp h2
          have h2 := of_decide_eq_true h2
          split at h1
          · have := List.mem_singleton.mp h1
            subst this
            unfold fitsN at h3
            exact ⟨_, h2, by lia, (Bool.and_eq_true_iff.mp h3).2, by rw [Reach]; lia⟩
          · cases h1
      · rintro ⟨a, h1, h2, h3, h4⟩
        rw [Reach] at h4
        have ha : a = name.length - seg.length := by lia
        have hs : spotsOf fitsN name 108 seg p = [a] := by
          unfold spotsOf
          rw [if_pos rfl, if_pos (by lia), ← ha, List.filter_cons, if_pos (by rw [fitsN_of h2, h3, decide_eq_true h1]; rfl)]; rfl
        rw [hs]
        show some (a + seg.length) = _
        rw [h4]
    · rename_i hb
      rw [if_neg hb]
      simp only [Option.map_eq_some_iff] at h
      obtain ⟨t, ht, rfl⟩ := h
      have hnb : ∀ z, some z ∈ behind (some x :: r) → z ≠ [] := fun z hz => hne2 z (behind_mem _ _ hz)
      have ih := fun p hp => walk_reach (name := name) k (behind (some x :: r)) t p ht hnb hp
      obtain ⟨b, hbe⟩ : ∃ b, behind (some x :: r) = none :: b := by
        cases hbb : behind (some x :: r) with
        | nil => exact absurd hbb hb
        | cons c b => rw [behind_head _ _ _ hbb]; exact ⟨b, rfl⟩
      generalize (txts (some x :: r)).flatten = seg at hsn ⊢
      rw [walkP]
      have hspots : spotsOf fitsN name 104 seg p = (List.range' p (name.length + 1 - p)).filter fun q => decide (p ≤ q) && fitsN seg name q := rfl
      have hgo : ∀ a, a ≤ name.length → walkP fitsN name ((98, []) :: tailQ k (behind (some x :: r))) a = walkP fitsN name (tailQ k (behind (some x :: r))) a := by
        intro a ha
        rw [walkP]
        have : spotsOf fitsN name 98 [] a = [a] := by
          unfold spotsOf
          simp [fitsN, fit, ha]
        rw [this]; rfl
      cases hs : spotsOf fitsN name 104 seg p with
      | nil =>
        rw [hspots] at hs
        refine ⟨fun h => (by cases h), ?_⟩
        rintro ⟨a, h1, h2, h3, h4⟩
        have := rng_nil hs a h1 (by lia)
        rw [fitsN_of h2, h3, decide_eq_true h1] at this
        cases this
      | cons a more =>
        rw [hspots] at hs
        obtain ⟨h1, h2, h3, h4⟩ := rng_head _ _ _ _ hs
        obtain ⟨_, h3⟩ := Bool.and_eq_true_iff.mp h3
        have hal : a ≤ name.length := by lia
        rw [fitsN_of hal] at h3
        have h5 := fit_len seg a h3 hsn
        show walkP fitsN name ((98, []) :: tailQ k (behind (some x :: r))) (a + seg.length) = _ ↔ _
        rw [hgo _ h5, ih _ h5]
        constructor
        · intro h6; exact ⟨a, h1, hal, h3, h6⟩
        · rintro ⟨b', h6, h7, h8, h9⟩
          have hle : a ≤ b' := by
            rcases Nat.lt_or_ge b' a with hh | hh
            · have := h4 b' h6 hh
              rw [fitsN_of h7, h8, decide_eq_true h6] at this
              cases this
            · exact hh
          rw [hbe] at h9 ⊢
          exact reach_down (by lia) h9
end Mine
end

section
set_option linter.unusedVariables false
namespace Mine
theorem scan_sign {c : Nat} {r K : List Nat} {Q : List (List Nat)} {l : List Nat} {n : Nat} (hc : signOk c) (hr : r.head? ≠ some 42) : scan (n + 1) (c :: r) K (Q ++ [l]) = scan n r K (Q ++ [l ++ [c]]) := by
  have e : scan (n + 1) (c :: r) K (Q ++ [l]) = if (c :: r).take 6 = [40, 63, 62, 46, 42, 63] then scan n ((c :: r).drop 6) (K ++ [104]) (Q ++ [l] ++ [[]])
      else if (c :: r).take 2 = [46, 42] then scan n ((c :: r).drop 2) (K ++ [108]) (Q ++ [l] ++ [[]])
      else if c = 41 then scan n r (K ++ [98]) (Q ++ [l] ++ [[]])
      else scan n r K ((Q ++ [l]).dropLast ++ [(Q ++ [l]).getLastD [] ++ [c]]) := rfl
  have h1 : ¬ (c :: r).take 6 = [40, 63, 62, 46, 42, 63] := by
    intro h
    have := (List.cons.inj h).1
    rcases hc with h | h | h <;> lia
  have h2 : ¬ (c :: r).take 2 = [46, 42] := by
    intro h
    have h := (List.cons.inj h).2
    cases r with
    | nil => cases h
    | cons d r => exact hr (congrArg some (List.cons.inj h).1)
  have h3 : ¬ c = 41 := by rcases hc with h | h | h <;> lia
  rw [e, if_neg h1, if_neg h2, if_neg h3, List.dropLast_concat]
  simp
theorem scan_signs {y K : List Nat} {Q : List (List Nat)} (hy : y.head? ≠ some 42) : ∀ (seg l : List Nat) (n : Nat), (∀ c ∈ seg, signOk c) → scan (n + seg.length) (seg ++ y) K (Q ++ [l]) = scan n y K (Q ++ [l ++ seg])
  | [], l, n, _ => by simp
  | c :: r, l, n, h => by
    have hh : (r ++ y).head? ≠ some 42 := by
      cases r with
      | nil => exact hy
      | cons d r' =>
        have := h d (by simp)
        simp
        rcases this with h | h | h <;> lia
    rw [List.cons_append, List.length_cons, show n + (r.length + 1) = (n + r.length) + 1 by lia, scan_sign (h c List.mem_cons_self) hh, scan_signs hy r (l ++ [c]) n fun x hx => h x (List.mem_cons_of_mem _ hx)]
    rw [List.append_assoc]; rfl
theorem scan_run {r K : List Nat} {P : List (List Nat)} {n : Nat} : scan (n + 1) (46 :: 42 :: r) K P = scan n r (K ++ [108]) (P ++ [[]]) := rfl
theorem scan_held {r K : List Nat} {P : List (List Nat)} {n : Nat} : scan (n + 1) ([40, 63, 62, 46, 42, 63] ++ r) K P = scan n r (K ++ [104]) (P ++ [[]]) := rfl
theorem scan_close {r K : List Nat} {P : List (List Nat)} {n : Nat} : scan (n + 1) (41 :: r) K P = scan n r (K ++ [98]) (P ++ [[]]) := rfl
theorem tail_head : ∀ (k : Nat) (ps : List (Option (List Nat))) (tl : List (List Nat)), tailOf k ps = some tl → tl.flatten.head? ≠ some 42
  | 0, ps, tl, h => by simp [tailOf] at h
  | k + 1, [], tl, h => by simp [tailOf] at h; subst h; simp
  | k + 1, some _ :: _, tl, h => by simp [tailOf] at h
  | k + 1, [none], tl, h => by simp [tailOf] at h; subst h; simp
  | k + 1, none :: none :: _, tl, h => by simp [tailOf] at h
  | k + 1, none :: some x :: r, tl, h => by
    rw [tailOf] at h
    split at h
    · cases h; simp
    · simp only [Option.map_eq_some_iff] at h
      obtain ⟨t, ht, rfl⟩ := h
      simp
theorem scan_tail : ∀ (k : Nat) (ps : List (Option (List Nat))) (tl : List (List Nat)) (n : Nat) (K : List Nat) (P : List (List Nat)), tailOf k ps = some tl → okParts ps → tl.flatten.length ≤ n →
    scan n tl.flatten K P = (K ++ (tailQ k ps).map (·.1), P ++ (tailQ k ps).map (·.2))
  | 0, ps, tl, n, K, P, h, _, _ => by simp [tailOf] at h
  | k + 1, [], tl, n, K, P, h, _, _ => by
    simp [tailOf] at h; subst h
    rw [List.flatten_nil, scan_nil]; simp [tailQ]
  | k + 1, some _ :: _, tl, n, K, P, h, _, _ => by simp [tailOf] at h
  | k + 1, [none], tl, n, K, P, h, _, hn => by
    simp [tailOf] at h; subst h
    obtain ⟨n, rfl⟩ : ∃ m, n = m + 1 := ⟨n - 1, by simp at hn; lia⟩
    show scan (n + 1) (46 :: 42 :: []) K P = _
    rw [scan_run, scan_nil]; rfl
  | k + 1, none :: none :: _, tl, n, K, P, h, _, _ => by simp [tailOf] at h
  | k + 1, none :: some x :: r, tl, n, K, P, h, hok, hn => by
    have hok2 : okParts (some x :: r) := fun z hz => hok z (List.mem_cons_of_mem _ hz)
    have hfl := okParts_flat hok2
    rw [tailOf] at h
    rw [tailQ]
    split at h
    · rename_i hb
      cases h
      rw [if_pos hb]
      generalize (txts (some x :: r)).flatten = seg at hfl hn ⊢
      have e : [[46, 42], seg].flatten = 46 :: 42 :: (seg ++ []) := by simp
      rw [e]
      obtain ⟨n, rfl⟩ : ∃ m, n = m + seg.length + 1 := ⟨n - seg.length - 1, by simp at hn; lia⟩
      rw [scan_run, scan_signs (by simp) seg [] n hfl, scan_nil]; rfl
    · rename_i hb
      simp only [Option.map_eq_some_iff] at h
      obtain ⟨t, ht, rfl⟩ := h
      rw [if_neg hb]
      have hth := tail_head _ _ _ ht
      have ih := fun n K P hn => scan_tail k (behind (some x :: r)) t n K P ht (okParts_behind hok2) hn
      generalize (txts (some x :: r)).flatten = seg at hfl hn ⊢
      have e : (([40, 63, 62, 46, 42, 63] ++ seg ++ [41]) :: t).flatten = [40, 63, 62, 46, 42, 63] ++ (seg ++ (41 :: t.flatten)) := by simp
      rw [e] at hn ⊢
      generalize t.flatten = tf at ih hn ⊢
      obtain ⟨n, rfl⟩ : ∃ m, n = (m + 1) + seg.length + 1 := ⟨n - seg.length - 2, by simp at hn; lia⟩
      rw [scan_held, scan_signs (by simp) seg [] (n + 1) hfl, scan_close, ih n _ _ (by simp at hn; lia)]
      simp
/-- the kinds, the held ones taken out -/
theorem kinds_left : ∀ (k : Nat) (ps : List (Option (List Nat))) (tl : List (List Nat)) (n : Nat), tailOf k ps = some tl → (tailQ k ps).length < n → repl [104, 98] [] n ((tailQ k ps).map (·.1)) = [] ∨ repl [104, 98] [] n ((tailQ k ps).map (·.1)) = [108]
  | 0, ps, tl, n, h, _ => by simp [tailOf] at h
  | k + 1, [], tl, n, h, hn => by
    left
    cases n with
    | zero => simp at hn
    | succ n => rfl
  | k + 1, some _ :: _, tl, n, h, _ => by simp [tailOf] at h
  | k + 1, [none], tl, n, h, hn => by
    right
    obtain ⟨n, rfl⟩ : ∃ m, n = m + 2 := ⟨n - 2, by simp [tailQ] at hn; lia⟩
    rfl
  | k + 1, none :: none :: _, tl, n, h, _ => by simp [tailOf] at h
  | k + 1, none :: some x :: r, tl, n, h, hn => by
    rw [tailOf] at h
    rw [tailQ] at hn ⊢
    split at h
    · rename_i hb
      rw [if_pos hb] at hn ⊢
      right
      obtain ⟨n, rfl⟩ : ∃ m, n = m + 2 := ⟨n - 2, by simp at hn; lia⟩
      rfl
    · rename_i hb
      rw [if_neg hb] at hn ⊢
      simp only [Option.map_eq_some_iff] at h
      obtain ⟨t, ht, rfl⟩ := h
      obtain ⟨n, rfl⟩ : ∃ m, n = m + 1 := ⟨n - 1, by simp at hn; lia⟩
      exact kinds_left k (behind (some x :: r)) t n ht (by simp at hn; lia)
end Mine
end

section
set_option linter.unusedVariables false
namespace Mine
/-- no two stars side by side -/
noncomputable def noSS : List (Option (List Nat)) → Prop
  | [] => True
  | [_] => True
  | a :: b :: r => ¬ (a = none ∧ b = none) ∧ noSS (b :: r)
theorem noSS_tail {a : Option (List Nat)} {r : List (Option (List Nat))} (h : noSS (a :: r)) : noSS r := by
  cases r with
  | nil => trivial
  | cons b r => exact h.2
theorem noSS_behind : ∀ {ps : List (Option (List Nat))}, noSS ps → noSS (behind ps)
  | [], h => h
  | none :: r, h => h
  | some x :: r, h => noSS_behind (ps := r) (noSS_tail h)
theorem tail_some : ∀ (k : Nat) (ps : List (Option (List Nat))), ps.length < k → noSS ps → (∀ x r, ps = x :: r → x = none) → ∃ tl, tailOf k ps = some tl ∧ tl.flatten.length ≤ wt ps
  | 0, ps, h, _, _ => by lia
  | k + 1, [], h, _, _ => ⟨[], rfl, Nat.zero_le _⟩
  | k + 1, some x :: r, h, _, h3 => by have := h3 _ _ rfl; cases this
  | k + 1, [none], h, _, _ => ⟨_, rfl, by simp [wt]⟩
  | k + 1, none :: none :: r, h, h2, _ => absurd ⟨rfl, rfl⟩ h2.1
  | k + 1, none :: some x :: r, h, h2, _ => by
    rw [tailOf]
    have hl := behind_len (some x :: r)
    have hw := wt_split (some x :: r)
    have hf := wo_flat (txts (some x :: r))
    have h4 : noSS (behind (some x :: r)) := noSS_behind h2.2
    have h5 : ∀ y q, behind (some x :: r) = y :: q → y = none := fun y q => behind_head _ _ _
    have h6 : wt (none :: some x :: r) = 10 + wt (some x :: r) := rfl
    generalize behind (some x :: r) = bb at hl hw h4 h5 ⊢
    generalize txts (some x :: r) = tt at hw hf ⊢
    by_cases hb : bb = []
    · rw [if_pos hb]
      refine ⟨_, rfl, ?_⟩
      simp only [List.flatten_cons, List.flatten_nil, List.append_nil, List.length_append, List.length_cons, List.length_nil]
      lia
    · rw [if_neg hb]
      obtain ⟨t, ht, hle⟩ := tail_some k bb (by simp at h hl; lia) h4 h5
      rw [ht]
      refine ⟨_, rfl, ?_⟩
      simp only [List.flatten_cons, List.length_append, List.length_cons, List.length_nil]
      lia

theorem zip_fst_snd {α β : Type} : ∀ q : List (α × β), (q.map (·.1)).zip (q.map (·.2)) = q
  | [] => rfl
  | (a, b) :: r => by rw [List.map_cons, List.map_cons, List.zip_cons_cons, zip_fst_snd r]
theorem tailQ_short : ∀ (k : Nat) (ps : List (Option (List Nat))) (q : Nat × List Nat), q ∈ tailQ k ps → q.2.length ≤ wt ps
  | 0, ps, q, h => by cases h
  | k + 1, [], q, h => by cases h
  | k + 1, some _ :: _, q, h => by cases h
  | k + 1, [none], q, h => by rw [tailQ, List.mem_singleton] at h; subst h; exact Nat.zero_le _
  | k + 1, none :: none :: _, q, h => by cases h
  | k + 1, none :: some x :: r, q, h => by
    have hw := wt_split (some x :: r)
    have hf := wo_flat (txts (some x :: r))
    have h6 : wt (none :: some x :: r) = 10 + wt (some x :: r) := rfl
    rw [tailQ] at h
    split at h
    · rw [List.mem_singleton] at h; subst h; show (txts (some x :: r)).flatten.length ≤ _; lia
    · rcases List.mem_cons.mp h with rfl | h
      · show (txts (some x :: r)).flatten.length ≤ _; lia
      · rcases List.mem_cons.mp h with rfl | h
        · exact Nat.zero_le _
        · have := tailQ_short k _ q h; lia

theorem txts_char {ps : List (Option (List Nat))} {c : Nat} (h : c ∈ (txts ps).flatten) : ∃ x, some x ∈ ps ∧ c ∈ x := by
  obtain ⟨x, hx, hc⟩ := List.mem_flatten.mp h
  exact ⟨x, txts_mem ps x hx, hc⟩
theorem tailQ_char : ∀ (k : Nat) (ps : List (Option (List Nat))) (q : Nat × List Nat), q ∈ tailQ k ps → ∀ c ∈ q.2, ∃ x, some x ∈ ps ∧ c ∈ x
  | 0, ps, q, h => by cases h
  | k + 1, [], q, h => by cases h
  | k + 1, some _ :: _, q, h => by cases h
  | k + 1, [none], q, h => by rw [tailQ, List.mem_singleton] at h; subst h; intro c hc; cases hc
  | k + 1, none :: none :: _, q, h => by cases h
  | k + 1, none :: some x :: r, q, h => by
    have up : ∀ c, (∃ y, some y ∈ some x :: r ∧ c ∈ y) → ∃ y, some y ∈ none :: some x :: r ∧ c ∈ y := fun c ⟨y, h1, h2⟩ => ⟨y, List.mem_cons_of_mem _ h1, h2⟩
    rw [tailQ] at h
    split at h
    · rw [List.mem_singleton] at h; subst h; intro c hc; exact up c (txts_char hc)
    · rcases List.mem_cons.mp h with rfl | h
      · intro c hc; exact up c (txts_char hc)
      · rcases List.mem_cons.mp h with rfl | h
        · intro c hc; cases hc
        · intro c hc
          obtain ⟨y, h1, h2⟩ := tailQ_char k _ q h c hc
          exact up c ⟨y, behind_mem _ _ h1, h2⟩
/-- all that is told of a row's text -/
inductive Told (ps : List (Option (List Nat))) : Prop
  | mk (body K : List Nat) (P : List (List Nat)) (ht : joinTxt ps = some (frame body)) (hb : body.length ≤ wt ps) (hs : scan body.length body [98] [[]] = (K, P)) (hl : P.length = K.length) (hp : ∀ pc ∈ P, pc.length ≤ wt ps ∧ ∀ c ∈ pc, ∃ x, some x ∈ ps ∧ c ∈ x) (hK : K.length ≤ body.length + 1)
    (hr : repl [104, 98] [] (K.length + 1) K = [98] ∨ repl [104, 98] [] (K.length + 1) K = [98, 108]) (hz : K.zip P = (98, (txts ps).flatten) :: tailQ (ps.length + 1) (behind ps))

theorem scan_len : ∀ (n : Nat) (rest K : List Nat) (P : List (List Nat)), (scan n rest K P).1.length ≤ K.length + rest.length
  | 0, rest, K, P => Nat.le_add_right _ _
  | n + 1, [], K, P => Nat.le_refl _
  | n + 1, c :: r, K, P => by
    have e : scan (n + 1) (c :: r) K P = if (c :: r).take 6 = [40, 63, 62, 46, 42, 63] then scan n ((c :: r).drop 6) (K ++ [104]) (P ++ [[]])
      else if (c :: r).take 2 = [46, 42] then scan n ((c :: r).drop 2) (K ++ [108]) (P ++ [[]])
      else if c = 41 then scan n r (K ++ [98]) (P ++ [[]])
      else scan n r K (P.dropLast ++ [P.getLastD [] ++ [c]]) := rfl
    rw [e]
    have hd : ∀ m, 0 < m → ((c :: r).drop m).length ≤ r.length := fun m hm => by simp; lia
    split
    · have := scan_len n ((c :: r).drop 6) (K ++ [104]) (P ++ [[]])
      have := hd 6 (by decide)
      simp only [List.length_append, List.length_cons, List.length_nil] at *; lia
    · split
      · have := scan_len n ((c :: r).drop 2) (K ++ [108]) (P ++ [[]])
        have := hd 2 (by decide)
        simp only [List.length_append, List.length_cons, List.length_nil] at *; lia
      · split
        · have := scan_len n r (K ++ [98]) (P ++ [[]])
          simp only [List.length_append, List.length_cons, List.length_nil] at *; lia
        · have := scan_len n r K (P.dropLast ++ [P.getLastD [] ++ [c]])
          simp only [List.length_cons] at *; lia

theorem told {ps : List (Option (List Nat))} (h1 : noSS ps) (hok : okParts ps) : Told ps := by
  obtain ⟨tl, ht, hl⟩ := tail_some (ps.length + 1) (behind ps) (by have := behind_len ps; lia) (noSS_behind h1) (fun x r => behind_head _ _ _)
  have hw := wt_split ps
  have hf := wo_flat (txts ps)
  have hfl := okParts_flat hok
  have hsc : scan (tl.flatten.length + (txts ps).flatten.length) ((txts ps).flatten ++ tl.flatten) [98] ([] ++ [[]]) = (98 :: (tailQ (ps.length + 1) (behind ps)).map (·.1), (txts ps).flatten :: (tailQ (ps.length + 1) (behind ps)).map (·.2)) := by
    rw [scan_signs (tail_head _ _ _ ht) _ [] _ hfl, scan_tail _ _ tl _ _ _ ht (okParts_behind hok) (Nat.le_refl _)]; rfl
  have hsc : scan ((txts ps).flatten ++ tl.flatten).length ((txts ps).flatten ++ tl.flatten) [98] [[]] = (98 :: (tailQ (ps.length + 1) (behind ps)).map (·.1), (txts ps).flatten :: (tailQ (ps.length + 1) (behind ps)).map (·.2)) := by
    rw [List.length_append, Nat.add_comm]; exact hsc
  have hz : (98 :: (tailQ (ps.length + 1) (behind ps)).map (·.1)).zip ((txts ps).flatten :: (tailQ (ps.length + 1) (behind ps)).map (·.2)) = (98, (txts ps).flatten) :: tailQ (ps.length + 1) (behind ps) := by
    rw [List.zip_cons_cons, zip_fst_snd]
  refine ⟨(txts ps).flatten ++ tl.flatten, _, _, ?_, by rw [List.length_append]; lia, hsc, by simp, ?_, ?_, ?_, hz⟩
  · unfold joinTxt
    rw [ht]
    show some ([40, 63, 115, 58] ++ (txts ps ++ tl).flatten ++ [41, 92, 90]) = _
    rw [List.flatten_append]; rfl
  · intro pc hpc
    rcases List.mem_cons.mp hpc with rfl | hpc
    · exact ⟨by lia, fun c hc => txts_char hc⟩
    · obtain ⟨q, hq, rfl⟩ := List.mem_map.mp hpc
      have := tailQ_short _ _ q hq
      exact ⟨by lia, fun c hc => let ⟨x, h1, h2⟩ := tailQ_char _ _ q hq c hc; ⟨x, behind_mem _ _ h1, h2⟩⟩
  · have := scan_len ((txts ps).flatten ++ tl.flatten).length ((txts ps).flatten ++ tl.flatten) [98] [[]]
    rw [hsc] at this
    simpa [Nat.add_comm] using this
  · have e : ∀ n, repl [104, 98] [] (n + 1) (98 :: (tailQ (ps.length + 1) (behind ps)).map (·.1)) = 98 :: repl [104, 98] [] n ((tailQ (ps.length + 1) (behind ps)).map (·.1)) := fun _ => rfl
    rw [e]
    rcases kinds_left _ _ tl ((98 :: (tailQ (ps.length + 1) (behind ps)).map (·.1)).length) ht (by simp) with h | h
    · left; rw [h]
    · right; rw [h]
theorem told_takes {ps : List (Option (List Nat))} (h1 : noSS ps) (hne : ∀ x, some x ∈ ps → x ≠ []) (name : List Nat) : takesP fitsN name ((98, (txts ps).flatten) :: tailQ (ps.length + 1) (behind ps)) = true ↔ Reach name ps 0 name.length := by
  obtain ⟨tl, ht, hl⟩ := tail_some (ps.length + 1) (behind ps) (by have := behind_len ps; lia) (noSS_behind h1) (fun x r => behind_head _ _ _)
  · rw [reach_seg]
    have hsp : spotsOf fitsN name 98 (txts ps).flatten 0 = if fitsN (txts ps).flatten name 0 = true then [0] else [] := by
      unfold spotsOf
      rw [if_neg (by decide), if_neg (by decide), List.filter_cons, decide_eq_true (Nat.le_refl 0), Bool.true_and]; rfl
    have hfn := fitsN_of (pc := (txts ps).flatten) (name := name) (p := 0) (Nat.zero_le _)
    have ew : takesP fitsN name ((98, (txts ps).flatten) :: tailQ (ps.length + 1) (behind ps)) = true ↔ walkP fitsN name ((98, (txts ps).flatten) :: tailQ (ps.length + 1) (behind ps)) 0 = some name.length := by
      unfold takesP
      cases walkP fitsN name ((98, (txts ps).flatten) :: tailQ (ps.length + 1) (behind ps)) 0 with
      | none => simp
      | some a => simp
    rw [ew, walkP, hsp, hfn]
    cases hf0 : fit name (txts ps).flatten 0 with
    | false => simp
    | true =>
      have hle : (txts ps).flatten.length ≤ name.length := by
        rw [hf0] at hfn
        have := of_decide_eq_true (Bool.and_eq_true_iff.mp hfn).1
        lia
      show walkP fitsN name (tailQ (ps.length + 1) (behind ps)) (0 + (txts ps).flatten.length) = _ ↔ _
      rw [Nat.zero_add, walk_reach _ _ tl _ ht (fun x hx => hne x (behind_mem _ _ hx)) hle]
      simp
end Mine
end

section
open PySem PySem.W PyProof.Rows PySem.SeqAt
set_option linter.unusedVariables false
set_option maxRecDepth 10000
namespace Mine
noncomputable def nFits : Names := [("piece", .cell), ("name", .cell), ("place", .cell), ("len", .globalImplicit), ("range", .globalImplicit)]
noncomputable def bFits : List MStmt := [
  .if_ (.cmp .Gt (.bin .Add (.var "place") (.call "len" [(.var "piece")])) (.call "len" [(.var "name")])) [
    .ret (.const (.bool false))] [],
  .ret (.cmp .Eq (.comp1 (.var "i") (.one "i") (.call "range" [(.call "len" [(.var "piece")])]) [(.and (.cmp .NotEq (.idx (.var "piece") (.var "i")) (.const (.str [46]))) (.cmp .NotEq (.idx (.var "piece") (.var "i")) (.idx (.var "name") (.bin .Add (.var "place") (.var "i")))))] ["name", "piece", "place"]) (.lst []))]
theorem fit_iff {name : List Nat} : ∀ (pc : List Nat) (p : Nat), p + pc.length ≤ name.length → (fit name pc p = true ↔ ∀ i, i < pc.length → (pc.getD i 0 == 46 || pc.getD i 0 == name.getD (p + i) 0) = true)
  | [], p, h => by simp [fit]
  | c :: r, p, h => by
    rw [List.length_cons] at h
    rw [fit, Bool.and_eq_true, Bool.and_eq_true, fit_iff r (p + 1) (by lia)]
    constructor
    · rintro ⟨⟨h1, h2⟩, h3⟩ i hi
      cases i with
      | zero => exact h2
      | succ i =>
        have := h3 i (by simpa using hi)
        rw [List.getD_cons_succ, show p + (i + 1) = p + 1 + i by lia]; exact this
    · intro h3
      refine ⟨⟨decide_eq_true (by lia), h3 0 (by simp)⟩, fun i hi => ?_⟩
      have := h3 (i + 1) (by simpa using hi)
      rw [List.getD_cons_succ, show p + (i + 1) = p + 1 + i by lia] at this; exact this
theorem eq_nil_lst {μ : Mu} {xs : List PV} : evCmp μ .Eq (.lst xs) (.lst []) = some (.bool xs.isEmpty) := by
  cases xs with
  | nil => rfl
  | cons _ _ => rfl
section
variable {prog : Program} {w : World} {C : Cx} {lv : Nat}
noncomputable def offF (name pc : List Nat) (p : Nat) : PV → Bool
  | .int i => !(pc.getD i.toNat 0 == 46) && !(pc.getD i.toNat 0 == name.getD (p + i.toNat) 0)
  | _ => false
theorem fits_sat (hC : CxOk C) {pc name : List Nat} {p : Nat} (hp : pc.length < 2 ^ 20) :
    SatM prog w C lv nFits bFits (upd (upd (upd (fun _ => none) "piece" (.str pc)) "name" (.str name)) "place" (.int p)) (fun _ => none) (Ret (.bool (fitsN pc name p))) := by
  refine sat_env [("piece", .str pc), ("name", .str name), ("place", .int p)] ⟨rfl, rfl, rfl, trivial⟩ ?_
  refine sat_cons (sat_if (T := T0) (x := .bool (decide ((name.length : Int) < (p : Int) + (pc.length : Int)))) _ hC t0ok rfl rfl ?_)
  by_cases hlt : p + pc.length ≤ name.length
  · rw [decide_eq_false (show ¬ ((name.length : Int) < (p : Int) + (pc.length : Int)) by lia)]
    refine sat_nil ?_
    have hr : ev T0 (fun _ => none) (.call "range" [(.call "len" [(.var "piece")])]) (envOf [("piece", .str pc), ("name", .str name), ("place", .int p)]) = some (.rng 0 pc.length 1) := by
      rw [ev_bi_of (xs := [.int pc.length]) rfl (by decide)]
      show (if (pc.length : Int).natAbs < 2 ^ 60 then some (PV.rng 0 (pc.length : Int).toNat 1) else none) = _
      rw [if_pos (by lia), Int.toNat_natCast]
    have hf := ev_filter (T := T0) (μ := fun _ => none) (v := "i") (cond := .and (.cmp .NotEq (.idx (.var "piece") (.var "i")) (.const (.str [46]))) (.cmp .NotEq (.idx (.var "piece") (.var "i")) (.idx (.var "name") (.bin .Add (.var "place") (.var "i"))))) (fr := ["name", "piece", "place"]) (items := intsFrom 0 pc.length 1) (offF name pc p) hr rfl (fun q hq => by
      unfold intsFrom at hq
      obtain ⟨i, hi, rfl⟩ := List.mem_map.mp hq
      have hi := List.mem_range.mp hi
      have ei : (0 : Int) + (i : Int) * 1 = (i : Int) := by lia
      rw [ei]
      have h1 : ev T0 (fun _ => none) (.idx (.var "piece") (.var "i")) (upd (restr ["name", "piece", "place"] (envOf [("piece", .str pc), ("name", .str name), ("place", .int p)])) "i" (.int i)) = some (.str [pc.getD i 0]) := by
        show ((getI pc (i : Int)).map fun c => PV.str [c]) = _
        rw [getI_at, List.getD_eq_getElem?_getD, List.getElem?_eq_getElem hi]; rfl
      have h2 : ev T0 (fun _ => none) (.idx (.var "name") (.bin .Add (.var "place") (.var "i"))) (upd (restr ["name", "piece", "place"] (envOf [("piece", .str pc), ("name", .str name), ("place", .int p)])) "i" (.int i)) = some (.str [name.getD (p + i) 0]) := by
        show ((getI name ((p : Int) + (i : Int))).map fun c => PV.str [c]) = _
        rw [show (p : Int) + (i : Int) = ((p + i : Nat) : Int) by lia, getI_at, List.getD_eq_getElem?_getD, List.getElem?_eq_getElem (by lia)]; rfl
      have e1 : ∀ a b : Nat, (([a] : List Nat) == [b]) = (a == b) := fun a b => by
        rw [Bool.eq_iff_iff]; simp
      refine ev_and_of (p := !(pc.getD i 0 == 46)) ?_ fun _ => ?_
      · rw [ev_cmp_of (y := .str [46]) h1 rfl]
        show some (PV.bool !([pc.getD i 0] == [46])) = _
        rw [e1]
      · rw [ev_cmp_of h1 h2]
        show some (PV.bool !([pc.getD i 0] == [name.getD (p + i) 0])) = _
        rw [e1, Int.toNat_natCast]) (by simp [intsFrom, SZ]; lia)
    refine sat_cons (sat_ret (T := T0) _ hC t0ok ((ev_cmp_of (y := .lst []) hf rfl).trans eq_nil_lst) ⟨_, rfl, ?_⟩)
    show PV.bool _ = _
    congr 1
    unfold fitsN
    rw [decide_eq_true hlt, Bool.true_and, Bool.eq_iff_iff, List.isEmpty_iff, List.filter_eq_nil_iff, fit_iff pc p hlt]
    constructor
    · intro h i hi
      have := h (.int i) (by unfold intsFrom; exact List.mem_map.mpr ⟨i, List.mem_range.mpr hi, by congr 1; lia⟩)
      have this : ¬ (!(pc.getD i 0 == 46) && !(pc.getD i 0 == name.getD (p + i) 0)) = true := this
      revert this
      cases (pc.getD i 0 == 46) <;> cases (pc.getD i 0 == name.getD (p + i) 0) <;> simp
    · intro h q hq
      unfold intsFrom at hq
      obtain ⟨i, hi, rfl⟩ := List.mem_map.mp hq
      have := h i (List.mem_range.mp hi)
      rw [show ((0 : Int) + (i : Int) * 1) = (i : Int) by lia]
      show ¬ (!(pc.getD i 0 == 46) && !(pc.getD i 0 == name.getD (p + i) 0)) = true
      revert this
      cases (pc.getD i 0 == 46) <;> cases (pc.getD i 0 == name.getD (p + i) 0) <;> simp
  · rw [decide_eq_true (show ((name.length : Int) < (p : Int) + (pc.length : Int)) by lia)]
    refine sat_cons (sat_ret (T := T0) (.bool false) hC t0ok rfl ⟨_, rfl, ?_⟩)
    show PV.bool false = _
    unfold fitsN
    rw [decide_eq_false hlt]; rfl
end
end Mine
end

section
open PySem PySem.W PyProof.Rows PySem.SeqAt
set_option linter.unusedVariables false
set_option maxRecDepth 10000
namespace Mine
noncomputable def decParts (s : Addr) : List PV → Option (List (Option (List Nat)))
  | [] => some []
  | .str x :: r => (decParts s r).map (some x :: ·)
  | .obj a :: r => if a = s then (decParts s r).map (none :: ·) else none
  | _ => none
theorem decParts_map (s : Addr) : ∀ xs : List (Option (List Nat)), decParts s (xs.map (encP s)) = some xs
  | [] => rfl
  | none :: r => by
    show (if s = s then (decParts s (r.map (encP s))).map (none :: ·) else none) = _
    rw [if_pos rfl, decParts_map s r]; rfl
  | some x :: r => by
    show (decParts s (r.map (encP s))).map (some x :: ·) = _
    rw [decParts_map s r]; rfl
theorem decParts_eq {s : Addr} : ∀ {ps : List PV} {xs : List (Option (List Nat))}, decParts s ps = some xs → ps = xs.map (encP s)
  | [], xs, h => by cases Option.some.inj h; rfl
  | p :: r, xs, h => by
    cases p with
    | str x =>
      obtain ⟨ys, h1, rfl⟩ := map_inv (o := decParts s r) (f := (some x :: ·)) h
      rw [decParts_eq h1]; rfl
    | obj a =>
      have h : (if a = s then (decParts s r).map (none :: ·) else none) = some xs := h
      by_cases e : a = s
      · rw [if_pos e] at h
        subst e
        obtain ⟨ys, h1, rfl⟩ := map_inv h
        rw [decParts_eq h1]; rfl
      · rw [if_neg e] at h; exact no h
    | _ => exact no h

noncomputable def asLst : PV → Option (List PV)
  | .lst ps => some ps
  | _ => none
noncomputable def asStr : PV → Option (List Nat)
  | .str x => some x
  | _ => none
noncomputable def asObj : PV → Option Addr
  | .obj s => some s
  | _ => none
theorem asLst_inv {p : PV} {ps : List PV} (h : asLst p = some ps) : p = .lst ps := by
  cases p with
  | lst q => exact congrArg PV.lst (Option.some.inj h)
  | _ => exact no h
theorem asStr_inv {p : PV} {x : List Nat} (h : asStr p = some x) : p = .str x := by
  cases p with
  | str q => exact congrArg PV.str (Option.some.inj h)
  | _ => exact no h
theorem asObj_inv {p : PV} {x : Addr} (h : asObj p = some x) : p = .obj x := by
  cases p with
  | obj q => exact congrArg PV.obj (Option.some.inj h)
  | _ => exact no h
noncomputable def with1 {α β : Type} (o : Option α) (f : α → Option β) : Option β := o.bind f
theorem with1_inv {α β : Type} {o : Option α} {f : α → Option β} {r : β} (h : with1 o f = some r) : ∃ a, o = some a ∧ f a = some r := by
  cases o with
  | none => exact no h
  | some a => exact ⟨a, rfl, h⟩
noncomputable def when {α : Type} (c : Prop) [Decidable c] (o : Option α) : Option α := if c then o else none
theorem when_inv {α : Type} {c : Prop} [Decidable c] {o : Option α} {r : α} (h : when c o = some r) : c ∧ o = some r := by
  unfold when at h
  by_cases hc : c
  · rw [if_pos hc] at h; exact ⟨hc, h⟩
  · rw [if_neg hc] at h; exact no h
theorem when_pos {α : Type} {c : Prop} [Decidable c] {o : Option α} (h : c) : when c o = o := if_pos h
noncomputable def arg3 (f : PV → PV → PV → Option PV) : List PV → Option PV
  | [p, q, r] => f p q r
  | _ => none
theorem arg3_inv {f : PV → PV → PV → Option PV} {ps : List PV} {r : PV} (h : arg3 f ps = some r) : ∃ a b c, ps = [a, b, c] ∧ f a b c = some r := by
  cases ps with
  | nil => exact no h
  | cons a ps => cases ps with
    | nil => exact no h
    | cons b ps => cases ps with
      | nil => exact no h
      | cons c ps => cases ps with
        | nil => exact ⟨a, b, c, rfl, h⟩
        | cons _ _ => exact no h

noncomputable def tJoin : List PV → Option PV := arg2 fun p q => with1 (asLst p) fun ps => with1 (asObj q) fun s => with1 (decParts s ps) fun q => when (wt q + 20 ≤ SZ) ((joinTxt q).map .str)
theorem tJoin_eq {s : Addr} {q : List (Option (List Nat))} {txt : List Nat} (h : wt q + 20 ≤ SZ) (ht : joinTxt q = some txt) : tJoin [.lst (q.map (encP s)), .obj s] = some (.str txt) := by
  show with1 (decParts s (q.map (encP s))) (fun q => when (wt q + 20 ≤ SZ) ((joinTxt q).map PV.str)) = _
  rw [decParts_map]
  show when (wt q + 20 ≤ SZ) ((joinTxt q).map PV.str) = _
  rw [when_pos h, ht]; rfl

/-- what the text inside the frame is -/
noncomputable def inside (text : List Nat) : List Nat := (text.drop 4).take (text.length - 7)
theorem inside_frame (body : List Nat) : inside (frame body) = body := by
  unfold inside frame
  rw [List.append_assoc, show List.drop 4 (([40, 63, 115, 58] : List Nat) ++ (body ++ [41, 92, 90])) = body ++ [41, 92, 90] from rfl]
  have e : List.length (([40, 63, 115, 58] : List Nat) ++ (body ++ [41, 92, 90])) - 7 = body.length := by simp
  rw [e, List.take_left]
noncomputable def tRepl : List PV → Option PV := arg3 fun a b c => with1 (asStr a) fun x => with1 (asStr b) fun y => with1 (asStr c) fun z => when (y ≠ [] ∧ y ≠ z ∧ x.length + (x.length + 1) * z.length ≤ SZ) (some (.str (repl y z (x.length + 1) x)))
noncomputable def tFits : List PV → Option PV := arg3 fun a b c => with1 (asStr a) fun pc => with1 (asStr b) fun name => int1 (fun p => when (0 ≤ p ∧ pc.length < 2 ^ 20) (some (.bool (fitsN pc name p.toNat)))) c
/-- what a text must be to be read -/
noncomputable def readable (D : List Nat → Prop) (text : List Nat) : Prop := text = frame (inside text) ∧ (inside text).length < 2 ^ 19 ∧ (scan (inside text).length (inside text) [98] [[]]).2.length = (scan (inside text).length (inside text) [98] [[]]).1.length ∧
  (∀ pc ∈ (scan (inside text).length (inside text) [98] [[]]).2, pc.length < 2 ^ 20 ∧ D pc) ∧ (scan (inside text).length (inside text) [98] [[]]).1.length ≤ 2 ^ 20 ∧
  (repl [104, 98] [] ((scan (inside text).length (inside text) [98] [[]]).1.length + 1) (scan (inside text).length (inside text) [98] [[]]).1 = [98] ∨ repl [104, 98] [] ((scan (inside text).length (inside text) [98] [[]]).1.length + 1) (scan (inside text).length (inside text) [98] [[]]).1 = [98, 108])
open Classical in
noncomputable def tTakes (D : List Nat → Prop) : List PV → Option PV := arg2 fun a b => with1 (asStr a) fun text => with1 (asStr b) fun name => when (readable D text ∧ name.length < 2 ^ 20) (some (.bool (takesP fitsN name ((scan (inside text).length (inside text) [98] [[]]).1.zip (scan (inside text).length (inside text) [98] [[]]).2))))
section
variable {prog : Program} {w : World} {C : Cx} {lv : Nat}
theorem join_ok (hC : CxOk C) (F : ∃ sc body, FnAt C "_join_translated_parts" ["inp", "STAR"] sc body ∧ sc.names = nJoin ∧ trSs nJoin body = bJoin) {args : List PV} {r : PV} (h : tJoin args = some r) : args ≠ [] ∧ FnOk prog w C (lv + 1) "_join_translated_parts" args r := by
  obtain ⟨p, q, rfl, h⟩ := arg2_inv h
  obtain ⟨ps, h1, h⟩ := with1_inv h
  obtain ⟨s, h2, h⟩ := with1_inv h
  obtain ⟨q', h3, h⟩ := with1_inv h
  obtain ⟨hw, h⟩ := when_inv h
  obtain ⟨txt, ht, rfl⟩ := Option.map_eq_some_iff.mp h
  cases asLst_inv h1; cases asObj_inv h2; cases decParts_eq h3
  obtain ⟨sc, body, fa, hn, hb⟩ := F
  refine ⟨List.cons_ne_nil _ _, .user (fn_call hC fa rfl ?_)⟩
  rw [hn, hb]
  exact join_sat hC hw ht

theorem repl_ok (htk : 0 < C.tk0) {args : List PV} {r : PV} (h : tRepl args = some r) : args ≠ [] ∧ FnOk prog w C lv "str.replace" args r := by
  obtain ⟨a, b, c, rfl, h⟩ := arg3_inv h
  obtain ⟨x, h1, h⟩ := with1_inv h
  obtain ⟨y, h2, h⟩ := with1_inv h
  obtain ⟨z, h3, h⟩ := with1_inv h
  obtain ⟨hw, h⟩ := when_inv h
  cases Option.some.inj h
  cases asStr_inv h1; cases asStr_inv h2; cases asStr_inv h3
  exact ⟨List.cons_ne_nil _ _, .repl rfl ⟨htk, x, y, z, rfl, hw.1, hw.2.1, hw.2.2, rfl⟩⟩
theorem fits_ok (hC : CxOk C) (F : ∃ sc body, FnAt C "_law_fits" ["piece", "name", "place"] sc body ∧ sc.names = nFits ∧ trSs nFits body = bFits) {args : List PV} {r : PV} (h : tFits args = some r) : args ≠ [] ∧ FnOk prog w C (lv + 1) "_law_fits" args r := by
  obtain ⟨a, b, c, rfl, h⟩ := arg3_inv h
  obtain ⟨pc, h1, h⟩ := with1_inv h
  obtain ⟨name, h2, h⟩ := with1_inv h
  obtain ⟨p, rfl, h⟩ := int1_inv h
  obtain ⟨hw, h⟩ := when_inv h
  cases Option.some.inj h
  cases asStr_inv h1; cases asStr_inv h2
  obtain ⟨sc, body, fa, hn, hb⟩ := F
  refine ⟨List.cons_ne_nil _ _, .user (fn_call hC fa rfl ?_)⟩
  rw [hn, hb]
  obtain ⟨p, rfl⟩ := Int.eq_ofNat_of_zero_le hw.1
  exact fits_sat hC hw.2
end
end Mine
end

section
open PySem PySem.W PyProof.Rows PySem.SeqAt
set_option linter.unusedVariables false
set_option maxRecDepth 10000
namespace Mine
section
variable {prog : Program} {w : World} {C : Cx} {lv : Nat}
noncomputable def Tw (fits : List PV → Option PV) (f : Str) (args : List PV) : Option PV := if f = "str.replace" then tRepl args else if f = "_law_fits" then fits args else none
theorem tw_ok (htk : 0 < C.tk0) {fits : List PV → Option PV} (hf : ∀ args r, fits args = some r → args ≠ [] ∧ FnOk prog w C lv "_law_fits" args r) : TOk prog w C lv (Tw fits) := by
  intro f args r h
  unfold Tw at h
  by_cases h1 : f = "str.replace"
  · rw [if_pos h1] at h; subst h1; exact repl_ok htk h
  rw [if_neg h1] at h
  by_cases h2 : f = "_law_fits"
  · rw [if_pos h2] at h; subst h2; exact hf args r h
  rw [if_neg h2] at h
  exact no h
theorem tw_repl {fits : List PV → Option PV} {args : List PV} : Tw fits "str.replace" args = tRepl args := if_pos rfl
theorem tw_fits {fits : List PV → Option PV} {args : List PV} : Tw fits "_law_fits" args = fits args := by
  unfold Tw; rw [if_neg (by decide), if_pos rfl]
theorem tRepl_eq {x y z : List Nat} (h : y ≠ [] ∧ y ≠ z ∧ x.length + (x.length + 1) * z.length ≤ SZ) : tRepl [.str x, .str y, .str z] = some (.str (repl y z (x.length + 1) x)) := when_pos h
theorem tFits_eq {pc name : List Nat} {p : Nat} (h : pc.length < 2 ^ 20) : tFits [.str pc, .str name, .int p] = some (.bool (fitsN pc name p)) := when_pos ⟨Int.natCast_nonneg p, h⟩
open Classical in
theorem takes_ok {D : List Nat → Prop} (hC : CxOk C) (htk : 0 < C.tk0) {fits : List PV → Option PV} (hf : ∀ args r, fits args = some r → args ≠ [] ∧ FnOk prog w C lv "_law_fits" args r) (hfe : ∀ (pc name : List Nat) (p : Nat), pc.length < 2 ^ 20 → p ≤ name.length → name.length < 2 ^ 20 → D pc → fits [.str pc, .str name, .int p] = some (.bool (fitsN pc name p)))
    (F : ∃ sc body, FnAt C "_law_takes" ["text", "name"] sc body ∧ sc.names = nTakes ∧ trSs nTakes body = bTakes) {args : List PV} {r : PV} (h : tTakes D args = some r) : args ≠ [] ∧ FnOk prog w C (lv + 1) "_law_takes" args r := by
  obtain ⟨a, b, rfl, h⟩ := arg2_inv h
  obtain ⟨text, h1, h⟩ := with1_inv h
  obtain ⟨name, h2, h⟩ := with1_inv h
  obtain ⟨⟨⟨e1, e2, e3, e4, e5, e6⟩, hn⟩, h⟩ := when_inv h
  cases Option.some.inj h
  cases asStr_inv h1; cases asStr_inv h2
  obtain ⟨sc, body, fa, hn', hb⟩ := F
  refine ⟨List.cons_ne_nil _ _, .user (fn_call hC fa rfl ?_)⟩
  rw [hn', hb]
  generalize hbody : inside text = bd at e1 e2 e3 e4 e5 e6
  subst e1
  generalize hs : scan bd.length bd [98] [[]] = KP at e3 e4 e5 e6
  obtain ⟨K, P⟩ := KP
  refine takes_sat (T := Tw fits) (K := K) (P := P) (K' := repl [104, 98] [] (K.length + 1) K) hC (tw_ok htk hf) e2 hn hs e3 (fun pc hpc => (e4 pc hpc).1) ?_ e6 ?_ ?_
  · rw [tw_repl]
    have h5 : K.length ≤ 1048576 := e5
    exact tRepl_eq ⟨by decide, by decide, by rw [List.length_nil, Nat.mul_zero]; simp only [SZ]; lia⟩
  · intro pc hpc p hp
    rw [tw_fits]
    exact hfe pc name p (e4 pc hpc).1 hp hn (e4 pc hpc).2
  · intro pc p hfp
    unfold fitsN at hfp
    exact of_decide_eq_true (Bool.and_eq_true_iff.mp hfp).1
open Classical in
/-- a told row's text is readable -/
theorem told_reads {D : List Nat → Prop} {ps : List (Option (List Nat))} (h : Told ps) (hwk : ∀ name, takesP fitsN name ((98, (txts ps).flatten) :: tailQ (ps.length + 1) (behind ps)) = true ↔ Reach name ps 0 name.length) (hw : wt ps < 2 ^ 19) (hD : ∀ pc, (∀ c ∈ pc, ∃ x, some x ∈ ps ∧ c ∈ x) → D pc) : ∃ txt, joinTxt ps = some txt ∧ txt.length ≤ wt ps + 7 ∧ readable D txt ∧ ∀ name, name.length < 2 ^ 20 → ∃ b, tTakes D [.str txt, .str name] = some (.bool b) ∧ (b = true ↔ Reach name ps 0 name.length) := by
  obtain ⟨body, K, P, ht, hb, hs, hl, hp, hK, hr, hz⟩ := h
  have hrd : readable D (frame body) := by
    unfold readable
    rw [inside_frame, hs]
    exact ⟨rfl, by lia, hl, fun pc hpc => ⟨by have := (hp pc hpc).1; lia, hD pc (hp pc hpc).2⟩, by show K.length ≤ 2 ^ 20; lia, hr⟩
  refine ⟨frame body, ht, by simp [frame]; lia, hrd, fun name hn => ⟨_, when_pos ⟨hrd, hn⟩, ?_⟩⟩
  rw [inside_frame, hs]
  show takesP fitsN name (K.zip P) = true ↔ _
  rw [hz]
  exact hwk name
end
end Mine
end

section
set_option linter.unusedVariables false
namespace Mine
/-- a row of signs, a star any run, takes a name -/
noncomputable def Mt : List Nat → List Nat → Prop
  | [], s => s = []
  | c :: p, s => if c = 42 then ∃ s1 s2, s = s1 ++ s2 ∧ Mt p s2 else ∃ s', s = c :: s' ∧ Mt p s'
noncomputable def strange (p : List Nat) : List Nat := p.map fun c => if c = 42 then 35 else c
/-- no two stars side by side -/
noncomputable def noTwo : List Nat → Prop
  | a :: b :: r => ¬ (a = 42 ∧ b = 42) ∧ noTwo (b :: r)
  | _ => True
end Mine
end

section
set_option linter.unusedVariables false
namespace Mine
noncomputable def partC (c : Nat) : Option (List Nat) := if c = 42 then none else some [c]
theorem noTwo_parts : ∀ {r : List Nat}, noTwo r → noSS (r.map partC)
  | [], _ => trivial
  | [a], _ => trivial
  | a :: b :: r, h => by
    refine ⟨?_, noTwo_parts (r := b :: r) h.2⟩
    rintro ⟨h1, h2⟩
    unfold partC at h1 h2
    refine h.1 ⟨?_, ?_⟩
    · by_cases e : a = 42
      · exact e
      · rw [if_neg e] at h1; cases h1
    · by_cases e : b = 42
      · exact e
      · rw [if_neg e] at h2; cases h2
theorem partC_mem {r x : List Nat} (h : some x ∈ r.map partC) : ∃ c ∈ r, c ≠ 42 ∧ x = [c] := by
  obtain ⟨c, hc, e⟩ := List.mem_map.mp h
  unfold partC at e
  by_cases h42 : c = 42
  · rw [if_pos h42] at e; cases e
  · rw [if_neg h42] at e; cases e; exact ⟨c, hc, h42, rfl⟩
theorem wt_parts : ∀ r : List Nat, wt (r.map partC) ≤ 10 * r.length
  | [] => Nat.le_refl _
  | c :: r => by
    have ih := wt_parts r
    rw [List.map_cons, List.length_cons]
    unfold partC at ih ⊢
    by_cases h : c = 42
    · rw [if_pos h]; show 10 + wt _ ≤ _; lia
    · rw [if_neg h]; show 1 + 1 + wt _ ≤ _; lia
/-- a row of stars and of signs a, b, dot is told -/
theorem told_row {r : List Nat} (hn : noTwo r) (hs : ∀ c ∈ r, c = 42 ∨ c = 97 ∨ c = 98 ∨ c = 46) : Told (r.map partC) := by
  refine told (noTwo_parts hn) ?_
  · intro x hx c hc
    obtain ⟨d, hd, h42, rfl⟩ := partC_mem hx
    rw [List.mem_singleton.mp hc]
    rcases hs d hd with h | h | h | h
    · exact absurd h h42
    · exact .inl h
    · exact .inr (.inl h)
    · exact .inr (.inr h)
theorem takes_row {r : List Nat} (hn : noTwo r) (name : List Nat) : takesP fitsN name ((98, (txts (r.map partC)).flatten) :: tailQ ((r.map partC).length + 1) (behind (r.map partC))) = true ↔ Reach name (r.map partC) 0 name.length :=
  told_takes (noTwo_parts hn) (fun x hx => by
    obtain ⟨d, hd, h42, rfl⟩ := partC_mem hx
    exact List.cons_ne_nil _ _) name
end Mine
end

section
open PySem PySem.W PyProof.Rows PySem.SeqAt
set_option linter.unusedVariables false
namespace Mine
/-- the accumulator's lists are new and apart -/
inductive GridY (m : Nat) (D I : Addr) (s₄ : Shared) (acc : List PV) (s' : Shared) : Prop
  | mk (rs : List Addr) (n : Nat) (hDI : D ≠ I) (hD4 : ∃ o, s₄.heap.get? D = some o) (hI4 : ∃ o, s₄.heap.get? I = some o) (live : ∀ b, b ≠ I → (∃ o, s₄.heap.get? b = some o) → ∃ o, s'.heap.get? b = some o)
    (hd : s'.heap.get? D = some (lObj (rs.map .ref) n)) (hl : rs.length = acc.length) (hn : rs.Nodup) (hr : ∀ r ∈ rs, s₄.heap.get? r = none ∧ ∃ k, s'.heap.get? r = some (lObj (List.replicate m Value.none) k))
theorem reps_nones {g : Gr} : ∀ {m : Nat} {us : List Value}, Reps g (List.replicate m PV.none) us → us = List.replicate m Value.none
  | 0, us, r => reps_nil.mp r
  | m + 1, us, r => by
    rw [List.replicate_succ] at r
    obtain ⟨v, vs, rfl, h1, h2⟩ := reps_cons.mp r
    rw [rep_none.mp h1, reps_nones h2]; rfl
theorem nones_reps {g : Gr} : ∀ {m : Nat}, Reps g (List.replicate m PV.none) (List.replicate m Value.none)
  | 0 => Reps.nil
  | m + 1 => Reps.cons (rep_none.mpr rfl) nones_reps
section
variable {prog : Program} {w : World} {A : Around} {E : Value → Shared → Prop} {s : Shared} {W M : Addr → Prop} {μ : Mu} {ρ ρ' : Rho} {cenv env : Env} {C : Cx} {lv : Nat}
theorem turn_nest {Γ' : Names} {t it elt : Expr} {D I : Addr} {c : Code} {q : PV} {m : Nat} {s₄ : Shared} (hr : Room lv A) (hΓ : cenv.scope.names = Γ') (hb : bindT ρ (trTgt t) q = some ρ') (ht : TgtOk cenv W M ρ (trTgt t))
    (hMW : ∀ b, M b → W b) (hMD : M D) (hDL : cenv.locals ≠ D) (hDc : ∀ x c, cenv.cells.lookup x = some c → c ≠ D) (hμD : μ D = none) (hM4 : ∀ b, M b → ∃ o, s₄.heap.get? b = some o) (hWI : W I)
    (helt : ∀ (A : Around) (E : Value → Shared → Prop) (W : Addr → Prop) (env : Env) (s : Shared), Room lv A → env.scope.names = Γ' → ER C W env s ρ' μ → wpAny (model prog w) A (eval elt env) (PostL W s (List.replicate m .none)) E s) :
    TurnOk prog w A C W M cenv D ρ μ ⟨t, it, [], 0⟩ (emitTree elt (.ref D) cenv c) c (GridY m D I s₄) q [.lst (List.replicate m .none)] := by
  intro s v acc E' ci hy rq hsz
  obtain ⟨er, hns, vs0, n0, hd0, hr0⟩ := ci
  obtain ⟨rs, n, hDI, hD4, hI4, live, hd, hl, hn, hrr⟩ := hy
  refine wpAny_mono (assign_sound (M := fun b => ∃ x ∈ tgtNames (trTgt t), b = slotOf cenv x) hr.hd hb er hns (fun x hx => ⟨ht.kind x hx, hMW _ (ht.w x hx), x, hx, rfl⟩) (fun b ⟨x, hx, e⟩ => e ▸ hMW _ (ht.w x hx)) rq) (fun _ s₂ h₂ => ?_) fun _ _ e => e
  obtain ⟨kb, er2, ns2⟩ := h₂
  have le := bindT_le hb ht.none
  have hf2 : ∀ a o, frz s.heap W a o → frz s₂.heap W a o := fun a o x => ⟨kb.2.1 a o (fun ⟨y, hy, e⟩ => x.2 (e ▸ hMW _ (ht.w y hy))) x.1, x.2⟩
  have d2 : s₂.heap.get? D = some (lObj (rs.map .ref) n) := kb.2.1 D _ (fun ⟨y, hy, e⟩ => slot_not_list er hns (ht.kind y hy) hd e) hd
  have r2 : ∀ r ∈ rs, s₄.heap.get? r = none ∧ ∃ k, s₂.heap.get? r = some (lObj (List.replicate m Value.none) k) := fun r hr => by
    obtain ⟨h1, k, h2⟩ := hrr r hr
    exact ⟨h1, k, kb.2.1 r _ (fun ⟨y, hy, e⟩ => by obtain ⟨o, ho⟩ := hM4 _ (ht.w y hy); rw [← e] at ho; exact clash h1 ho) h2⟩
  have live2 : ∀ b, b ≠ I → (∃ o, s₄.heap.get? b = some o) → ∃ o, s₂.heap.get? b = some o := fun b hbI hb4 => by
    by_cases hs : ∃ y ∈ tgtNames (trTgt t), b = slotOf cenv y
    · obtain ⟨y, hy, rfl⟩ := hs
      exact er2.sr.wl _ (hMW _ (ht.w y hy))
    · obtain ⟨o, ho⟩ := live b hbI hb4
      exact ⟨o, kb.2.1 b o hs ho⟩
  refine wpAny_with_toks (n := s₂.toks) (Nat.le_refl _) (wpAny_mono (sts_nil (prog := prog) (w := w) (C := C) (lv := lv) (μ := μ) (Γ := Γ') (ρ := ρ') A _ W cenv s₂ hr hΓ er2) (fun ok s₃ h₃ htk3 => ?_) fun _ _ e _ => e)
  obtain ⟨rfl, k3⟩ := h₃
  rw [if_pos rfl]
  have er3 := er2.keeps k3 htk3
  refine wpAny_bind (wpAny_bind ?_)
  refine wpAny_with_toks (n := s₃.toks) (Nat.le_refl _) (wpAny_mono (helt A _ W cenv s₃ hr hΓ er3) (fun x s₅ h₅ htk5 => ?_) fun _ _ e _ => e)
  obtain ⟨k5, a, us, k, rfl, ha, ha5, hul, hur⟩ := h₅
  cases reps_nones hur
  have K25 : Keeps s₂ s₅ := Keeps.tr k3 k5
  have er5 := er3.keeps k5 htk5
  have d5 := Keeps.k K25 _ _ d2
  obtain ⟨m2, hm2⟩ := ns2
  have hm5 := hm2.keeps (Keeps.k K25)
  have aD : a ≠ D := by rintro rfl; exact clash ha (Keeps.k k3 _ _ d2)
  have hrep := Reps.mono hf2 _ _ hr0
  have dd0 : vs0 = rs.map Value.ref := by
    have := hd0.symm.trans hd
    injection this with this
    have h1 : vs0.toArray = (rs.map Value.ref).toArray := by injection congrArg Obj.data this
    exact congrArg Array.toList h1
  subst dd0
  have hlen := hr0.length
  refine wpAny_bind (wpAny_list_append_plain (items := (rs.map Value.ref).toArray) ⟨n, d5⟩ (fun h' hp hs' => ?_) (by simp [SZ_eq] at hsz hlen ⊢; lia))
  obtain ⟨kk, hp⟩ := hp
  have hat : s₄.heap.get? a = none := by
    cases e : s₄.heap.get? a with
    | none => rfl
    | some o =>
      by_cases haI : a = I
      · subst haI
        obtain ⟨o', ho'⟩ := er3.sr.wl _ hWI
        exact clash ha ho'
      · obtain ⟨o', ho'⟩ := live2 a haI ⟨o, e⟩
        exact clash ha (Keeps.k k3 _ _ ho')
  refine wpAny_pure (wpAny_pure ⟨rfl, ?_, ?_, ?_⟩)
  · have er6 := er_change (a := D) (h' := h') (tk := s₅.toks) er5 (fun b o hb e => hs'.extBut b o hb e) (Nat.le_refl _) (hMW _ hMD) hDL hDc hμD ⟨_, hp⟩
    have hWa : ¬ W a := fun hw => by obtain ⟨o, ho⟩ := er3.sr.wl a hw; exact clash ha ho
    refine ⟨er6.weaken le, ⟨m2, hm5.sameBut hs' hDL⟩, rs.map .ref ++ [.ref a], kk, by rw [hp]; simp [lObj], ?_⟩
    have hf : ∀ b o, frz s₂.heap W b o → frz h' W b o := fun b o z => ⟨hs'.extBut b o (fun e => z.2 (e ▸ hMW _ hMD)) (Keeps.k K25 _ _ z.1), z.2⟩
    exact (Reps.mono hf _ _ hrep).append (Reps.cons (rep_lst.mpr ⟨a, _, k, rfl, ⟨hs'.extBut a _ aD ha5, hWa⟩, hul, nones_reps⟩) Reps.nil)
  · refine ⟨rs ++ [a], kk, hDI, hD4, hI4, fun b hbI hb4 => ?_, by rw [hp]; simp [lObj], by rw [List.length_append, List.length_append, hl]; rfl, ?_, fun r hr => ?_⟩
    · obtain ⟨o, ho⟩ := live2 b hbI hb4
      by_cases e : b = D
      · subst e; exact ⟨_, hp⟩
      · exact ⟨o, hs'.extBut b o e (Keeps.k K25 _ _ ho)⟩
    · refine List.nodup_append.mpr ⟨hn, List.nodup_cons.mpr ⟨List.not_mem_nil, List.nodup_nil⟩, fun x hx y hy e => ?_⟩
      rw [List.mem_singleton.mp hy] at e
      subst e
      obtain ⟨_, k', h2⟩ := r2 x hx
      exact clash ha (Keeps.k k3 _ _ h2)
    · rcases List.mem_append.mp hr with hr | hr
      · obtain ⟨h1, k', h2⟩ := r2 r hr
        have rD : r ≠ D := by
          rintro rfl
          obtain ⟨o, ho⟩ := hD4
          exact clash h1 ho
        exact ⟨h1, k', hs'.extBut r _ rD (Keeps.k K25 _ _ h2)⟩
      · rw [List.mem_singleton.mp hr]
        exact ⟨hat, k, hs'.extBut a _ aD ha5⟩
  · have kbM : KB M s s₂ := kb.mono fun b ⟨x, hx, e⟩ => e ▸ ht.w x hx
    refine kbM.tr ((KB.of_keeps K25 (Nat.le_trans htk3 htk5)).tr ⟨⟨h', _, rfl⟩, fun b o hb e => hs'.extBut b o (fun eb => hb (eb ▸ hMD)) e, Nat.le_refl _⟩)
end
end Mine
end

section
open PySem PySem.W PyProof.Rows PySem.SeqAt
set_option linter.unusedVariables false
namespace Mine
/-- what a comprehension of one clause came from -/
noncomputable def ViewK (Γ : Names) (v : Expr) : MExpr → Prop
  | .comp1 a t i fs fr => ∃ elt t' it ifs sc pos, v = .ListComp elt [⟨t', it, ifs, 0⟩] sc pos ∧ compOk sc Γ = true ∧ tgtOk sc.names (trTgt t') = true ∧ tr (relab sc.names Γ) elt = a ∧ trTgt t' = t ∧ tr Γ it = i ∧ trs (relab sc.names Γ) ifs = fs ∧ frees sc.names = fr
  | _ => True
theorem viewK_meth {Γ : Names} {v : Expr} {o : MExpr} {m : Str} {args : List Expr} {es : List MExpr} : ViewK Γ v (trMeth o m args es) := by
  rcases trMeth_cases o m args es with h | h | ⟨_, _, _, _, _, _, _, _, h⟩ <;> rw [h] <;> exact trivial
theorem viewK_bool {Γ : Names} {v : Expr} (op : PySem.BoolOp) (a b : Expr) (r : List Expr) : ViewK Γ v (trBool Γ op (a :: b :: r)) := by
  cases op <;> exact trivial
theorem viewK (Γ : Names) (v : Expr) : ViewK Γ v (tr Γ v) := by
  cases v with
  | Name x pos => exact at_ite (P := ViewK Γ (.Name x pos)) (fun _ => trivial) trivial
  | Constant c k pos =>
    cases c with
    | str s => exact at_ite (P := ViewK Γ (.Constant (.str s) k pos)) (fun _ => trivial) trivial
    | _ => exact trivial
  | UnaryOp op x pos => cases op <;> exact trivial
  | BoolOp op vs pos =>
    cases vs with
    | nil => exact trivial
    | cons a r => cases r with
      | nil => exact trivial
      | cons b r => exact viewK_bool op a b r
  | Compare l ops cs pos =>
    cases ops with
    | nil => exact trivial
    | cons o ops => cases ops with
      | cons _ _ => exact trivial
      | nil => cases cs with
        | nil => exact trivial
        | cons c cs => cases cs <;> exact trivial
  | Subscript x sl pos => cases sl <;> exact trivial
  | Call fn args kws pos =>
    cases fn with
    | Name f np =>
      cases kws with
      | nil => exact at_ite (P := ViewK Γ (.Call (.Name f np) args [] pos)) (fun _ => trivial) trivial
      | cons _ _ => exact trivial
    | Attribute o m apos =>
      cases kws with
      | cons _ _ => exact trivial
      | nil => cases o with
        | Call _ _ _ _ => exact trivial
        | _ => exact at_ite (P := ViewK Γ (.Call (.Attribute _ m apos) args [] pos)) (fun _ => viewK_meth) trivial
    | _ => exact trivial
  | FormattedValue v conv spec pos =>
    cases spec with
    | some _ => cases conv with
      | ofNat _ => exact trivial
      | negSucc k => cases k <;> exact trivial
    | none => cases conv with
      | ofNat _ => exact trivial
      | negSucc k => cases k <;> exact trivial
  | ListComp elt gens sc pos =>
    cases gens with
    | nil => exact trivial
    | cons g gens =>
      obtain ⟨t, it, ifs, as⟩ := g
      cases gens with
      | nil =>
        cases as with
        | negSucc _ => exact trivial
        | ofNat k => cases k with
          | succ _ => exact trivial
          | zero =>
            refine at_ite (P := ViewK Γ (.ListComp elt [⟨t, it, ifs, 0⟩] sc pos)) (fun h => ?_) trivial
            obtain ⟨h1, h2⟩ := Bool.and_eq_true_iff.mp h
            exact ⟨elt, t, it, ifs, sc, pos, rfl, h1, h2, rfl, rfl, rfl, rfl, rfl⟩
      | cons g2 gens =>
        obtain ⟨t2, it2, ifs2, as2⟩ := g2
        cases gens with
        | cons _ _ => cases as with
          | negSucc _ => exact trivial
          | ofNat k => cases k with
            | succ _ => exact trivial
            | zero => cases as2 with
              | negSucc _ => exact trivial
              | ofNat k2 => cases k2 <;> exact trivial
        | nil =>
          cases as with
          | negSucc _ => exact trivial
          | ofNat k => cases k with
            | succ _ => exact trivial
            | zero => cases as2 with
              | negSucc _ => exact trivial
              | ofNat k2 => cases k2 with
                | succ _ => exact trivial
                | zero => exact at_ite (P := ViewK Γ (.ListComp elt [⟨t, it, ifs, 0⟩, ⟨t2, it2, ifs2, 0⟩] sc pos)) (fun _ => trivial) trivial
  | _ => exact trivial
theorem inv_comp1 {Γ : Names} {v : Expr} {a i : MExpr} {t : MTgt} {fs : List MExpr} {fr : List Str} (h : tr Γ v = .comp1 a t i fs fr) : ∃ elt t' it ifs sc pos, v = .ListComp elt [⟨t', it, ifs, 0⟩] sc pos ∧ compOk sc Γ = true ∧ tgtOk sc.names (trTgt t') = true ∧ tr (relab sc.names Γ) elt = a ∧ trTgt t' = t ∧ tr Γ it = i ∧ trs (relab sc.names Γ) ifs = fs ∧ frees sc.names = fr := by
  have := viewK Γ v
  rw [h] at this; exact this
section
variable {prog : Program} {w : World} {A : Around} {E : Value → Shared → Prop} {s : Shared} {W : Addr → Prop} {μ : Mu} {ρ ρ' : Rho} {env : Env} {C : Cx} {lv : Nat} {T : Str → List PV → Option PV}
theorem run_nones {α β : Type} {R : α → List β → Prop} {y : β} : ∀ {l : List α}, (∀ q ∈ l, R q [y]) → Run R l (List.replicate l.length y)
  | [], _ => .nil
  | q :: r, h => by
    rw [List.length_cons, List.replicate_succ]
    exact .cons (a := [y]) (h q List.mem_cons_self) (run_nones fun x hx => h x (List.mem_cons_of_mem _ hx))
/-- the grid, up to what is done with it -/
theorem grid_comp {elt t it : Expr} {x : Str} {sc : Scope} {pos fpos : Pos} {Γ : Names} {a : MExpr} {x0 : PV} {items : List PV} {m : Nat} {use : Option (Value → Sem Unit)} {Q : Value → Shared → Prop} (hC : CxOk C) (hT : TOk prog w C lv T)
    (hok : compOk sc Γ = true) (htg : tgtOk sc.names (trTgt t) = true) (ht : trTgt t = .one x) (hi0 : ev T μ (tr Γ it) ρ = some x0) (hi : iter μ x0 = some items) (hsz : items.length ≤ SZ)
    (helt : tr (relab sc.names Γ) elt = a) (hcomp : ∃ b y j fs fr, a = .comp1 b y j fs fr) (ha : ∀ q ∈ items, ev T μ a (upd (restr (frees sc.names) ρ) x q) = some (.lst (List.replicate m .none)))
    (hr : Room lv A) (hΓ : env.scope.names = Γ) (er : ER C W env s ρ μ)
    (hfin : ∀ (s' : Shared) (L D : Addr) (mm : Str → Option Value) (rs : List Addr) (n : Nat), Keeps s s' → s.toks ≤ s'.toks → s.heap.get? L = none → s.heap.get? D = none → L ≠ D → s'.heap.Ns L mm → s'.heap.get? D = some (lObj (rs.map .ref) n) → rs.length = items.length → rs.Nodup →
      (∀ r ∈ rs, s.heap.get? r = none ∧ r ≠ L ∧ r ≠ D ∧ ∃ k, s'.heap.get? r = some (lObj (List.replicate m Value.none) k)) → compPost (model prog w) A E use Q (.ref D) L (.ok .next) s') :
    wpAny (model prog w) A (comprehension (.ListComp elt [⟨t, it, [], 0⟩] sc pos) sc env fpos (newList []) (firstAsync [⟨t, it, [], 0⟩]) (firstIter [⟨t, it, [], 0⟩] env) use) Q E s := by
  refine comp_core (g := ⟨t, it, [], 0⟩) (gs := []) (ys := List.replicate items.length (.lst (List.replicate m .none))) (Y := GridY m) (STEP := fun I D env => emitTree elt D env (.compLoop (.ListComp elt [⟨t, it, [], 0⟩] sc pos) 0 I D env)) hr hΓ (compOk_ok hok) rfl (fold_of_tr hi0 env) (fun I D env => turn_one elt t it [] sc pos I D env) (ev_sound hC hT hi0) hi (by rw [List.length_replicate]; exact hsz) ?_ ?_ ?_ er ?_
  · intro D I s₄ hd hDI hI4
    exact ⟨[], 0, hDI, ⟨_, hd⟩, hI4, fun b _ h => h, hd, rfl, List.nodup_nil, fun r hr => (nomatch hr)⟩
  · rintro D I s₄ acc s' h' tk _ hk ⟨rs, n, hDI, hD4, hI4, live, hd, hl, hn, hrr⟩
    refine ⟨rs, n, hDI, hD4, hI4, fun b hb h4 => let ⟨o, ho⟩ := live b hb h4; ⟨o, hk b o hb ho⟩, hk D _ hDI hd, hl, hn, fun r hr => ?_⟩
    obtain ⟨h1, k, h2⟩ := hrr r hr
    exact ⟨h1, k, hk r _ (by rintro rfl; obtain ⟨o, ho⟩ := hI4; exact clash h1 ho) h2⟩
  · intro W4 M cenv D I s₄ ce hM4 hWI
    refine run_nones fun q hq => ?_
    have hb : bindT (restr (frees sc.names) ρ) (trTgt t) q = some (upd (restr (frees sc.names) ρ) x q) := by rw [ht]; rfl
    refine turn_nest (Γ' := relab sc.names Γ) hr ce.names hb (ce.tgt htg) ce.sub ce.d ce.locD ce.celD (ce.nomu _ ce.d) hM4 hWI ?_
    intro A E W env s hr hΓ er
    obtain ⟨b, y, j, fs, fr, hb⟩ := hcomp
    have hev := ha q hq
    rw [← helt] at hev
    obtain ⟨elt2, t2, it2, ifs2, sc2, pos2, rfl, _⟩ := inv_comp1 (helt.trans hb)
    obtain ⟨ys, e1, _, hcs⟩ := comp_sound hC hT hev
    injection e1 with e1
    rw [e1]
    exact hcs.eval hr hΓ er
  · rintro s' L D mm vs n h1 h2 h3 h4 h5 h6 h7 h8 h9 ⟨I, s₄, k4, hL4, rs, n', hDI, hD4, hI4, live, hd, hl, hn, hrr⟩
    refine hfin s' L D mm rs n' h1 h2 h3 h4 h5 h6 hd (by rw [hl, List.length_replicate]) hn fun r hr => ?_
    obtain ⟨g1, g2⟩ := hrr r hr
    refine ⟨?_, ?_, ?_, g2⟩
    · cases e : s.heap.get? r with
      | none => rfl
      | some o => exact clash g1 (Keeps.k k4 _ _ e)
    · rintro rfl; obtain ⟨o, ho⟩ := hL4; exact clash g1 ho
    · rintro rfl; obtain ⟨o, ho⟩ := hD4; exact clash g1 ho
end
end Mine
end

section
open PySem PySem.W PyProof.Rows PySem.SeqAt
set_option linter.unusedVariables false
namespace Mine
open Classical in
/-- the outer list and the inner ones, all owned -/
noncomputable def muGrid (μ : Mu) (D : Addr) (rs : List Addr) (m : Nat) : Mu := fun b => if b = D then some (rs.map .own) else if b ∈ rs then some (List.replicate m .none) else μ b
open Classical in
theorem muGrid_D {μ : Mu} {D : Addr} {rs : List Addr} {m : Nat} : muGrid μ D rs m D = some (rs.map .own) := if_pos rfl
open Classical in
theorem muGrid_r {μ : Mu} {D r : Addr} {rs : List Addr} {m : Nat} (h : r ∈ rs) (hD : r ≠ D) : muGrid μ D rs m r = some (List.replicate m .none) := (if_neg hD).trans (if_pos h)
open Classical in
theorem muGrid_o {μ : Mu} {D b : Addr} {rs : List Addr} {m : Nat} (hD : b ≠ D) (h : b ∉ rs) : muGrid μ D rs m b = μ b := (if_neg hD).trans (if_neg h)
section
variable {prog : Program} {w : World} {C : Cx} {lv : Nat} {Γ : Names} {A : Around} {E : Value → Shared → Prop} {V : Addr → Prop} {env : Env} {G : Gr} {s₀ s s₁ s' : Shared} {ρ ρ' : Rho} {μ μ' : Mu} {R R' : CPost} {T : Str → List PV → Option PV} {W W' : Addr → Prop}
theorem own_reps {g : Gr} : ∀ rs : List Addr, Reps g (rs.map .own) (rs.map .ref)
  | [] => Reps.nil
  | r :: rs => Reps.cons (rep_own.mpr rfl) (own_reps rs)
/-- the grid's cases -/
theorem grid_cases {D : Addr} {rs : List Addr} {m : Nat} {b : Addr} {xs : List PV} (h : muGrid μ D rs m b = some xs) : (b = D ∧ xs = rs.map .own) ∨ (b ∈ rs ∧ b ≠ D ∧ xs = List.replicate m .none) ∨ (b ≠ D ∧ b ∉ rs ∧ μ b = some xs) := by
  by_cases e1 : b = D
  · subst e1; rw [muGrid_D] at h; exact .inl ⟨rfl, (Option.some.inj h).symm⟩
  · by_cases e2 : b ∈ rs
    · rw [muGrid_r e2 e1] at h; exact .inr (.inl ⟨e2, e1, (Option.some.inj h).symm⟩)
    · rw [muGrid_o e1 e2] at h; exact .inr (.inr ⟨e1, e2, h⟩)
theorem er_grid {D : Addr} {rs : List Addr} {m n : Nat} (er : ER C W env s ρ μ) (k : Keeps s s') (ht : s.toks ≤ s'.toks) (hW : ∀ a, W' a → W a ∨ (s.heap.get? a = none ∧ ∃ o, s'.heap.get? a = some o)) (hl : rs.length ≤ SZ) (hm : m ≤ SZ)
    (hd : s'.heap.get? D = some (lObj (rs.map .ref) n)) (hr : ∀ r ∈ rs, ∃ k, s'.heap.get? r = some (lObj (List.replicate m Value.none) k)) : ER C W' env s' ρ (muGrid μ D rs m) := by
  have ex := er.extend k ht hW
  refine { ex with sr := ⟨ex.sr.wl, fun b xs hb => ?_⟩ }
  rcases grid_cases hb with ⟨rfl, rfl⟩ | ⟨h1, _, rfl⟩ | ⟨_, _, h⟩
  · exact ⟨_, n, hd, by rw [List.length_map]; exact hl, own_reps rs⟩
  · obtain ⟨k, hk⟩ := hr b h1
    exact ⟨_, k, hk, by rw [List.length_replicate]; exact hm, nones_reps⟩
  · exact ex.sr.ls b xs h
theorem sat_grid {x y : Str} {a i : MExpr} {fr : List Str} {x0 : PV} {items : List PV} {m : Nat} (hC : CxOk C) (hT : TOk prog w C lv T) (hx : ownOf Γ x) (hi0 : ev T μ i ρ = some x0) (hi : iter μ x0 = some items) (hsz : items.length ≤ SZ) (hm : m ≤ SZ)
    (hcomp : ∃ b y j fs fr, a = .comp1 b y j fs fr) (ha : ∀ q ∈ items, ev T μ a (upd (restr fr ρ) y q) = some (.lst (List.replicate m .none)))
    (hR : ∀ D rs, μ D = none → rs.length = items.length → rs.Nodup → (∀ r ∈ rs, μ r = none ∧ r ≠ D) → R .next (upd ρ x (.own D)) (muGrid μ D rs m)) : Sat1 prog w C lv Γ (.assign x (.comp1 a (.one y) i [] fr)) ρ μ R := by
  intro st hst A E V env G s₀ s hr hΓ fr0
  obtain ⟨px, v, pos, rfl, hv⟩ := inv_assign hst
  obtain ⟨elt, t, it, ifs, sc, q, rfl, hok, htg, helt, ht, rfl, hifs, rfl⟩ := inv_comp1 hv
  have hifs : ifs = [] := by
    cases ifs with
    | nil => rfl
    | cons _ _ => cases hifs
  subst hifs
  have hsw : ∃ b, swapsWith (.ListComp elt [⟨t, it, [], 0⟩] sc q) (some (.Name x px)) pos.line env = pure b := ⟨_, rfl⟩
  obtain ⟨b, hb⟩ := hsw
  obtain ⟨hk, hw⟩ := slot_W fr0 hΓ hx
  -- what both ways share
  have fresh : ∀ b, s.heap.get? b = none → μ b = none := fun b hb => fresh_mu fr0 hb
  have live : ∀ b, (Wof env μ b ∨ V b) → s.heap.get? b ≠ none := fun b hb e => by obtain ⟨o, ho⟩ := fr0.er.sr.wl b hb; exact clash e ho
  have isW : ∀ (D : Addr) (rs : List Addr) b, (Wof env (muGrid μ D rs m) b ∨ V b) → (Wof env μ b ∨ V b) ∨ b = D ∨ b ∈ rs := fun D rs b hb => by
    rcases hb with (rfl | hb | hb) | hb
    · exact .inl (.inl (.inl rfl))
    · exact .inl (.inl (.inr (.inl hb)))
    · by_cases e1 : b = D
      · exact .inr (.inl e1)
      · by_cases e2 : b ∈ rs
        · exact .inr (.inr e2)
        · rw [muGrid_o e1 e2] at hb; exact .inl (.inl (.inr (.inr hb)))
    · exact .inl (.inr hb)
  have isM : ∀ (D : Addr) (rs : List Addr), s.heap.get? D = none → (∀ r ∈ rs, s.heap.get? r = none) → ∀ b, (muGrid μ D rs m b).isSome = true → (μ b).isSome = true ∨ s.heap.get? b = none := fun D rs hD hrs b hb => by
    by_cases e1 : b = D
    · subst e1; exact .inr hD
    · by_cases e2 : b ∈ rs
      · exact .inr (hrs b e2)
      · rw [muGrid_o e1 e2] at hb; exact .inl hb
  cases b with
  | false =>
    rw [PySem.exec_Assign_Name (hs := hb)]
    refine wpAny_bind (wpAny_standAt (wpAny_bind ?_))
    rw [eval_ListComp]
    refine grid_comp hC hT hok htg ht hi0 hi hsz helt hcomp ha hr hΓ fr0.er fun s' L D mm rs n K htk hL hD hLD hns hd hl hn hrr => ?_
    refine ⟨mm, hns, fun h' hs' => ?_⟩
    have hKL : ∀ b o, s.heap.get? b = some o → h'.get? b = some o := fun b o e => hs'.extBut b o (by rintro rfl; exact clash hL e) (Keeps.k K b o e)
    have K' : Keeps s { s' with heap := h' } := by
      obtain ⟨h1, t1, rfl, k1⟩ := K
      exact ⟨h', t1, rfl, hKL⟩
    have hd' : h'.get? D = some (lObj (rs.map .ref) n) := hs'.extBut _ _ (Ne.symm hLD) hd
    have hr' : ∀ r ∈ rs, ∃ k, h'.get? r = some (lObj (List.replicate m Value.none) k) := fun r hr => by
      obtain ⟨_, h2, _, k, h4⟩ := hrr r hr
      exact ⟨k, hs'.extBut _ _ h2 h4⟩
    have er1 : ER C (fun a => Wof env (muGrid μ D rs m) a ∨ V a) env { s' with heap := h' } ρ (muGrid μ D rs m) := er_grid fr0.er K' htk (fun b hb => by
      rcases isW D rs b hb with h | rfl | h
      · exact .inl h
      · exact .inr ⟨hD, _, hd'⟩
      · exact .inr ⟨(hrr b h).1, let ⟨k, e⟩ := hr' b h; ⟨_, e⟩⟩) (by rw [hl]; exact hsz) hm hd' hr'
    obtain ⟨m0, hm0⟩ := fr0.ns
    have fr1 : FR C env V G s₀ { s' with heap := h' } ρ (muGrid μ D rs m) := fr0.step (M := fun _ => False) (KB.of_keeps K' htk) (fun _ h => h.elim) er1 ⟨m0, hm0.keeps (Keeps.k K')⟩ (isM D rs hD fun r hr => (hrr r hr).1)
    refine wpAny_bind (wpAny_standAt (wpAny_bind (wpAny_bindName ?_)))
    exact wpAny_mono (fr_store fr1 hΓ hx (rep_own.mpr rfl)) (fun _ s'' h'' => wpAny_pure ⟨.next, _, _, hR D rs (fresh D hD) hl hn fun r hr => ⟨fresh r (hrr r hr).1, (hrr r hr).2.2.1⟩, rfl, h''⟩) fun _ _ e => e
  | true =>
    rw [PySem.exec_Assign_Name_used (hs := hb)]
    refine wpAny_bind (wpAny_standAt (wpAny_bind ?_))
    show wpAny _ A (comprehension (.ListComp elt [⟨t, it, [], 0⟩] sc q) sc env (firstIterPos [⟨t, it, [], 0⟩] q) (newList []) (firstAsync [⟨t, it, [], 0⟩]) (firstIter [⟨t, it, [], 0⟩] env) (some (assign (.Name x px) env)) >>= fun _ => pure ()) _ _ s
    refine wpAny_bind (grid_comp hC hT hok htg ht hi0 hi hsz helt hcomp ha hr hΓ fr0.er fun s' L D mm rs n K htk hL hD hLD hns hd hl hn hrr => ?_)
    have hLo : ∃ o, s'.heap.get? L = some o := by obtain ⟨o, _, _, ho, _⟩ := hns; exact ⟨o, ho⟩
    have hr' : ∀ r ∈ rs, ∃ k, s'.heap.get? r = some (lObj (List.replicate m Value.none) k) := fun r hr => (hrr r hr).2.2.2
    have er1 : ER C (fun a => (Wof env (muGrid μ D rs m) a ∨ V a) ∨ a = L) env s' ρ (muGrid μ D rs m) := er_grid fr0.er K htk (fun b hb => by
      rcases hb with hb | rfl
      · rcases isW D rs b hb with h | rfl | h
        · exact .inl h
        · exact .inr ⟨hD, _, hd⟩
        · exact .inr ⟨(hrr b h).1, let ⟨k, e⟩ := hr' b h; ⟨_, e⟩⟩
      · exact .inr ⟨hL, hLo⟩) (by rw [hl]; exact hsz) hm hd hr'
    obtain ⟨m0, hm0⟩ := fr0.ns
    have ns' : ∃ m, s'.heap.Ns env.locals m := ⟨m0, hm0.keeps (Keeps.k K)⟩
    have hw' : Wof env (muGrid μ D rs m) (slotOf env x) := by
      rcases hw with h | h | h
      · exact .inl h
      · exact .inr (.inl h)
      · have e1 : slotOf env x ≠ D := fun e => live _ (.inl (.inr (.inr h))) (e ▸ hD)
        have e2 : slotOf env x ∉ rs := fun e => live _ (.inl (.inr (.inr h))) (hrr _ e).1
        exact .inr (.inr (by rw [muGrid_o e1 e2]; exact h))
    show wpAny _ A (assign (.Name x px) env (.ref D)) _ _ _
    refine wpAny_assign_Name (wpAny_mono (store_KB (M := fun a => a = slotOf env x) er1 ns' hk (.inl (.inl hw')) rfl (rep_own.mpr rfl)) (fun _ s'' h'' => ?_) fun _ _ e => e)
    obtain ⟨kb, er2, ns2⟩ := h''
    have hLs : L ≠ slotOf env x := fun e => live _ (.inl hw) (e ▸ hL)
    have hLl : env.locals ≠ L := fun e => live _ (.inl (.inl rfl)) (e ▸ hL)
    have hLc : ∀ y c, env.cells.lookup y = some c → c ≠ L := by
      rintro y c hc rfl
      exact live c (.inl (.inr (.inl ⟨y, hc⟩))) hL
    have hLμ : muGrid μ D rs m L = none := by
      rw [muGrid_o hLD fun h => (hrr L h).2.1 rfl]; exact fresh L hL
    refine ⟨mm, hns.at' fun o e => kb.2.1 _ o hLs e, fun h' hs' => wpAny_pure (wpAny_pure ⟨.next, _, _, hR D rs (fresh D hD) hl hn fun r hr => ⟨fresh r (hrr r hr).1, (hrr r hr).2.2.1⟩, rfl, ?_⟩)⟩
    have er3 := er_drop (W' := fun a => Wof env (muGrid μ D rs m) a ∨ V a) (a := L) (h' := h') (tk := s''.toks) er2 (fun b o hb e => hs'.extBut b o hb e) (Nat.le_refl _) (.inr rfl) hLl hLc hLμ (fun a ha => ⟨.inl ha, fun e => by
      subst e
      rcases isW D rs a ha with h | h | h
      · exact live a h hL
      · exact hLD h
      · exact (hrr a h).2.1 rfl⟩)
    have kb2 : KB (fun a => a = slotOf env x ∨ a = L) s' { s'' with heap := h' } := by
      obtain ⟨⟨h1, t1, rfl⟩, k1, l1⟩ := kb
      exact ⟨⟨h', t1, rfl⟩, fun b o hb e => hs'.extBut b o (fun e => hb (.inr e)) (k1 b o (fun e => hb (.inl e)) e), l1⟩
    have kb3 : KB (fun a => a = slotOf env x) s { s'' with heap := h' } := by
      obtain ⟨⟨h1, t1, e1⟩, k1, l1⟩ := kb2
      refine ⟨?_, fun b o hb e => k1 b o (fun hh => hh.elim hb fun e' => by rw [e', hL] at e; cases e) (Keeps.k K b o e), Nat.le_trans htk l1⟩
      obtain ⟨h2, t2, rfl, _⟩ := K
      exact ⟨h1, t1, e1⟩
    obtain ⟨m2, hm2⟩ := ns2
    exact fr0.step kb3 (fun a ha => ha ▸ hw) er3 ⟨m2, hm2.at' fun o e => hs'.extBut _ o hLl e⟩ (isM D rs hD fun r hr => (hrr r hr).1)
end
end Mine
end

section
set_option linter.unusedVariables false
namespace Mine
/-- the shortest text that two rows share, an open sign kept as a dot: as the law's table tells it -/
noncomputable def lessW (x : List Nat) : Option (List Nat) → Bool
  | none => true
  | some y => decide (x.length < y.length)
noncomputable def pickW (acc : Option (List Nat)) : Option (List Nat) → Option (List Nat)
  | none => acc
  | some x => if lessW x acc = true then some x else acc
noncomputable def bareW (c d : Nat) : List Nat := [c, d].filter fun s => s != 42 && s != 46
noncomputable def putW : Option Nat → Option Nat → Option (List Nat) → List (Option (List Nat))
  | some c, some d, some w => if (bareW c d).length < 2 ∨ c = d then [some ((bareW c d ++ [46]).headD 0 :: w)] else []
  | _, _, _ => []
noncomputable def restW (l r : Option Nat) (down right diag : Option (List Nat)) : Option (List Nat) := if l = some 42 then right else if r = some 42 then down else diag
noncomputable def waysW (l r : Option Nat) (down right diag : Option (List Nat)) : List (Option (List Nat)) :=
  (if l = none ∧ r = none then [some []] else []) ++ ((if l = some 42 then [down] else []) ++ ((if r = some 42 then [right] else []) ++ (if l = some 42 ∧ r = some 42 then [] else putW l r (restW l r down right diag))))
noncomputable def stepW (l r : Option Nat) (down right diag : Option (List Nat)) : Option (List Nat) := (waysW l r down right diag).foldl pickW none
noncomputable def sh0 : List Nat → Option (List Nat)
  | [] => stepW none none none none none
  | d :: t => stepW none (some d) none (sh0 t) none
noncomputable def shR (c : Nat) (prev : List Nat → Option (List Nat)) : List Nat → Option (List Nat)
  | [] => stepW (some c) none (prev []) none none
  | d :: t => stepW (some c) (some d) (prev (d :: t)) (shR c prev t) (prev t)
noncomputable def sh : List Nat → List Nat → Option (List Nat)
  | [] => sh0
  | c :: o => shR c (sh o)
theorem putW_l {r : Option Nat} {x : Option (List Nat)} : putW none r x = [] := rfl
theorem putW_r {l : Option Nat} {x : Option (List Nat)} : putW l none x = [] := by cases l <;> rfl
theorem step_l {r : Option Nat} {a b c a' c' : Option (List Nat)} : stepW none r a b c = stepW none r a' b c' := by
  unfold stepW waysW
  rw [if_neg (show ¬ (none : Option Nat) = some 42 from nofun), if_neg (show ¬ (none : Option Nat) = some 42 from nofun), putW_l, putW_l]
theorem step_r {l : Option Nat} {a b c b' c' : Option (List Nat)} : stepW l none a b c = stepW l none a b' c' := by
  unfold stepW waysW
  rw [if_neg (show ¬ (none : Option Nat) = some 42 from nofun), if_neg (show ¬ (none : Option Nat) = some 42 from nofun), putW_r, putW_r]
theorem sh_step : ∀ o t : List Nat, sh o t = stepW o.head? t.head? (sh o.tail t) (sh o t.tail) (sh o.tail t.tail)
  | [], [] => rfl
  | [], d :: t => step_l
  | c :: o, [] => step_r
  | c :: o, d :: t => rfl
/-- a row takes a name: a star any run, a dot any sign -/
noncomputable def Md : List Nat → List Nat → Prop
  | [], s => s = []
  | c :: p, s => if c = 42 then ∃ s1 s2, s = s1 ++ s2 ∧ Md p s2 else ∃ x s', s = x :: s' ∧ (c = 46 ∨ x = c) ∧ Md p s'
theorem md_star {p s : List Nat} : Md (42 :: p) s ↔ ∃ s1 s2, s = s1 ++ s2 ∧ Md p s2 := by rw [Md, if_pos rfl]
theorem md_sign {c : Nat} {p s : List Nat} (h : c ≠ 42) : Md (c :: p) s ↔ ∃ x s', s = x :: s' ∧ (c = 46 ∨ x = c) ∧ Md p s' := by rw [Md, if_neg h]
theorem md_skip {p s : List Nat} (h : Md p s) : Md (42 :: p) s := md_star.mpr ⟨[], s, rfl, h⟩
theorem md_more {p s : List Nat} {x : Nat} (h : Md (42 :: p) s) : Md (42 :: p) (x :: s) := by
  obtain ⟨s1, s2, rfl, h2⟩ := md_star.mp h
  exact md_star.mpr ⟨x :: s1, s2, rfl, h2⟩
theorem pick_some {acc : Option (List Nat)} {x : List Nat} : pickW acc (some x) = if lessW x acc = true then some x else acc := rfl
theorem fold_mem : ∀ (ws : List (Option (List Nat))) (acc : Option (List Nat)) (w : List Nat), ws.foldl pickW acc = some w → acc = some w ∨ some w ∈ ws
  | [], acc, w, h => .inl h
  | x :: ws, acc, w, h => by
    rw [List.foldl_cons] at h
    rcases fold_mem ws _ w h with h | h
    · cases x with
      | none => exact .inl h
      | some x =>
        rw [pick_some] at h
        by_cases hl : lessW x acc = true
        · rw [if_pos hl] at h; exact .inr (by rw [h]; exact List.mem_cons_self)
        · rw [if_neg hl] at h; exact .inl h
    · exact .inr (List.mem_cons_of_mem _ h)
noncomputable def shortW (n : Nat) (o : Option (List Nat)) : Prop := ∃ y, o = some y ∧ y.length ≤ n
theorem pick_acc {n : Nat} {acc x : Option (List Nat)} (h : shortW n acc) : shortW n (pickW acc x) := by
  obtain ⟨y, rfl, hy⟩ := h
  cases x with
  | none => exact ⟨y, rfl, hy⟩
  | some x =>
    by_cases h : lessW x (some y) = true
    · rw [pick_some, if_pos h]
      have h : x.length < y.length := of_decide_eq_true h
      exact ⟨x, rfl, by lia⟩
    · rw [pick_some, if_neg h]; exact ⟨y, rfl, hy⟩
theorem pick_new {n : Nat} {acc x : Option (List Nat)} (h : shortW n x) : shortW n (pickW acc x) := by
  obtain ⟨y, rfl, hy⟩ := h
  by_cases h : lessW y acc = true
  · rw [pick_some, if_pos h]; exact ⟨y, rfl, hy⟩
  · rw [pick_some, if_neg h]
    cases acc with
    | none => exact absurd rfl h
    | some z =>
      have h : ¬ y.length < z.length := fun q => h (decide_eq_true q)
      exact ⟨z, rfl, by lia⟩
theorem fold_acc {n : Nat} : ∀ (ws : List (Option (List Nat))) (acc : Option (List Nat)), shortW n acc → shortW n (ws.foldl pickW acc)
  | [], acc, h => h
  | x :: ws, acc, h => fold_acc ws _ (pick_acc h)
theorem fold_le {n : Nat} {x : Option (List Nat)} : ∀ (ws : List (Option (List Nat))) (acc : Option (List Nat)), x ∈ ws → shortW n x → shortW n (ws.foldl pickW acc)
  | y :: ws, acc, hm, hx => by
    rw [List.foldl_cons]
    rcases List.mem_cons.mp hm with rfl | hm
    · exact fold_acc ws _ (pick_new hx)
    · exact fold_le ws _ hm hx
section
variable {l r : Option Nat} {a b c : Option (List Nat)} {n : Nat}
theorem step_none : shortW n (stepW none none a b c) := ⟨[], by rw [step_l (a' := none) (c' := none), step_r (b' := none) (c' := none)]; rfl, Nat.zero_le _⟩
theorem step_down (h : shortW n a) : shortW n (stepW (some 42) r a b c) := fold_le _ _ (List.mem_append_right _ (List.mem_append_left _ (by rw [if_pos rfl]; exact List.mem_singleton_self _))) h
theorem step_right (h : shortW n b) : shortW n (stepW l (some 42) a b c) := fold_le _ _ (List.mem_append_right _ (List.mem_append_right _ (List.mem_append_left _ (by rw [if_pos rfl]; exact List.mem_singleton_self _)))) h
theorem step_put {x y : Nat} (h1 : ¬ (x = 42 ∧ y = 42)) (h2 : (bareW x y).length < 2 ∨ x = y) (h : shortW n (restW (some x) (some y) a b c)) : shortW (n + 1) (stepW (some x) (some y) a b c) := by
  obtain ⟨w, e, hw⟩ := h
  refine fold_le (x := some ((bareW x y ++ [46]).headD 0 :: w)) _ _ (List.mem_append_right _ (List.mem_append_right _ (List.mem_append_right _ ?_))) ⟨_, rfl, by rw [List.length_cons]; lia⟩
  rw [if_neg (fun q => h1 ⟨Option.some.inj q.1, Option.some.inj q.2⟩), e, putW, if_pos h2]
  exact List.mem_singleton_self _
end
theorem bare_ok {x y z : Nat} (hx : x = 42 ∨ x = 46 ∨ z = x) (hy : y = 42 ∨ y = 46 ∨ z = y) : (bareW x y).length < 2 ∨ x = y := by
  by_cases e : x = y
  · exact .inr e
  · refine .inl ?_
    have : ∀ p, (p = 42 ∨ p = 46) → (p != 42 && p != 46) = false := by
      rintro p (rfl | rfl) <;> rfl
    unfold bareW
    rcases or_assoc.mpr hx with hx | hx
    · rw [List.filter_cons_of_neg (by simpa using this x hx)]
      exact Nat.lt_of_le_of_lt (List.length_filter_le _ _) (Nat.lt_succ_self 1)
    · rcases or_assoc.mpr hy with hy | hy
      · rw [show [x, y] = [x] ++ [y] from rfl, List.filter_append, List.filter_cons_of_neg (l := []) (a := y) (by simpa using this y hy), List.filter_nil, List.append_nil]
        exact Nat.lt_of_le_of_lt (List.length_filter_le _ _) (Nat.lt_succ_self 1)
      · exact absurd (hx.symm.trans hy) e
/-- no shared text is shorter -/
theorem sh_le : ∀ (n : Nat) (o t s : List Nat), o.length + t.length ≤ n → Md o s → Md t s → shortW s.length (sh o t)
  | n, [], [], s, hn, ho, ht => step_none (a := none) (b := none) (c := none)
  | 0, _ :: _, _, s, hn, ho, ht => by simp at hn
  | 0, [], _ :: _, s, hn, ho, ht => by simp at hn
  | n + 1, [], d :: t, s, hn, ho, ht => by
    have ho : s = [] := ho
    subst ho
    rw [sh_step]
    by_cases h : d = 42
    · subst h
      obtain ⟨s1, s2, h1, h2⟩ := md_star.mp ht
      obtain ⟨rfl, rfl⟩ := List.append_eq_nil_iff.mp h1.symm
      exact step_right (sh_le n [] t [] (by simpa using hn) rfl h2)
    · obtain ⟨x, s', h1, _⟩ := (md_sign h).mp ht
      cases h1
  | n + 1, c :: o, [], s, hn, ho, ht => by
    have ht : s = [] := ht
    subst ht
    rw [sh_step]
    by_cases h : c = 42
    · subst h
      obtain ⟨s1, s2, h1, h2⟩ := md_star.mp ho
      obtain ⟨rfl, rfl⟩ := List.append_eq_nil_iff.mp h1.symm
      exact step_down (sh_le n o [] [] (by simpa using hn) h2 rfl)
    · obtain ⟨x, s', h1, _⟩ := (md_sign h).mp ho
      cases h1
  | n + 1, c :: o, d :: t, s, hn, ho, ht => by
    rw [List.length_cons, List.length_cons] at hn
    have mono : ∀ {k : Nat} {x : Option (List Nat)}, k ≤ s.length → shortW k x → shortW s.length x := fun hk ⟨y, e, hy⟩ => ⟨y, e, Nat.le_trans hy hk⟩
    rw [sh_step]
    by_cases hc : c = 42
    · subst hc
      obtain ⟨s1, s2, h1, h2⟩ := md_star.mp ho
      by_cases hd : d = 42
      · subst hd
        obtain ⟨t1, t2, h3, h4⟩ := md_star.mp ht
        rcases Nat.le_total s1.length t1.length with h | h
        · refine step_down (mono (k := s2.length) (by rw [h1, List.length_append]; lia) (sh_le n o (42 :: t) s2 (by rw [List.length_cons]; lia) h2 ?_))
          obtain ⟨u, hu1, hu2⟩ : ∃ u, t1 = s1 ++ u ∧ s2 = u ++ t2 := by
            rcases List.append_eq_append_iff.mp (h1.symm.trans h3) with ⟨u, e1, e2⟩ | ⟨u, e1, e2⟩
            · exact ⟨u, e1, e2⟩
            · have : u = [] := by
                have := congrArg List.length e1
                rw [List.length_append] at this
                exact List.length_eq_zero_iff.mp (by lia)
              subst this
              exact ⟨[], by simpa using e1.symm, by simpa using e2.symm⟩
          exact md_star.mpr ⟨u, t2, hu2, h4⟩
        · refine step_right (mono (k := t2.length) (by rw [h3, List.length_append]; lia) (sh_le n (42 :: o) t t2 (by rw [List.length_cons]; lia) ?_ h4))
          obtain ⟨u, hu1, hu2⟩ : ∃ u, s1 = t1 ++ u ∧ t2 = u ++ s2 := by
            rcases List.append_eq_append_iff.mp (h3.symm.trans h1) with ⟨u, e1, e2⟩ | ⟨u, e1, e2⟩
            · exact ⟨u, e1, e2⟩
            · have : u = [] := by
                have := congrArg List.length e1
                rw [List.length_append] at this
                exact List.length_eq_zero_iff.mp (by lia)
              subst this
              exact ⟨[], by simpa using e1.symm, by simpa using e2.symm⟩
          exact md_star.mpr ⟨u, s2, hu2, h2⟩
      · obtain ⟨x, s', h3, h4, h5⟩ := (md_sign hd).mp ht
        cases s1 with
        | nil =>
          rw [List.nil_append] at h1
          subst h1
          exact step_down (sh_le n o (d :: t) s (by rw [List.length_cons]; lia) h2 ht)
        | cons y s1 =>
          rw [h3, List.cons_append] at h1
          injection h1 with e1 e2
          subst h3
          refine step_put (n := s'.length) (fun q => hd q.2) (bare_ok (z := x) (.inl rfl) (.inr h4)) ?_
          rw [restW, if_pos rfl]
          exact sh_le n (42 :: o) t s' (by rw [List.length_cons]; lia) (md_star.mpr ⟨s1, s2, e2, h2⟩) h5
    · obtain ⟨x, s', h1, h2, h3⟩ := (md_sign hc).mp ho
      by_cases hd : d = 42
      · subst hd
        obtain ⟨t1, t2, h4, h5⟩ := md_star.mp ht
        cases t1 with
        | nil =>
          rw [List.nil_append] at h4
          subst h4
          exact step_right (sh_le n (c :: o) t s (by rw [List.length_cons]; lia) ho h5)
        | cons y t1 =>
          rw [h1, List.cons_append] at h4
          injection h4 with e1 e2
          subst h1
          refine step_put (n := s'.length) (fun q => hc q.1) (bare_ok (z := x) (.inr h2) (.inl rfl)) ?_
          rw [restW, if_neg (fun q => hc (Option.some.inj q)), if_pos rfl]
          exact sh_le n o (42 :: t) s' (by rw [List.length_cons]; lia) h3 (md_star.mpr ⟨t1, t2, e2, h5⟩)
      · obtain ⟨y, t', h4, h5, h6⟩ := (md_sign hd).mp ht
        rw [h1] at h4
        injection h4 with e1 e2
        subst e1; subst e2; subst h1
        refine step_put (n := s'.length) (fun q => hc q.1) (bare_ok (z := x) (.inr h2) (.inr h5)) ?_
        rw [restW, if_neg (fun q => hc (Option.some.inj q)), if_neg (fun q => hd (Option.some.inj q))]
        exact sh_le n o t s' (by lia) h3 h6
/-- an open sign made the first letter -/
noncomputable def dotA (w : List Nat) : List Nat := w.map fun c => if c = 46 then 97 else c
theorem head_ok {c d : Nat} (h : (bareW c d).length < 2 ∨ c = d) (h42 : ¬ (c = 42 ∧ d = 42)) : ∀ p, p = c ∨ p = d → p ≠ 42 → p = 46 ∨ (if (bareW c d ++ [46]).headD 0 = 46 then 97 else (bareW c d ++ [46]).headD 0) = p := by
  intro p hp h1
  by_cases h2 : p = 46
  · exact .inl h2
  · refine .inr ?_
    have hb : (p != 42 && p != 46) = true := by simp [h1, h2]
    have key : ∃ rest, bareW c d = p :: rest := by
      unfold bareW at h ⊢
      by_cases e : c = d
      · subst e
        have : p = c := by rcases hp with h | h <;> exact h
        subst this
        exact ⟨_, List.filter_cons_of_pos hb⟩
      · have h := h.resolve_right e
        rcases hp with rfl | rfl
        · exact ⟨_, List.filter_cons_of_pos hb⟩
        · by_cases hc : (c != 42 && c != 46) = true
          · rw [List.filter_cons_of_pos (by simpa using hc), List.filter_cons_of_pos (by simpa using hb)] at h
            simp at h
          · rw [List.filter_cons_of_neg (by simpa using hc)]
            exact ⟨_, List.filter_cons_of_pos hb⟩
    obtain ⟨rest, e⟩ := key
    rw [e, List.cons_append, List.headD_cons, if_neg h2]
theorem sh_len : ∀ (n : Nat) (o t w : List Nat), o.length + t.length ≤ n → sh o t = some w → w.length ≤ n := by
  intro n
  induction n with
  | zero =>
    intro o t w hn h
    have e1 : o = [] := List.length_eq_zero_iff.mp (by lia)
    have e2 : t = [] := List.length_eq_zero_iff.mp (by lia)
    subst e1; subst e2
    have h : some [] = some w := h
    cases h
    exact Nat.le_refl _
  | succ n ih =>
    intro o t w hn h
    rw [sh_step] at h
    have h := (fold_mem _ _ w h).resolve_left nofun
    have down : o.head? ≠ none → sh o.tail t = some w → w.length ≤ n := by
      intro h1 h2
      cases o with
      | nil => exact absurd rfl h1
      | cons c o => exact ih o t w (by rw [List.length_cons] at hn; lia) h2
    have right : ∀ w : List Nat, t.head? ≠ none → sh o t.tail = some w → w.length ≤ n := by
      intro w h1 h2
      cases t with
      | nil => exact absurd rfl h1
      | cons c t => exact ih o t w (by rw [List.length_cons] at hn; lia) h2
    unfold waysW at h
    rcases List.mem_append.mp h with h | h
    · split at h
      · cases List.mem_singleton.mp h; exact Nat.zero_le _
      · cases h
    rcases List.mem_append.mp h with h | h
    · split at h
      · rename_i e
        exact Nat.le_succ_of_le (down (by rw [e]; nofun) (List.mem_singleton.mp h).symm)
      · cases h
    rcases List.mem_append.mp h with h | h
    · split at h
      · rename_i e
        exact Nat.le_succ_of_le (right w (by rw [e]; nofun) (List.mem_singleton.mp h).symm)
      · cases h
    split at h
    · cases h
    · cases o with
      | nil => cases h
      | cons c o => cases t with
        | nil => rw [show (([] : List Nat).head?) = none from rfl, putW_r] at h; cases h
        | cons d t =>
          rw [List.length_cons, List.length_cons] at hn
          generalize hr : restW (c :: o).head? (d :: t).head? (sh (c :: o).tail (d :: t)) (sh (c :: o) (d :: t).tail) (sh (c :: o).tail (d :: t).tail) = rest at h
          cases rest with
          | none => cases h
          | some v =>
            have h : some w ∈ (if (bareW c d).length < 2 ∨ c = d then [some ((bareW c d ++ [46]).headD 0 :: v)] else []) := h
            split at h
            · cases List.mem_singleton.mp h
              rw [List.length_cons]
              refine Nat.succ_le_succ ?_
              have hr : (if some c = some 42 then sh (c :: o) t else if some d = some 42 then sh o (d :: t) else sh o t) = some v := hr
              split at hr
              · exact ih (c :: o) t v (by rw [List.length_cons]; lia) hr
              · split at hr
                · exact ih o (d :: t) v (by rw [List.length_cons]; lia) hr
                · exact ih o t v (by lia) hr
            · cases h
/-- a shared text is taken by both -/
theorem sh_ok : ∀ (n : Nat) (o t w : List Nat), o.length + t.length ≤ n → sh o t = some w → Md o (dotA w) ∧ Md t (dotA w) := by
  intro n
  induction n with
  | zero =>
    intro o t w hn h
    have e1 : o = [] := List.length_eq_zero_iff.mp (by lia)
    have e2 : t = [] := List.length_eq_zero_iff.mp (by lia)
    subst e1; subst e2
    have h : some [] = some w := h
    cases h
    exact ⟨rfl, rfl⟩
  | succ n ih =>
    intro o t w hn h
    rw [sh_step] at h
    have h := (fold_mem _ _ w h).resolve_left nofun
    unfold waysW at h
    rcases List.mem_append.mp h with h | h
    · split at h
      · rename_i e
        obtain ⟨e1, e2⟩ := e
        cases List.mem_singleton.mp h
        cases o with
        | cons _ _ => cases e1
        | nil => cases t with
          | cons _ _ => cases e2
          | nil => exact ⟨rfl, rfl⟩
      · cases h
    rcases List.mem_append.mp h with h | h
    · split at h
      · rename_i e
        have h := List.mem_singleton.mp h
        cases o with
        | nil => cases e
        | cons c o =>
          cases e
          have := ih o t w (by rw [List.length_cons] at hn; lia) h.symm
          exact ⟨md_skip this.1, this.2⟩
      · cases h
    rcases List.mem_append.mp h with h | h
    · split at h
      · rename_i e
        have h := List.mem_singleton.mp h
        cases t with
        | nil => cases e
        | cons d t =>
          cases e
          have := ih o t w (by rw [List.length_cons] at hn; lia) h.symm
          exact ⟨this.1, md_skip this.2⟩
      · cases h
    split at h
    · cases h
    · rename_i hb
      cases o with
      | nil => cases h
      | cons c o => cases t with
        | nil => rw [show (([] : List Nat).head?) = none from rfl, putW_r] at h; cases h
        | cons d t =>
          rw [List.length_cons, List.length_cons] at hn
          have hb : ¬ (c = 42 ∧ d = 42) := fun q => hb ⟨congrArg some q.1, congrArg some q.2⟩
          generalize hr : restW (c :: o).head? (d :: t).head? (sh (c :: o).tail (d :: t)) (sh (c :: o) (d :: t).tail) (sh (c :: o).tail (d :: t).tail) = rest at h
          cases rest with
          | none => cases h
          | some v =>
            have h : some w ∈ (if (bareW c d).length < 2 ∨ c = d then [some ((bareW c d ++ [46]).headD 0 :: v)] else []) := h
            split at h
            · rename_i hok
              cases List.mem_singleton.mp h
              have hd := head_ok hok hb
              generalize (bareW c d ++ [46]).headD 0 = z at hd
              show Md (c :: o) ((if z = 46 then 97 else z) :: dotA v) ∧ Md (d :: t) ((if z = 46 then 97 else z) :: dotA v)
              generalize (if z = 46 then 97 else z) = z' at hd
              have hr : (if some c = some 42 then sh (c :: o) t else if some d = some 42 then sh o (d :: t) else sh o t) = some v := hr
              by_cases hc : c = 42
              · subst hc
                rw [if_pos rfl] at hr
                have hd42 : d ≠ 42 := fun e => hb ⟨rfl, e⟩
                have := ih (42 :: o) t v (by rw [List.length_cons]; lia) hr
                exact ⟨md_more this.1, (md_sign hd42).mpr ⟨_, _, rfl, hd d (.inr rfl) hd42, this.2⟩⟩
              · rw [if_neg (fun q => hc (Option.some.inj q))] at hr
                by_cases hd42 : d = 42
                · subst hd42
                  rw [if_pos rfl] at hr
                  have := ih o (42 :: t) v (by rw [List.length_cons]; lia) hr
                  exact ⟨(md_sign hc).mpr ⟨_, _, rfl, hd c (.inl rfl) hc, this.1⟩, md_more this.2⟩
                · rw [if_neg (fun q => hd42 (Option.some.inj q))] at hr
                  have := ih o t v (by lia) hr
                  exact ⟨(md_sign hc).mpr ⟨_, _, rfl, hd c (.inl rfl) hc, this.1⟩, (md_sign hd42).mpr ⟨_, _, rfl, hd d (.inr rfl) hd42, this.2⟩⟩
            · cases h
end Mine
end

section
set_option linter.unusedVariables false
namespace Mine
theorem md_reach {name : List Nat} : ∀ (r : List Nat) (p : Nat), p ≤ name.length → (Reach name (r.map partC) p name.length ↔ Md r (name.drop p))
  | [], p, hp => by
    show p = name.length ↔ name.drop p = []
    rw [List.drop_eq_nil_iff]; lia
  | c :: r, p, hp => by
    rw [List.map_cons, Md]
    by_cases hc : c = 42
    · rw [if_pos hc, show partC c = none from if_pos hc, Reach]
      constructor
      · rintro ⟨p', h1, h2, h3⟩
        refine ⟨(name.drop p).take (p' - p), name.drop p', ?_, (md_reach r p' h2).mp h3⟩
        have : name.drop p' = (name.drop p).drop (p' - p) := by rw [List.drop_drop]; congr 1; lia
        rw [this, List.take_append_drop]
      · rintro ⟨s1, s2, h1, h2⟩
        have hl := congrArg List.length h1
        rw [List.length_drop, List.length_append] at hl
        refine ⟨p + s1.length, by lia, by lia, (md_reach r _ (by lia)).mpr ?_⟩
        rw [← List.drop_drop, h1, List.drop_left]; exact h2
    · rw [if_neg hc, show partC c = some [c] from if_neg hc, Reach]
      have hfit : fit name [c] p = (decide (p < name.length) && (c == 46 || c == name.getD p 0)) := by
        show (decide (p < name.length) && (c == 46 || c == name.getD p 0) && true) = _
        rw [Bool.and_true]
      rw [hfit, Bool.and_eq_true]
      constructor
      · rintro ⟨⟨h1, h2⟩, h3⟩
        have h1 := of_decide_eq_true h1
        refine ⟨name[p], name.drop (p + 1), List.drop_eq_getElem_cons h1, ?_, (md_reach r (p + 1) h1).mp h3⟩
        rw [List.getD_eq_getElem?_getD, List.getElem?_eq_getElem h1, Option.getD_some, Bool.or_eq_true, beq_iff_eq, beq_iff_eq] at h2
        exact h2.imp id Eq.symm
      · rintro ⟨x, s', h1, hx, h2⟩
        have hlt : p < name.length := by
          rcases Nat.lt_or_ge p name.length with h' | h'
          · exact h'
          · rw [List.drop_eq_nil_iff.mpr h'] at h1; cases h1
        rw [List.drop_eq_getElem_cons hlt] at h1
        injection h1 with h3 h4
        refine ⟨⟨decide_eq_true hlt, ?_⟩, (md_reach r (p + 1) hlt).mpr (by rw [h4]; exact h2)⟩
        rw [List.getD_eq_getElem?_getD, List.getElem?_eq_getElem hlt, Option.getD_some, Bool.or_eq_true, beq_iff_eq, beq_iff_eq, h3]
        exact hx.imp id Eq.symm
theorem md_reach0 {name r : List Nat} : Reach name (r.map partC) 0 name.length ↔ Md r name := md_reach r 0 (Nat.zero_le _)
theorem repl_dot : ∀ (r : List Nat) (n : Nat), r.length < n → repl [46] [97] n r = dotA r
  | [], n, h => by cases n <;> rfl
  | c :: r, 0, h => by cases h
  | c :: r, n + 1, h => by
    have e : repl [46] [97] (n + 1) (c :: r) = if [46].isPrefixOf (c :: r) then [97] ++ repl [46] [97] n ((c :: r).drop 1) else c :: repl [46] [97] n r := rfl
    have ih := repl_dot r n (Nat.lt_of_succ_lt_succ h)
    have hp : ([46] : List Nat).isPrefixOf (c :: r) = (46 == c) := by simp [List.isPrefixOf]
    rw [e, hp]
    unfold dotA at ih ⊢
    rw [List.map_cons]
    by_cases hc : c = 46
    · subst hc
      rw [if_pos (by decide), if_pos rfl]
      show [97] ++ repl [46] [97] n r = _
      rw [ih]; rfl
    · rw [if_neg (by simpa using fun h => hc h.symm), if_neg hc, ih]
/-- the rows are built sign by sign -/
noncomputable def tab5 : Nat → List Nat
  | 0 => [42, 97, 98, 46, 32, 32, 32, 32, 42, 97, 98]
  | _ => [32, 32, 32, 32, 42, 97, 98, 46, 42, 97, 98]
noncomputable def sgn5 (k : Nat) (x : Int) : Nat := (tab5 k).getD (x % 11).toNat 0
noncomputable def put5 (row : List Nat) (c : Nat) : List Nat := if c ≠ 32 ∧ (c ≠ 42 ∨ row.drop (row.length - 1) ≠ [42]) then row ++ [c] else row
noncomputable def bld5 (rs : List Nat × List Nat) (x : Int) : List Nat × List Nat := (put5 rs.1 (sgn5 0 x), put5 rs.2 (sgn5 1 x))
noncomputable def okC (c : Nat) : Prop := c = 42 ∨ c = 97 ∨ c = 98 ∨ c = 46
theorem mod11 (x : Int) : (x % 11).toNat < 11 := by
  have h1 : 0 ≤ x % 11 := Int.emod_nonneg _ (by decide)
  have h2 : x % 11 < 11 := Int.emod_lt_of_pos _ (by decide)
  lia
theorem tab5_len : ∀ k, (tab5 k).length = 11
  | 0 => rfl
  | _ + 1 => rfl
theorem tab5_ok : ∀ k, ∀ c ∈ tab5 k, c = 32 ∨ okC c
  | 0 => by unfold okC tab5; decide
  | _ + 1 => show ∀ c ∈ [32, 32, 32, 32, 42, 97, 98, 46, 42, 97, 98], c = 32 ∨ okC c by unfold okC; decide
theorem sgn5_at (k : Nat) (x : Int) : (tab5 k)[(x % 11).toNat]? = some (sgn5 k x) := by
  unfold sgn5
  rw [List.getD_eq_getElem?_getD, List.getElem?_eq_getElem (by rw [tab5_len]; exact mod11 x)]; rfl
theorem sgn5_ok (k : Nat) (x : Int) : sgn5 k x = 32 ∨ okC (sgn5 k x) := tab5_ok k _ (List.mem_of_getElem? (sgn5_at k x))
theorem put5_len (row : List Nat) (c : Nat) : (put5 row c).length ≤ row.length + 1 := by
  unfold put5
  split
  · rw [List.length_append]; exact Nat.le_refl _
  · lia
theorem noTwo_snoc : ∀ {r : List Nat} {c : Nat}, noTwo r → ¬ (r.drop (r.length - 1) = [42] ∧ c = 42) → noTwo (r ++ [c])
  | [], c, h, h2 => trivial
  | [b], c, h, h2 => ⟨by simpa using h2, trivial⟩
  | b :: d :: r, c, h, h2 => by
    refine ⟨h.1, noTwo_snoc (r := d :: r) h.2 ?_⟩
    simpa using h2
theorem put5_ok {row : List Nat} {c : Nat} (hs : c = 32 ∨ okC c) (hn : noTwo row) (hr : ∀ c ∈ row, okC c) : noTwo (put5 row c) ∧ ∀ d ∈ put5 row c, okC d := by
  unfold put5
  split
  · rename_i h
    refine ⟨noTwo_snoc hn fun hh => ?_, fun d hd => ?_⟩
    · rcases h.2 with h | h
      · exact h hh.2
      · exact h hh.1
    · rcases List.mem_append.mp hd with hd | hd
      · exact hr d hd
      · rw [List.mem_singleton.mp hd]; exact hs.resolve_left h.1
  · exact ⟨hn, hr⟩
noncomputable def nums5 (is : List Int) : List Int := if is = [] then [0, 1, 3, 7, 6, 4] else is
theorem bld5_ok : ∀ (is : List Int) (rs : List Nat × List Nat), noTwo rs.1 → noTwo rs.2 → (∀ c ∈ rs.1, okC c) → (∀ c ∈ rs.2, okC c) → (noTwo (is.foldl bld5 rs).1 ∧ noTwo (is.foldl bld5 rs).2) ∧ ((∀ c ∈ (is.foldl bld5 rs).1, okC c) ∧ ∀ c ∈ (is.foldl bld5 rs).2, okC c) ∧ (is.foldl bld5 rs).1.length ≤ rs.1.length + is.length ∧ (is.foldl bld5 rs).2.length ≤ rs.2.length + is.length
  | [], rs, h1, h2, h3, h4 => ⟨⟨h1, h2⟩, ⟨h3, h4⟩, Nat.le_refl _, Nat.le_refl _⟩
  | x :: is, rs, h1, h2, h3, h4 => by
    have a := put5_ok (sgn5_ok 0 x) h1 h3
    have b := put5_ok (sgn5_ok 1 x) h2 h4
    have l1 := put5_len rs.1 (sgn5 0 x)
    have l2 := put5_len rs.2 (sgn5 1 x)
    obtain ⟨g1, g2, g3, g4⟩ := bld5_ok is (bld5 rs x) a.1 b.1 a.2 b.2
    have e1 : (bld5 rs x).1 = put5 rs.1 (sgn5 0 x) := rfl
    have e2 : (bld5 rs x).2 = put5 rs.2 (sgn5 1 x) := rfl
    rw [e1] at g3
    rw [e2] at g4
    refine ⟨g1, g2, ?_, ?_⟩
    · rw [List.foldl_cons, List.length_cons]; lia
    · rw [List.foldl_cons, List.length_cons]; lia
/-- all names of a size -/
noncomputable def nm5 : Nat → List (List Nat)
  | 0 => [[]]
  | n + 1 => (nm5 n).flatMap fun x => [97, 98].map fun c => x ++ [c]
theorem nm5_short : ∀ n, ∀ x ∈ nm5 n, x.length = n
  | 0, x, h => by rw [List.mem_singleton.mp h]; rfl
  | n + 1, x, h => by
    obtain ⟨y, hy, hx⟩ := List.mem_flatMap.mp h
    obtain ⟨c, _, rfl⟩ := List.mem_map.mp hx
    rw [List.length_append, nm5_short n y hy]; rfl
theorem nm5_len : ∀ n, (nm5 n).length = 2 ^ n
  | 0 => rfl
  | n + 1 => by
    have : ∀ l : List (List Nat), (l.flatMap fun x => [97, 98].map fun c => x ++ [c]).length = 2 * l.length := by
      intro l
      induction l with
      | nil => rfl
      | cons x l ih => rw [List.flatMap_cons, List.length_append, ih]; simp; lia
    rw [nm5, this, nm5_len n, Nat.pow_succ]; lia
end Mine
end

section
open PySem PySem.W PyProof.Rows PySem.SeqAt
set_option linter.unusedVariables false
set_option maxRecDepth 10000
namespace Mine
noncomputable def encW : Option (List Nat) → PV
  | none => .none
  | some w => .str w
/-- a cell of the table while (i, j) is filled in -/
noncomputable def cellW (B : Nat → Nat → Option (List Nat)) (i j : Nat) (acc : Option (List Nat)) (i' j' : Nat) : PV :=
  if i' = i ∧ j' = j then encW acc else if i < i' ∨ (i = i' ∧ j < j') then encW (B i' j') else .none
noncomputable def rowW (B : Nat → Nat → Option (List Nat)) (m i j : Nat) (acc : Option (List Nat)) (i' : Nat) : List PV := (List.range m).map (cellW B i j acc i')
/-- the table -/
structure GridS (D : Addr) (rs : List Addr) (B : Nat → Nat → Option (List Nat)) (m i j : Nat) (acc : Option (List Nat)) (μ : Mu) : Prop where
  d : μ D = some (rs.map .own)
  r : ∀ i' r, rs[i']? = some r → μ r = some (rowW B m i j acc i')
section
variable {D : Addr} {rs : List Addr} {B : Nat → Nat → Option (List Nat)} {m i j : Nat} {acc : Option (List Nat)} {μ : Mu}
theorem row_at {i' j' : Nat} (h : j' < m) : (rowW B m i j acc i')[j']? = some (cellW B i j acc i' j') := by
  unfold rowW
  rw [List.getElem?_map, List.getElem?_range h]; rfl
theorem row_len {i' : Nat} : (rowW B m i j acc i').length = m := by unfold rowW; rw [List.length_map, List.length_range]
theorem row_elem {i' k : Nat} (h : k < (rowW B m i j acc i').length) : (rowW B m i j acc i')[k] = cellW B i j acc i' k :=
  Option.some.inj ((List.getElem?_eq_getElem h).symm.trans (row_at (by rw [row_len] at h; exact h)))
theorem cell_here : cellW B i j acc i j = encW acc := if_pos ⟨rfl, rfl⟩
theorem cell_done {i' j' : Nat} (h : i < i' ∨ (i = i' ∧ j < j')) : cellW B i j acc i' j' = encW (B i' j') := by
  unfold cellW
  rw [if_neg (by lia), if_pos h]
theorem row_ext {i2 j2 : Nat} {acc2 : Option (List Nat)} {i' : Nat} (h : ∀ j' < m, cellW B i j acc i' j' = cellW B i2 j2 acc2 i' j') : rowW B m i j acc i' = rowW B m i2 j2 acc2 i' :=
  List.map_congr_left fun j' hj => h j' (List.mem_range.mp hj)
/-- on to the next cell of the row -/
theorem grid_left (h : GridS D rs B m i (j + 1) (B i (j + 1)) μ) : GridS D rs B m i j none μ := ⟨h.d, fun i' r hr => by
  rw [h.r i' r hr]
  congr 1
  refine row_ext fun j' hj => ?_
  unfold cellW
  by_cases h1 : i' = i ∧ j' = j + 1
  · rw [if_pos h1, if_neg (by lia), if_pos (by lia), h1.1, h1.2]
  · rw [if_neg h1]
    by_cases h2 : i' = i ∧ j' = j
    · rw [if_pos h2, if_neg (by lia)]; rfl
    · rw [if_neg h2]
      by_cases h3 : i < i' ∨ (i = i' ∧ j + 1 < j')
      · rw [if_pos h3, if_pos (by lia)]
      · rw [if_neg h3, if_neg (by lia)]⟩
/-- on to the row above -/
theorem grid_up (h : GridS D rs B m (i + 1) 0 (B (i + 1) 0) μ) (hm : 0 < m) : GridS D rs B m i (m - 1) none μ := ⟨h.d, fun i' r hr => by
  rw [h.r i' r hr]
  congr 1
  refine row_ext fun j' hj => ?_
  unfold cellW
  by_cases h1 : i' = i + 1 ∧ j' = 0
  · rw [if_pos h1, if_neg (by lia), if_pos (by lia), h1.1, h1.2]
  · rw [if_neg h1]
    by_cases h2 : i' = i ∧ j' = m - 1
    · rw [if_pos h2, if_neg (by lia)]; rfl
    · rw [if_neg h2]
      by_cases h3 : i + 1 < i' ∨ (i + 1 = i' ∧ 0 < j')
      · rw [if_pos h3, if_pos (by lia)]
      · rw [if_neg h3, if_neg (by lia)]⟩
/-- the table at first -/
theorem grid_start (hd : D ∉ rs) (hm : 0 < m) (hn : rs.length = i + 1) : GridS D rs B m i (m - 1) none (muGrid μ D rs m) := ⟨muGrid_D, fun i' r hr => by
  have hmem := List.mem_of_getElem? hr
  rw [muGrid_r hmem (by rintro rfl; exact hd hmem)]
  congr 1
  have hlt : i' < rs.length := (List.getElem?_eq_some_iff.mp hr).1
  rw [List.eq_replicate_iff.mpr ⟨row_len, fun p hp => ?_⟩]
  unfold rowW at hp
  obtain ⟨j', hj, rfl⟩ := List.mem_map.mp hp
  have hj := List.mem_range.mp hj
  unfold cellW
  by_cases h2 : i' = i ∧ j' = m - 1
  · rw [if_pos h2]; rfl
  · rw [if_neg h2, if_neg (by lia)]⟩
/-- another list written, the table stays -/
theorem grid_keep {u : Addr} {xs : List PV} (h : GridS D rs B m i j acc μ) (h1 : u ≠ D) (h2 : u ∉ rs) : GridS D rs B m i j acc (muSet μ u xs) :=
  ⟨(muSet_other (Ne.symm h1)).trans h.d, fun i' r hr => (muSet_other (by rintro rfl; exact h2 (List.mem_of_getElem? hr))).trans (h.r i' r hr)⟩
theorem grid_del {u : Addr} (h : GridS D rs B m i j acc μ) (h1 : u ≠ D) (h2 : u ∉ rs) : GridS D rs B m i j acc (muDel μ u) :=
  ⟨(if_neg (Ne.symm h1)).trans h.d, fun i' r hr => (if_neg (show ¬ r = u by rintro rfl; exact h2 (List.mem_of_getElem? hr))).trans (h.r i' r hr)⟩
theorem grid_new {u : Addr} (h : GridS D rs B m i j acc μ) (hu : μ u = none) : u ≠ D ∧ u ∉ rs := by
  refine ⟨fun e => ?_, fun e => ?_⟩
  · rw [e, h.d] at hu; cases hu
  · obtain ⟨k, hk, e2⟩ := List.getElem_of_mem e
    rw [h.r k u (by rw [List.getElem?_eq_getElem hk, e2])] at hu; cases hu
theorem grid_set {acc2 : Option (List Nat)} {r : Addr} (h : GridS D rs B m i j acc μ) (hd : D ∉ rs) (hn : rs.Nodup) (hr : rs[i]? = some r) (hj : j < m) : GridS D rs B m i j acc2 (muSet μ r ((rowW B m i j acc i).set (place (rowW B m i j acc i).length (j : Int)) (encW acc2))) := by
  have hmem := List.mem_of_getElem? hr
  refine ⟨(muSet_other (by rintro rfl; exact hd hmem)).trans h.d, fun i' r' hr' => ?_⟩
  by_cases e : i' = i
  · subst e
    rw [hr] at hr'
    cases hr'
    rw [muSet_same]
    congr 1
    have hp : place (rowW B m i' j acc i').length (j : Int) = j := by
      unfold place
      rw [if_pos (Int.natCast_nonneg j), Int.toNat_natCast]
    rw [hp]
    refine List.ext_getElem ?_ fun k h1 h2 => ?_
    · rw [List.length_set, row_len, row_len]
    · rw [List.getElem_set, row_elem, row_elem]
      by_cases e : j = k
      · rw [if_pos e, ← e, cell_here]
      · have h0 : ¬ (i' = i' ∧ k = j) := fun q => e q.2.symm
        rw [if_neg e]
        unfold cellW
        rw [if_neg h0, if_neg h0]
  · have hne : r' ≠ r := by
      rintro rfl
      obtain ⟨a1, a2⟩ := List.getElem?_eq_some_iff.mp hr
      obtain ⟨b1, b2⟩ := List.getElem?_eq_some_iff.mp hr'
      have key := List.pairwise_iff_getElem.mp hn
      rcases Nat.lt_or_gt_of_ne e with q | q
      · exact key i' i b1 a1 q (b2.trans a2.symm)
      · exact key i i' a1 b1 q (a2.trans b2.symm)
    rw [muSet_other hne, h.r i' r' hr']
    congr 1
    refine row_ext fun j' _ => ?_
    have h0 : ¬ (i' = i ∧ j' = j) := fun q => e q.1
    unfold cellW
    rw [if_neg h0, if_neg h0]
end
section
variable {T : Str → List PV → Option PV} {D : Addr} {rs : List Addr} {B : Nat → Nat → Option (List Nat)} {m i j : Nat} {acc : Option (List Nat)} {μ : Mu} {ρ : Rho}
theorem grid_row {a : MExpr} {i' : Nat} {r : Addr} (h : GridS D rs B m i j acc μ) (hb : ρ "best" = some (.own D)) (ha : ev T μ a ρ = some (.int i')) (hr : rs[i']? = some r) : ev T μ (.idx (.var "best") a) ρ = some (.own r) := by
  rw [ev_own_idx hb h.d ha, getI_at, List.getElem?_map, hr]; rfl
theorem grid_get {a b : MExpr} {i' j' : Nat} (h : GridS D rs B m i j acc μ) (hb : ρ "best" = some (.own D)) (ha : ev T μ a ρ = some (.int i')) (hc : ev T μ b ρ = some (.int j')) (hi : i' < rs.length) (hj : j' < m) : ev T μ (.idx (.idx (.var "best") a) b) ρ = some (cellW B i j acc i' j') := by
  rw [ev_idx_of (grid_row h hb ha (List.getElem?_eq_getElem hi)) hc, idx_own (h.r i' _ (List.getElem?_eq_getElem hi)), getI_at, row_at hj]
end
end Mine
end

section
open PySem PySem.W PyProof.Rows PySem.SeqAt
set_option linter.unusedVariables false
set_option maxRecDepth 10000
namespace Mine
noncomputable def nShared : Names := [("one", .local), ("two", .cell), ("best", .local), ("i", .local), ("j", .local), ("left", .local), ("right", .local), ("ways", .local), ("rest", .local), ("bare", .local), ("way", .local), ("range", .globalImplicit), ("len", .globalImplicit)]
noncomputable def sT : Option Nat → List Nat
  | none => []
  | some c => [c]
noncomputable def eC (one two : List Nat) (D : Addr) (i j : Nat) : List (Str × PV) := [("one", .str one), ("two", .str two), ("best", .own D), ("i", .int i), ("j", .int j)]
noncomputable def eU (one two : List Nat) (D : Addr) (i j : Nat) (l r : Option Nat) (u : Addr) : List (Str × PV) := ("ways", .own u) :: ("left", .str (sT l)) :: ("right", .str (sT r)) :: eC one two D i j
noncomputable def bWay : List MStmt := [
        .if_ (.and (.cmp .IsNot (.var "way") (.const .none)) (.or (.cmp .Is (.idx (.idx (.var "best") (.var "i")) (.var "j")) (.const .none)) (.cmp .Lt (.call "len" [(.var "way")]) (.call "len" [(.idx (.idx (.var "best") (.var "i")) (.var "j"))])))) [
          .setIdx (.idx (.var "best") (.var "i")) (.var "j") (.var "way")] []]
noncomputable def bPutW : List MStmt := [
        .assign "rest" (.idx (.idx (.var "best") (.ite (.cmp .Eq (.var "left") (.const (.str [42]))) (.var "i") (.bin .Add (.var "i") (.const (.int 1))))) (.ite (.cmp .Eq (.var "right") (.const (.str [42]))) (.var "j") (.bin .Add (.var "j") (.const (.int 1))))),
        .assign "bare" (.comp1 (.var "sign") (.one "sign") (.tup [(.var "left"), (.var "right")]) [(.cmp .NotIn (.var "sign") (.tup [(.const (.str [42])), (.const (.str [46]))]))] []),
        .if_ (.and (.cmp .IsNot (.var "rest") (.const .none)) (.or (.cmp .Lt (.call "len" [(.var "bare")]) (.const (.int 2))) (.cmp .Eq (.var "left") (.var "right")))) [
          .mcall (.var "ways") "append" (.bin .Add (.idx (.bin .Add (.var "bare") (.lst [(.const (.str [46]))])) (.const (.int 0))) (.var "rest"))] []]
noncomputable def bCell : List MStmt := [
      .assign "left" (.slc (.var "one") (.var "i") (.bin .Add (.var "i") (.const (.int 1))) (.const .none)),
      .assign "right" (.slc (.var "two") (.var "j") (.bin .Add (.var "j") (.const (.int 1))) (.const .none)),
      .assign "ways" (.lst []),
      .if_ (.and (.cmp .Eq (.var "left") (.const (.str []))) (.cmp .Eq (.var "right") (.const (.str [])))) [
        .mcall (.var "ways") "append" (.const (.str []))] [],
      .if_ (.cmp .Eq (.var "left") (.const (.str [42]))) [
        .mcall (.var "ways") "append" (.idx (.idx (.var "best") (.bin .Add (.var "i") (.const (.int 1)))) (.var "j"))] [],
      .if_ (.cmp .Eq (.var "right") (.const (.str [42]))) [
        .mcall (.var "ways") "append" (.idx (.idx (.var "best") (.var "i")) (.bin .Add (.var "j") (.const (.int 1))))] [],
      .if_ (.and (.cmp .NotEq (.var "left") (.const (.str []))) (.and (.cmp .NotEq (.var "right") (.const (.str []))) (.or (.cmp .NotEq (.var "left") (.const (.str [42]))) (.cmp .NotEq (.var "right") (.const (.str [42])))))) bPutW [],
      .for_ (.one "way") (.var "ways") bWay]
theorem s_nil (l : Option Nat) : (sT l == []) = decide (l = none) := by cases l <;> rfl
theorem s_star (l : Option Nat) : (sT l == [42]) = decide (l = some 42) := by
  cases l with
  | none => rfl
  | some c =>
    rw [Bool.eq_iff_iff, beq_iff_eq, decide_eq_true_iff]
    exact ⟨fun h => congrArg some (List.cons.inj h).1, fun h => congrArg (fun c => [c]) (Option.some.inj h)⟩
theorem take_sT (xs : List Nat) : xs.take 1 = sT xs.head? := by cases xs <;> rfl
theorem vis_encW (x : Option (List Nat)) : pvis (encW x) .none = some x.isNone := by cases x <;> rfl
/-- the ways found so far -/
structure WsS (D : Addr) (rs : List Addr) (B : Nat → Nat → Option (List Nat)) (m i j : Nat) (acc : Option (List Nat)) (u : Addr) (ws : List (Option (List Nat))) (μ : Mu) : Prop where
  hg : GridS D rs B m i j acc μ
  hu : μ u = some (ws.map encW)
  hd : u ≠ D
  hr : u ∉ rs
section
variable {prog : Program} {w : World} {C : Cx} {lv : Nat} {R : CPost} {D u : Addr} {rs : List Addr} {B : Nat → Nat → Option (List Nat)} {m i j : Nat} {acc : Option (List Nat)} {ws : List (Option (List Nat))} {μ : Mu} {ρ : Rho} {one two : List Nat}
theorem way_put {ms : List MStmt} {e : MExpr} {x : Option (List Nat)} (hC : CxOk C) (hu : ρ "ways" = some (.own u)) (hW : WsS D rs B m i j acc u ws μ) (he : ev T0 μ e ρ = some (encW x)) (hl : ws.length ≤ 10)
    (k : ∀ μ', WsS D rs B m i j acc u (ws ++ [x]) μ' → SatM prog w C lv nShared ms ρ μ' R) : SatM prog w C lv nShared (.mcall (.var "ways") "append" e :: ms) ρ μ R := by
  refine sat_cons (sat_append (T := T0) hC t0ok hu hW.hu he (by rw [List.length_map]; simp only [SZ]; lia) (k _ ⟨grid_keep hW.hg hW.hd hW.hr, ?_, hW.hd, hW.hr⟩))
  rw [muSet_same, List.map_append]; rfl
theorem way_if {ms : List MStmt} {c e : MExpr} {b : Bool} {x : Option (List Nat)} (hC : CxOk C) (hu : ρ "ways" = some (.own u)) (hW : WsS D rs B m i j acc u ws μ) (hc : ev T0 μ c ρ = some (.bool b)) (he : b = true → ev T0 μ e ρ = some (encW x)) (hl : ws.length ≤ 10)
    (k : ∀ μ', WsS D rs B m i j acc u (ws ++ if b = true then [x] else []) μ' → SatM prog w C lv nShared ms ρ μ' R) : SatM prog w C lv nShared (.if_ c [.mcall (.var "ways") "append" e] [] :: ms) ρ μ R := by
  refine sat_cons (sat_if (T := T0) (x := .bool b) b hC t0ok hc rfl ?_)
  cases b with
  | true => exact way_put hC hu hW (he rfl) hl fun μ' h => sat_nil (k μ' h)
  | false =>
    refine sat_nil (k μ ?_)
    rw [if_neg Bool.false_ne_true, List.append_nil]; exact hW
/-- the shortest of the ways is put into the table -/
theorem ways_sat (hC : CxOk C) {u : Addr} (hd : D ∉ rs) (hn : rs.Nodup) (hi : i < rs.length) (hj : j < m) (hm : m ≤ 1000) (hW : WsS D rs B m i j none u ws μ) (hu : ρ "ways" = some (.own u)) (hρ : AllIn (eC one two D i j) ρ)
    (hR : ∀ ρ μ', AllIn (eC one two D i j) ρ → GridS D rs B m i j (ws.foldl pickW none) μ' → R .next ρ μ') : SatM prog w C lv nShared [.for_ (.one "way") (.var "ways") bWay] ρ μ R := by
  refine sat_env (("ways", .own u) :: eC one two D i j) ⟨hu, hρ⟩ ?_
  refine sat_freeze hW.hu ?_
  have f1 : froze μ u (.own u) = .lst (ws.map encW) := by
    show (if u = u then (match μ u with | some xs => PV.lst xs | none => .own u) else .own u) = _
    rw [if_pos rfl, hW.hu]
  have f2 : froze μ u (.own D) = .own D := if_neg (Ne.symm hW.hd)
  refine sat_env (("ways", .lst (ws.map encW)) :: eC one two D i j) ⟨congrArg some f1, rfl, rfl, congrArg some f2, rfl, rfl, trivial⟩ ?_
  refine sat_cons (sat_for (T := T0) (x := .lst (ws.map encW)) (ws.map encW) hC t0ok rfl rfl rfl (own_one (.inl rfl)) ?_)
  refine for_inv (fun items ρ μ => ∃ ws2 acc, items = ws2.map encW ∧ AllIn (eC one two D i j) ρ ∧ GridS D rs B m i j acc μ ∧ ws2.foldl pickW acc = ws.foldl pickW none) ?_ ?_ _ _ _ ⟨ws, none, rfl, ⟨rfl, rfl, rfl, rfl, rfl, trivial⟩, grid_del hW.hg hW.hd hW.hr, rfl⟩
  · rintro ρ μ ⟨ws2, acc, hi2, hρ2, hg, hf⟩
    have : ws2 = [] := List.map_eq_nil_iff.mp hi2.symm
    subst this
    have hf : acc = ws.foldl pickW none := hf
    exact sat_nil (hR ρ μ hρ2 (hf ▸ hg))
  · rintro q its ρ μ ⟨ws2, acc, hi2, hρ2, hg, hf⟩
    cases ws2 with
    | nil => cases hi2
    | cons x ws2 =>
    rw [List.map_cons] at hi2
    injection hi2 with e1 e2
    subst e1; subst e2
    rw [List.foldl_cons] at hf
    refine ⟨_, rfl, ?_⟩
    obtain ⟨k1, k2, k3, k4, k5, _⟩ := hρ2
    refine sat_env (("way", encW x) :: eC one two D i j) ⟨rfl, k1, k2, k3, k4, k5, trivial⟩ ?_
    have hnot : ev T0 μ (.cmp .IsNot (.var "way") (.const .none)) (envOf (("way", encW x) :: eC one two D i j)) = some (.bool !x.isNone) := by
      rw [ev_cmp_of (x := encW x) (y := .none) rfl rfl]
      show (pvis (encW x) .none).map (fun x => PV.bool !x) = _
      rw [vis_encW]; rfl
    have hcell : ev T0 μ (.idx (.idx (.var "best") (.var "i")) (.var "j")) (envOf (("way", encW x) :: eC one two D i j)) = some (encW acc) := by
      rw [grid_get (i' := i) (j' := j) hg rfl rfl rfl hi hj, cell_here]
    cases x with
    | none =>
      refine sat_cons (sat_if (T := T0) (x := .bool false) false hC t0ok (ev_and_of (p := false) (q := false) hnot fun h => (nomatch h)) rfl (sat_nil ?_))
      exact sat_nil ⟨ws2, acc, rfl, ⟨rfl, rfl, rfl, rfl, rfl, trivial⟩, hg, hf⟩
    | some y =>
      have hor : ev T0 μ (.or (.cmp .Is (.idx (.idx (.var "best") (.var "i")) (.var "j")) (.const .none)) (.cmp .Lt (.call "len" [(.var "way")]) (.call "len" [(.idx (.idx (.var "best") (.var "i")) (.var "j"))]))) (envOf (("way", encW (some y)) :: eC one two D i j)) = some (.bool (lessW y acc)) := by
        have his : ev T0 μ (.cmp .Is (.idx (.idx (.var "best") (.var "i")) (.var "j")) (.const .none)) (envOf (("way", encW (some y)) :: eC one two D i j)) = some (.bool acc.isNone) := by
          rw [ev_cmp_of (y := .none) hcell rfl]
          show (pvis (encW acc) .none).map PV.bool = _
          rw [vis_encW]; rfl
        cases acc with
        | none => exact ev_or_of (p := true) (q := false) his fun h => (nomatch h)
        | some z =>
          refine ev_or_of (p := false) his fun _ => ?_
          have h2 : ev T0 μ (.call "len" [(.idx (.idx (.var "best") (.var "i")) (.var "j"))]) (envOf (("way", encW (some y)) :: eC one two D i j)) = some (.int (z.length : Nat)) := ev_len_of hcell rfl
          have h1 : ev T0 μ (.call "len" [(.var "way")]) (envOf (("way", encW (some y)) :: eC one two D i j)) = some (.int (y.length : Nat)) := ev_len_of (a := .var "way") (x := .str y) rfl rfl
          rw [ev_cmp_of h1 h2]
          show some (PV.bool (decide ((y.length : Int) < (z.length : Int)))) = _
          exact congrArg (fun b => some (PV.bool b)) (dec_lt y.length z.length)
      refine sat_cons (sat_if (T := T0) (x := .bool (lessW y acc)) (lessW y acc) hC t0ok (ev_and_of (p := true) hnot fun _ => hor) rfl ?_)
      rw [pick_some] at hf
      by_cases hl : lessW y acc = true
      · rw [if_pos hl] at hf
        rw [hl]
        refine sat_cons (sat_setIdxE (T := T0) (k := j) (encW (some y)) hC t0ok (grid_row (i' := i) hg rfl rfl (List.getElem?_eq_getElem hi)) (hg.r i _ (List.getElem?_eq_getElem hi)) rfl rfl (by rw [row_len]; lia) (by rw [row_len]; lia) (sat_nil (sat_nil ?_)))
        exact ⟨ws2, some y, rfl, ⟨rfl, rfl, rfl, rfl, rfl, trivial⟩, grid_set hg hd hn (List.getElem?_eq_getElem hi) hj, hf⟩
      · rw [if_neg hl] at hf
        rw [Bool.not_eq_true] at hl
        rw [hl]
        exact sat_nil (sat_nil ⟨ws2, acc, rfl, ⟨rfl, rfl, rfl, rfl, rfl, trivial⟩, hg, hf⟩)
end
end Mine
end

section
open PySem PySem.W PyProof.Rows PySem.SeqAt
set_option linter.unusedVariables false
set_option maxRecDepth 10000
namespace Mine
noncomputable def oneS (c : Nat) : PV := .str [c]
section
variable {prog : Program} {w : World} {C : Cx} {lv : Nat} {R : CPost} {D u : Addr} {rs : List Addr} {B : Nat → Nat → Option (List Nat)} {m i j : Nat} {ws : List (Option (List Nat))} {μ : Mu} {ρ : Rho} {one two : List Nat}
/-- the way by one sign -/
theorem putw_sat (hC : CxOk C) {c d : Nat} {i1 j1 : Nat} {ms : List MStmt} (hcd : ¬ (c = 42 ∧ d = 42)) (ei : i1 = if c = 42 then i else i + 1) (ej : j1 = if d = 42 then j else j + 1) (hi : i1 < rs.length) (hj : j1 < m) (hB : ∀ v, B i1 j1 = some v → v.length ≤ 1000) (hW : WsS D rs B m i j none u ws μ) (hl : ws.length ≤ 10)
    (k : ∀ μ', WsS D rs B m i j none u (ws ++ putW (some c) (some d) (B i1 j1)) μ' → SatM prog w C lv nShared ms (envOf (eU one two D i j (some c) (some d) u)) μ' R) :
    SatM prog w C lv nShared (.if_ (.and (.cmp .NotEq (.var "left") (.const (.str []))) (.and (.cmp .NotEq (.var "right") (.const (.str []))) (.or (.cmp .NotEq (.var "left") (.const (.str [42]))) (.cmp .NotEq (.var "right") (.const (.str [42])))))) bPutW [] :: ms) (envOf (eU one two D i j (some c) (some d) u)) μ R := by
  have hst : ∀ x : Nat, ([x] == [42]) = decide (x = 42) := fun x => by
    rw [Bool.eq_iff_iff, beq_iff_eq, decide_eq_true_iff]
    exact ⟨fun h => (List.cons.inj h).1, fun h => congrArg (fun c => [c]) h⟩
  have hcond : ev T0 μ (.and (.cmp .NotEq (.var "left") (.const (.str []))) (.and (.cmp .NotEq (.var "right") (.const (.str []))) (.or (.cmp .NotEq (.var "left") (.const (.str [42]))) (.cmp .NotEq (.var "right") (.const (.str [42])))))) (envOf (eU one two D i j (some c) (some d) u)) = some (.bool true) := by
    refine ev_and_of (p := true) (q := true) rfl fun _ => ev_and_of (p := true) (q := true) rfl fun _ => ?_
    rw [ev_or_of (p := !([c] == [42])) (q := !([d] == [42])) rfl fun _ => rfl, hst, hst]
    by_cases h1 : c = 42
    · rw [decide_eq_false fun h2 => hcd ⟨h1, h2⟩]; simp
    · rw [decide_eq_false h1]; rfl
  refine sat_cons (sat_if (T := T0) (x := .bool true) true hC t0ok hcond rfl ?_)
  have hdone : i < i1 ∨ (i = i1 ∧ j < j1) := by
    rw [ei, ej]
    by_cases h1 : c = 42
    · rw [if_pos h1, if_neg fun h2 => hcd ⟨h1, h2⟩]; exact .inr ⟨rfl, Nat.lt_succ_self _⟩
    · rw [if_neg h1]; exact .inl (Nat.lt_succ_self _)
  have hrest : ev T0 μ (.idx (.idx (.var "best") (.ite (.cmp .Eq (.var "left") (.const (.str [42]))) (.var "i") (.bin .Add (.var "i") (.const (.int 1))))) (.ite (.cmp .Eq (.var "right") (.const (.str [42]))) (.var "j") (.bin .Add (.var "j") (.const (.int 1))))) (envOf (eU one two D i j (some c) (some d) u)) = some (encW (B i1 j1)) := by
    rw [grid_get (i' := i1) (j' := j1) hW.hg rfl ?_ ?_ hi hj, cell_done hdone]
    · refine ev_ite_of (t := [c] == [42]) rfl ?_
      rw [hst, ei]
      by_cases h : c = 42
      · rw [decide_eq_true h, if_pos h]; rfl
      · rw [decide_eq_false h, if_neg h]; rfl
    · refine ev_ite_of (t := [d] == [42]) rfl ?_
      rw [hst, ej]
      by_cases h : d = 42
      · rw [decide_eq_true h, if_pos h]; rfl
      · rw [decide_eq_false h, if_neg h]; rfl
  refine sat_cons (sat_assign (T := T0) (encW (B i1 j1)) hC t0ok (.inl rfl) hrest ?_)
  refine sat_env (("rest", encW (B i1 j1)) :: eU one two D i j (some c) (some d) u) ⟨rfl, rfl, rfl, rfl, rfl, rfl, rfl, rfl, rfl, trivial⟩ ?_
  have hbare : ev T0 μ (.comp1 (.var "sign") (.one "sign") (.tup [(.var "left"), (.var "right")]) [(.cmp .NotIn (.var "sign") (.tup [(.const (.str [42])), (.const (.str [46]))]))] []) (envOf (("rest", encW (B i1 j1)) :: eU one two D i j (some c) (some d) u)) = some (.lst ((bareW c d).map oneS)) := by
    refine ev_comp_fin (x := .tup [.str [c], .str [d]]) (items := [.str [c], .str [d]]) (ev_tup_of (evs_more (x := .str [c]) rfl (evs_one (x := .str [d]) rfl)) (show 2 ≤ SZ by decide)) rfl ?_ ?_ (show 2 ≤ SZ by decide)
    · have one1 : ∀ x : Nat, compF T0 μ (.var "sign") (.one "sign") [(.cmp .NotIn (.var "sign") (.tup [(.const (.str [42])), (.const (.str [46]))]))] [] (envOf (("rest", encW (B i1 j1)) :: eU one two D i j (some c) (some d) u)) (.str [x]) = some (if (x != 42 && x != 46) = true then [oneS x] else []) := by
        intro x
        have h2 : evAll T0 μ [(.cmp .NotIn (.var "sign") (.tup [(.const (.str [42])), (.const (.str [46]))]))] (upd (restr [] (envOf (("rest", encW (B i1 j1)) :: eU one two D i j (some c) (some d) u))) "sign" (.str [x])) = some (x != 42 && x != 46) := by
          have h3 : ev T0 μ (.cmp .NotIn (.var "sign") (.tup [(.const (.str [42])), (.const (.str [46]))])) (upd (restr [] (envOf (("rest", encW (B i1 j1)) :: eU one two D i j (some c) (some d) u))) "sign" (.str [x])) = some (.bool (x != 42 && x != 46)) := by
            rw [ev_cmp_of (x := .str [x]) (y := .tup [.str [42], .str [46]]) rfl rfl]
            show some (PV.bool (!(([42] == [x]) || (([46] == [x]) || false)))) = _
            have s1 : ∀ a b : Nat, (([a] : List Nat) == [b]) = (b == a) := fun a b => by
              show (a == b && true) = _
              rw [Bool.and_true, Bool.eq_iff_iff, beq_iff_eq, beq_iff_eq, eq_comm]
            rw [s1, s1, Bool.or_false, Bool.not_or]; rfl
          show (match ev T0 μ (.cmp .NotIn (.var "sign") (.tup [(.const (.str [42])), (.const (.str [46]))])) (upd (restr [] (envOf (("rest", encW (B i1 j1)) :: eU one two D i j (some c) (some d) u))) "sign" (.str [x])) with
            | some x => match truth x with
              | some true => evAll T0 μ [] _
              | some false => some false
              | none => none
            | none => none) = _
          rw [h3]
          cases (x != 42 && x != 46) <;> rfl
        show (match evAll T0 μ [(.cmp .NotIn (.var "sign") (.tup [(.const (.str [42])), (.const (.str [46]))]))] (upd (restr [] (envOf (("rest", encW (B i1 j1)) :: eU one two D i j (some c) (some d) u))) "sign" (.str [x])) with
          | some true => (ev T0 μ (.var "sign") (upd (restr [] (envOf (("rest", encW (B i1 j1)) :: eU one two D i j (some c) (some d) u))) "sign" (.str [x]))).map fun y => [y]
          | some false => some []
          | none => none) = _
        rw [h2]
        cases (x != 42 && x != 46) <;> rfl
      rw [compRun_of (F := fun q => match q with | .str [x] => if (x != 42 && x != 46) = true then [oneS x] else [] | _ => []) fun q hq => by
        rcases List.mem_cons.mp hq with rfl | hq
        · exact one1 c
        · rw [List.mem_singleton.mp hq]; exact one1 d]
      show some ((if (c != 42 && c != 46) = true then [oneS c] else []) ++ ((if (d != 42 && d != 46) = true then [oneS d] else []) ++ [])) = some ((List.filter (fun s => s != 42 && s != 46) [c, d]).map oneS)
      rw [List.filter_cons, List.filter_cons]
      cases (c != 42 && c != 46) <;> cases (d != 42 && d != 46) <;> rfl
    · rw [List.length_map]
      have : (bareW c d).length ≤ 2 := List.length_filter_le _ _
      simp only [SZ]; lia
  refine sat_cons (sat_assign (T := T0) (.lst ((bareW c d).map oneS)) hC t0ok (.inl rfl) hbare ?_)
  refine sat_env (("bare", .lst ((bareW c d).map oneS)) :: ("rest", encW (B i1 j1)) :: eU one two D i j (some c) (some d) u) ⟨rfl, rfl, rfl, rfl, rfl, rfl, rfl, rfl, rfl, rfl, trivial⟩ ?_
  have hb2 : (bareW c d).length ≤ 2 := List.length_filter_le _ _
  have hnot : ev T0 μ (.cmp .IsNot (.var "rest") (.const .none)) (envOf (("bare", .lst ((bareW c d).map oneS)) :: ("rest", encW (B i1 j1)) :: eU one two D i j (some c) (some d) u)) = some (.bool !(B i1 j1).isNone) := by
    rw [ev_cmp_of (x := encW (B i1 j1)) (y := .none) rfl rfl]
    show (pvis (encW (B i1 j1)) .none).map (fun x => PV.bool !x) = _
    rw [vis_encW]; rfl
  have back : ∀ μ', WsS D rs B m i j none u (ws ++ putW (some c) (some d) (B i1 j1)) μ' → SatM prog w C lv nShared ms (envOf (("bare", .lst ((bareW c d).map oneS)) :: ("rest", encW (B i1 j1)) :: eU one two D i j (some c) (some d) u)) μ' R :=
    fun μ' h => sat_env (eU one two D i j (some c) (some d) u) ⟨rfl, rfl, rfl, rfl, rfl, rfl, rfl, rfl, trivial⟩ (k μ' h)
  generalize hx : B i1 j1 = x at hnot back
  cases x with
  | none =>
    refine sat_cons (sat_if (T := T0) (x := .bool false) false hC t0ok (ev_and_of (p := false) (q := false) hnot fun h => (nomatch h)) rfl (sat_nil (sat_nil (back μ ?_))))
    rw [show putW (some c) (some d) none = [] from rfl, List.append_nil]; exact hW
  | some v =>
    have hlen : ev T0 μ (.cmp .Lt (.call "len" [(.var "bare")]) (.const (.int 2))) (envOf (("bare", .lst ((bareW c d).map oneS)) :: ("rest", encW (some v)) :: eU one two D i j (some c) (some d) u)) = some (.bool (decide ((bareW c d).length < 2))) := by
      rw [ev_cmp_of (x := .int (((bareW c d).map oneS).length : Nat)) (y := .int (2 : Nat)) (ev_len_of (a := .var "bare") (x := .lst ((bareW c d).map oneS)) rfl rfl) rfl, List.length_map]
      exact congrArg (fun b => some (PV.bool b)) (dec_lt _ 2)
    have heq : ev T0 μ (.cmp .Eq (.var "left") (.var "right")) (envOf (("bare", .lst ((bareW c d).map oneS)) :: ("rest", encW (some v)) :: eU one two D i j (some c) (some d) u)) = some (.bool ([c] == [d])) := (ev_cmp_of (x := .str [c]) (y := .str [d]) rfl rfl).trans rfl
    have hcnd := ev_and_of (p := true) hnot fun _ => ev_or_of hlen fun _ => heq
    refine sat_cons (sat_if (T := T0) (x := .bool (true && (decide ((bareW c d).length < 2) || ([c] == [d])))) (decide ((bareW c d).length < 2) || ([c] == [d])) hC t0ok hcnd rfl ?_)
    by_cases h : (bareW c d).length < 2 ∨ c = d
    · have e1 : (decide ((bareW c d).length < 2) || ([c] == [d])) = true := by
        rcases h with h | h
        · rw [decide_eq_true h]; rfl
        · rw [h]; simp
      rw [e1]
      have hput : putW (some c) (some d) (some v) = [some ((bareW c d ++ [46]).headD 0 :: v)] := if_pos h
      rw [hput] at back
      refine way_put hC rfl hW (x := some ((bareW c d ++ [46]).headD 0 :: v)) ?_ hl fun μ' h => sat_nil (sat_nil (back μ' h))
      have a1 : ev T0 μ (.bin .Add (.var "bare") (.lst [(.const (.str [46]))])) (envOf (("bare", .lst ((bareW c d).map oneS)) :: ("rest", encW (some v)) :: eU one two D i j (some c) (some d) u)) = some (.lst ((bareW c d ++ [46]).map oneS)) := by
        rw [ev_bin_of (x := .lst ((bareW c d).map oneS)) (y := .lst [.str [46]]) rfl rfl, List.map_append]
        exact if_pos (e := none) (show ((bareW c d).map oneS).length + 1 ≤ SZ by rw [List.length_map]; simp only [SZ]; lia)
      have a2 : ev T0 μ (.idx (.bin .Add (.var "bare") (.lst [(.const (.str [46]))])) (.const (.int 0))) (envOf (("bare", .lst ((bareW c d).map oneS)) :: ("rest", encW (some v)) :: eU one two D i j (some c) (some d) u)) = some (.str [(bareW c d ++ [46]).headD 0]) := by
        rw [ev_idx_of (y := .int 0) a1 rfl]
        show getI ((bareW c d ++ [46]).map oneS) ((0 : Nat) : Int) = _
        rw [getI_at]
        cases bareW c d <;> rfl
      rw [ev_bin_of (y := .str v) a2 rfl]
      have hv := hB v hx
      exact if_pos (e := none) (show 1 + v.length ≤ SZ by simp only [SZ]; lia)
    · have e1 : (decide ((bareW c d).length < 2) || ([c] == [d])) = false := by
        rw [decide_eq_false fun q => h (.inl q), Bool.false_or, beq_eq_false_iff_ne]
        exact fun q => h (.inr (List.cons.inj q).1)
      rw [e1]
      refine sat_nil (sat_nil (back μ ?_))
      rw [show putW (some c) (some d) (some v) = [] from if_neg h, List.append_nil]; exact hW
end
end Mine
end

section
open PySem PySem.W PyProof.Rows PySem.SeqAt
set_option linter.unusedVariables false
set_option maxRecDepth 10000
namespace Mine
section
variable {T : Str → List PV → Option PV} {μ : Mu} {ρ : Rho} {a lo hi st : MExpr}
theorem ev_slc_of {x l h k : PV} (h1 : ev T μ a ρ = some x) (h2 : ev T μ lo ρ = some l) (h3 : ev T μ hi ρ = some h) (h4 : ev T μ st ρ = some k) : ev T μ (.slc a lo hi st) ρ = evSlc μ x l h k := by
  show (match ev T μ a ρ, ev T μ lo ρ, ev T μ hi ρ, ev T μ st ρ with
    | some x, some l, some h, some k => evSlc μ x l h k
    | _, _, _, _ => none) = _
  rw [h1, h2, h3, h4]
end
section
variable {prog : Program} {w : World} {C : Cx} {lv : Nat} {R : CPost} {D u : Addr} {rs : List Addr} {B : Nat → Nat → Option (List Nat)} {m i j : Nat} {ws : List (Option (List Nat))} {μ : Mu} {ρ : Rho} {one two : List Nat}
theorem putq_sat (hC : CxOk C) {l r : Option Nat} {ms : List MStmt} (hi : l ≠ none → i + 1 < rs.length) (hi0 : i < rs.length) (hj : r ≠ none → j + 1 < m) (hj0 : j < m) (hB : ∀ i j v, B i j = some v → v.length ≤ 1000) (hW : WsS D rs B m i j none u ws μ) (hl : ws.length ≤ 10)
    (k : ∀ μ', WsS D rs B m i j none u (ws ++ if l = some 42 ∧ r = some 42 then [] else putW l r (restW l r (B (i + 1) j) (B i (j + 1)) (B (i + 1) (j + 1)))) μ' → SatM prog w C lv nShared ms (envOf (eU one two D i j l r u)) μ' R) :
    SatM prog w C lv nShared (.if_ (.and (.cmp .NotEq (.var "left") (.const (.str []))) (.and (.cmp .NotEq (.var "right") (.const (.str []))) (.or (.cmp .NotEq (.var "left") (.const (.str [42]))) (.cmp .NotEq (.var "right") (.const (.str [42])))))) bPutW [] :: ms) (envOf (eU one two D i j l r u)) μ R := by
  cases l with
  | none =>
    refine sat_cons (sat_if (T := T0) (x := .bool false) false hC t0ok (ev_and_of (p := false) (q := false) rfl fun h => (nomatch h)) rfl (sat_nil (k μ ?_)))
    rw [if_neg (fun q => by cases q.1), putW_l, List.append_nil]; exact hW
  | some c => cases r with
    | none =>
      refine sat_cons (sat_if (T := T0) (x := .bool false) false hC t0ok (ev_and_of (p := true) (q := false) rfl fun h => ev_and_of (p := false) (q := false) rfl fun h => (nomatch h)) rfl (sat_nil (k μ ?_)))
      rw [if_neg (fun q => by cases q.2), putW_r, List.append_nil]; exact hW
    | some d =>
      have hi := hi nofun
      have hj := hj nofun
      by_cases hcd : c = 42 ∧ d = 42
      · obtain ⟨rfl, rfl⟩ := hcd
        refine sat_cons (sat_if (T := T0) (x := .bool false) false hC t0ok (ev_and_of (p := true) (q := false) rfl fun h => ev_and_of (p := true) (q := false) rfl fun h => ev_or_of (p := false) (q := false) rfl fun _ => rfl) rfl (sat_nil (k μ ?_)))
        rw [if_pos ⟨rfl, rfl⟩, List.append_nil]; exact hW
      · refine putw_sat hC (i1 := if c = 42 then i else i + 1) (j1 := if d = 42 then j else j + 1) hcd rfl rfl (by split <;> lia) (by split <;> lia) (hB _ _) hW hl fun μ' h => k μ' ?_
        rw [if_neg (fun q => hcd ⟨Option.some.inj q.1, Option.some.inj q.2⟩)]
        have e : restW (some c) (some d) (B (i + 1) j) (B i (j + 1)) (B (i + 1) (j + 1)) = B (if c = 42 then i else i + 1) (if d = 42 then j else j + 1) := by
          unfold restW
          by_cases h1 : c = 42
          · rw [if_pos (congrArg some h1), if_pos h1, if_neg fun h2 => hcd ⟨h1, h2⟩]
          · rw [if_neg fun q => h1 (Option.some.inj q), if_neg h1]
            by_cases h2 : d = 42
            · rw [if_pos (congrArg some h2), if_pos h2]
            · rw [if_neg fun q => h2 (Option.some.inj q), if_neg h2]
        rw [e]; exact h
/-- the table's law -/
noncomputable def bShr (one two : List Nat) (i j : Nat) : Option (List Nat) := sh (one.drop i) (two.drop j)
theorem head_lt {xs : List Nat} {k : Nat} (h : (xs.drop k).head? ≠ none) : k < xs.length := by
  rcases Nat.lt_or_ge k xs.length with h' | h'
  · exact h'
  · rw [List.drop_eq_nil_iff.mpr h'] at h; exact absurd rfl h
/-- one cell is filled in -/
theorem cell_sat (hC : CxOk C) (hd : D ∉ rs) (hn : rs.Nodup) (hrs : rs.length = one.length + 1) (hi : i ≤ one.length) (hj : j ≤ two.length) (h1 : one.length ≤ 100) (h2 : two.length ≤ 100) (hG : GridS D rs (bShr one two) (two.length + 1) i j none μ)
    (hR : ∀ ρ μ', AllIn (eC one two D i j) ρ → GridS D rs (bShr one two) (two.length + 1) i j (bShr one two i j) μ' → R .next ρ μ') : SatM prog w C lv nShared bCell (envOf (eC one two D i j)) μ R := by
  have hB : ∀ i j v, bShr one two i j = some v → v.length ≤ 1000 := fun i j v h => by
    have := sh_len 200 _ _ v (by rw [List.length_drop, List.length_drop]; lia) h
    lia
  have cut : ∀ (xs : List Nat) (k : Nat), some (PV.str (sl xs (some (k : Int)) (some ((k : Int) + ((1 : Nat) : Int))))) = some (PV.str (sT (xs.drop k).head?)) := fun xs k => by rw [sl_mid, take_sT]
  refine sat_cons (sat_assign (T := T0) (.str (sT (one.drop i).head?)) hC t0ok (.inl rfl) ((ev_slc_of (x := .str one) (l := .int i) (h := .int ((i : Int) + ((1 : Nat) : Int))) (k := .none) rfl rfl rfl rfl).trans (cut one i)) ?_)
  refine sat_cons (sat_assign (T := T0) (.str (sT (two.drop j).head?)) hC t0ok (.inl rfl) ((ev_slc_of (x := .str two) (l := .int j) (h := .int ((j : Int) + ((1 : Nat) : Int))) (k := .none) rfl rfl rfl rfl).trans (cut two j)) ?_)
  refine sat_cons (sat_own (T := T0) [] hC t0ok (.inl rfl) rfl (by decide) fun u hu => ?_)
  obtain ⟨hu1, hu2⟩ := grid_new hG hu
  have hW : WsS D rs (bShr one two) (two.length + 1) i j none u [] (muSet μ u []) := ⟨grid_keep hG hu1 hu2, muSet_same, hu1, hu2⟩
  generalize muSet μ u [] = μ0 at hW
  have hstep : bShr one two i j = stepW (one.drop i).head? (two.drop j).head? (bShr one two (i + 1) j) (bShr one two i (j + 1)) (bShr one two (i + 1) (j + 1)) := by
    unfold bShr
    rw [sh_step, List.tail_drop, List.tail_drop]
  have hl1 : (one.drop i).head? ≠ none → i < one.length := head_lt
  have hr1 : (two.drop j).head? ≠ none → j < two.length := head_lt
  generalize (one.drop i).head? = l at hstep hl1
  generalize (two.drop j).head? = r at hstep hr1
  refine sat_env (eU one two D i j l r u) ⟨rfl, rfl, rfl, rfl, rfl, rfl, rfl, rfl, trivial⟩ ?_
  refine way_if hC (x := some []) rfl hW (ev_and_of (p := sT l == []) (q := sT r == []) rfl fun _ => rfl) (fun _ => rfl) (Nat.zero_le _) fun μ1 hW => ?_
  have p1 : (if (sT l == [] && sT r == []) = true then [some ([] : List Nat)] else []) = if l = none ∧ r = none then [some []] else [] := by
    rw [s_nil, s_nil]
    cases l <;> cases r <;> rfl
  rw [p1, List.nil_append] at hW
  have l1 : (if l = none ∧ r = none then [some ([] : List Nat)] else []).length ≤ 1 := by split <;> simp
  generalize hw1 : (if l = none ∧ r = none then [some ([] : List Nat)] else []) = w1 at hW l1
  refine way_if hC (x := bShr one two (i + 1) j) rfl hW (b := sT l == [42]) rfl (fun hb => ?_) (by lia) fun μ2 hW => ?_
  · rw [s_star] at hb
    have hb := of_decide_eq_true hb
    have := hl1 (by rw [hb]; nofun)
    rw [grid_get (i' := i + 1) (j' := j) hW.hg rfl rfl rfl (by lia) (by lia), cell_done (.inl (Nat.lt_succ_self _))]
  have p2 : (if (sT l == [42]) = true then [bShr one two (i + 1) j] else []) = if l = some 42 then [bShr one two (i + 1) j] else [] := by
    rw [s_star]
    by_cases h : l = some 42
    · rw [if_pos h, decide_eq_true h]; rfl
    · rw [if_neg h, decide_eq_false h]; rfl
  rw [p2] at hW
  have l2 : (if l = some 42 then [bShr one two (i + 1) j] else []).length ≤ 1 := by split <;> simp
  generalize hw2 : (if l = some 42 then [bShr one two (i + 1) j] else []) = w2 at hW l2
  refine way_if hC (x := bShr one two i (j + 1)) rfl hW (b := sT r == [42]) rfl (fun hb => ?_) (by rw [List.length_append]; lia) fun μ3 hW => ?_
  · rw [s_star] at hb
    have hb := of_decide_eq_true hb
    have := hr1 (by rw [hb]; nofun)
    rw [grid_get (i' := i) (j' := j + 1) hW.hg rfl rfl rfl (by lia) (by lia), cell_done (.inr ⟨rfl, Nat.lt_succ_self _⟩)]
  have p3 : (if (sT r == [42]) = true then [bShr one two i (j + 1)] else []) = if r = some 42 then [bShr one two i (j + 1)] else [] := by
    rw [s_star]
    by_cases h : r = some 42
    · rw [if_pos h, decide_eq_true h]; rfl
    · rw [if_neg h, decide_eq_false h]; rfl
  rw [p3] at hW
  have l3 : (if r = some 42 then [bShr one two i (j + 1)] else []).length ≤ 1 := by split <;> simp
  generalize hw3 : (if r = some 42 then [bShr one two i (j + 1)] else []) = w3 at hW l3
  refine putq_sat hC (fun h => by have := hl1 h; lia) (by lia) (fun h => by have := hr1 h; lia) (by lia) hB hW (by rw [List.length_append, List.length_append]; lia) fun μ4 hW => ?_
  refine ways_sat hC hd hn (by lia) (by lia) (by lia) hW rfl ⟨rfl, rfl, rfl, rfl, rfl, trivial⟩ fun ρ μ' hρ hg => hR ρ μ' hρ ?_
  have e : bShr one two i j = (w1 ++ w2 ++ w3 ++ if l = some 42 ∧ r = some 42 then [] else putW l r (restW l r (bShr one two (i + 1) j) (bShr one two i (j + 1)) (bShr one two (i + 1) (j + 1)))).foldl pickW none := by
    rw [hstep]
    unfold stepW waysW
    rw [hw1, hw2, hw3, List.append_assoc, List.append_assoc]
  rw [e]; exact hg
end
end Mine
end

section
open PySem PySem.W PyProof.Rows PySem.SeqAt
set_option linter.unusedVariables false
set_option maxRecDepth 10000
namespace Mine
noncomputable def downs : Nat → List PV
  | 0 => []
  | n + 1 => .int (n : Nat) :: downs n
theorem ints_down : ∀ n : Nat, intsFrom n (n + 1) (-1) = downs (n + 1)
  | 0 => rfl
  | n + 1 => by
    have ih := ints_down n
    unfold intsFrom at ih ⊢
    rw [List.range_succ_eq_map, List.map_cons, List.map_map, downs, ← ih]
    congr 1
    refine List.map_congr_left fun i _ => ?_
    show PV.int (((n + 1 : Nat) : Int) + ((i + 1 : Nat) : Int) * (-1)) = PV.int ((n : Int) + (i : Int) * (-1))
    congr 1; lia
noncomputable def bRows : List MStmt := [
    .for_ (.one "j") (.call "range" [(.call "len" [(.var "two")]), (.neg (.const (.int 1))), (.neg (.const (.int 1)))]) bCell]
noncomputable def bShared : List MStmt := [
  .assign "best" (.comp1 (.comp1 (.const .none) (.one "sign") (.bin .Add (.var "two") (.const (.str [32]))) [] []) (.one "sign") (.bin .Add (.var "one") (.const (.str [32]))) [] ["two"]),
  .for_ (.one "i") (.call "range" [(.call "len" [(.var "one")]), (.neg (.const (.int 1))), (.neg (.const (.int 1)))]) bRows,
  .ret (.idx (.idx (.var "best") (.const (.int 0))) (.const (.int 0)))]
noncomputable def eR (one two : List Nat) (D : Addr) (i : Nat) : List (Str × PV) := [("one", .str one), ("two", .str two), ("best", .own D), ("i", .int i)]
noncomputable def eB (one two : List Nat) (D : Addr) : List (Str × PV) := [("one", .str one), ("two", .str two), ("best", .own D)]
/-- the table, k cells of the row ahead -/
noncomputable def GridJ (D : Addr) (rs : List Addr) (one two : List Nat) (i : Nat) : Nat → Mu → Prop
  | 0, μ => GridS D rs (bShr one two) (two.length + 1) i 0 (bShr one two i 0) μ
  | j + 1, μ => GridS D rs (bShr one two) (two.length + 1) i j none μ
/-- the table, k rows ahead -/
noncomputable def GridI (D : Addr) (rs : List Addr) (one two : List Nat) : Nat → Mu → Prop
  | 0, μ => GridS D rs (bShr one two) (two.length + 1) 0 0 (bShr one two 0 0) μ
  | i + 1, μ => GridS D rs (bShr one two) (two.length + 1) i two.length none μ
section
variable {prog : Program} {w : World} {C : Cx} {lv : Nat} {R : CPost} {D u : Addr} {rs : List Addr} {i j : Nat} {μ : Mu} {ρ : Rho} {one two : List Nat}
theorem down_ev {x : Str} {xs : List Nat} (h : ρ x = some (.str xs)) (hl : xs.length ≤ 100) : ev T0 μ (.call "range" [(.call "len" [(.var x)]), (.neg (.const (.int 1))), (.neg (.const (.int 1)))]) ρ = some (.rng xs.length (xs.length + 1) (-1)) := by
  have ln : ev T0 μ (.call "len" [(.var x)]) ρ = some (.int (xs.length : Nat)) := ev_len_of (a := .var x) (x := .str xs) h rfl
  refine (ev_bi_of (evs_more ln (evs_more (x := .int (-1)) rfl (evs_one (x := .int (-1)) rfl))) (by decide)).trans ?_
  show (if ((xs.length : Int)).natAbs < 2 ^ 60 ∧ (-1 : Int).natAbs < 2 ^ 60 ∧ (-1 : Int) = -1 then some (PV.rng xs.length ((xs.length : Int) - (-1)).toNat (-1)) else none) = _
  rw [if_pos ⟨by lia, by decide, rfl⟩, show ((xs.length : Int) - (-1)).toNat = xs.length + 1 by lia]
theorem rows_sat (hC : CxOk C) (hd : D ∉ rs) (hn : rs.Nodup) (hrs : rs.length = one.length + 1) (hi : i ≤ one.length) (h1 : one.length ≤ 100) (h2 : two.length ≤ 100) (hG : GridS D rs (bShr one two) (two.length + 1) i two.length none μ)
    (hR : ∀ ρ μ', AllIn (eR one two D i) ρ → GridS D rs (bShr one two) (two.length + 1) i 0 (bShr one two i 0) μ' → R .next ρ μ') : SatM prog w C lv nShared bRows (envOf (eR one two D i)) μ R := by
  refine sat_cons (sat_for (T := T0) (x := .rng two.length (two.length + 1) (-1)) (downs (two.length + 1)) hC t0ok (down_ev rfl h2) rfl (congrArg some (ints_down _)) (own_one (.inl rfl)) ?_)
  refine for_inv (fun items ρ μ => ∃ k, items = downs k ∧ k ≤ two.length + 1 ∧ AllIn (eR one two D i) ρ ∧ GridJ D rs one two i k μ) ?_ ?_ _ _ _ ⟨two.length + 1, rfl, Nat.le_refl _, ⟨rfl, rfl, rfl, rfl, trivial⟩, hG⟩
  · rintro ρ μ ⟨k, hk, _, hρ, hg⟩
    cases k with
    | succ k => cases hk
    | zero => exact sat_nil (hR ρ μ hρ hg)
  · rintro q its ρ μ ⟨k, hk, hkl, hρ, hg⟩
    cases k with
    | zero => cases hk
    | succ j =>
    injection hk with e1 e2
    subst e1; subst e2
    obtain ⟨k1, k2, k3, k4, _⟩ := hρ
    refine ⟨_, rfl, ?_⟩
    refine sat_env (eC one two D i j) ⟨k1, k2, k3, k4, rfl, trivial⟩ ?_
    refine cell_sat hC hd hn hrs hi (by lia) h1 h2 hg fun ρ μ' hρ hg => ?_
    obtain ⟨k1, k2, k3, k4, _⟩ := hρ
    refine ⟨j, rfl, by lia, ⟨k1, k2, k3, k4, trivial⟩, ?_⟩
    cases j with
    | zero => exact hg
    | succ j => exact grid_left hg
/-- the function answers what the table tells -/
theorem shared_sat (hC : CxOk C) (h1 : one.length ≤ 100) (h2 : two.length ≤ 100) : SatM prog w C lv nShared bShared (upd (upd (fun _ => none) "one" (.str one)) "two" (.str two)) (fun _ => none) (Ret (encW (sh one two))) := by
  refine sat_env [("one", .str one), ("two", .str two)] ⟨rfl, rfl, trivial⟩ ?_
  have add1 : ∀ xs : List Nat, xs.length ≤ 100 → (if xs.length + 1 ≤ SZ then some (PV.str (xs ++ [32])) else none) = some (PV.str (xs ++ [32])) := fun xs h => if_pos (by simp only [SZ]; lia)
  have hone : ev T0 (fun _ => none) (.bin .Add (.var "one") (.const (.str [32]))) (envOf [("one", .str one), ("two", .str two)]) = some (.str (one ++ [32])) := (ev_bin_of (x := .str one) (y := .str [32]) rfl rfl).trans (add1 one h1)
  refine sat_cons (sat_grid (T := T0) (m := two.length + 1) hC t0ok (.inl rfl) hone (items := (one ++ [32]).map fun c => PV.str [c]) rfl (by rw [List.length_map, List.length_append, List.length_singleton]; simp only [SZ]; lia) (by simp only [SZ]; lia) ⟨_, _, _, _, _, rfl⟩ (fun q hq => ?_) fun D rs hD hl hn hrs => ?_)
  · have htwo : ev T0 (fun _ => none) (.bin .Add (.var "two") (.const (.str [32]))) (upd (restr ["two"] (envOf [("one", .str one), ("two", .str two)])) "sign" q) = some (.str (two ++ [32])) := (ev_bin_of (x := .str two) (y := .str [32]) rfl rfl).trans (add1 two h2)
    rw [ev_map (x := .str (two ++ [32])) (items := (two ++ [32]).map fun c => PV.str [c]) (fun _ => .none) htwo rfl (fun q hq => rfl) (by rw [List.length_map, List.length_append, List.length_singleton]; simp only [SZ]; lia)]
    rw [List.map_const', List.length_map, List.length_append]; rfl
  rw [List.length_map, List.length_append] at hl
  have hl : rs.length = one.length + 1 := hl
  have hd : D ∉ rs := fun h => (hrs D h).2 rfl
  have hG : GridS D rs (bShr one two) (two.length + 1) one.length two.length none (muGrid (fun _ => none) D rs (two.length + 1)) := grid_start hd (Nat.succ_pos _) hl
  generalize muGrid (fun _ => none) D rs (two.length + 1) = μ0 at hG
  refine sat_env (eB one two D) ⟨rfl, rfl, rfl, trivial⟩ ?_
  refine sat_cons (sat_for (T := T0) (x := .rng one.length (one.length + 1) (-1)) (downs (one.length + 1)) hC t0ok (down_ev rfl h1) rfl (congrArg some (ints_down _)) (own_one (.inl rfl)) ?_)
  refine for_inv (fun items ρ μ => ∃ k, items = downs k ∧ k ≤ one.length + 1 ∧ AllIn (eB one two D) ρ ∧ GridI D rs one two k μ) ?_ ?_ _ _ _ ⟨one.length + 1, rfl, Nat.le_refl _, ⟨rfl, rfl, rfl, trivial⟩, hG⟩
  · rintro ρ μ ⟨k, hk, _, hρ, hg⟩
    cases k with
    | succ k => cases hk
    | zero =>
      obtain ⟨k1, k2, k3, _⟩ := hρ
      refine sat_cons (sat_ret (T := T0) (encW (sh one two)) hC t0ok ?_ ⟨_, rfl, by cases sh one two <;> rfl⟩)
      rw [grid_get (i' := 0) (j' := 0) hg k3 rfl rfl (by lia) (Nat.succ_pos _), cell_here]; rfl
  · rintro q its ρ μ ⟨k, hk, hkl, hρ, hg⟩
    cases k with
    | zero => cases hk
    | succ i =>
    injection hk with e1 e2
    subst e1; subst e2
    obtain ⟨k1, k2, k3, _⟩ := hρ
    refine ⟨_, rfl, ?_⟩
    refine sat_env (eR one two D i) ⟨k1, k2, k3, rfl, trivial⟩ ?_
    refine rows_sat hC hd hn hl (by lia) h1 h2 hg fun ρ μ' hρ hg => ?_
    obtain ⟨k1, k2, k3, _⟩ := hρ
    refine ⟨i, rfl, by lia, ⟨k1, k2, k3, trivial⟩, ?_⟩
    cases i with
    | zero => exact hg
    | succ i => exact grid_up hg (Nat.succ_pos _)
noncomputable def tShared : List PV → Option PV := arg2 fun a b => with1 (asStr a) fun one => with1 (asStr b) fun two => when (one.length ≤ 100 ∧ two.length ≤ 100) (some (encW (sh one two)))
theorem shared_ok (hC : CxOk C) (F : ∃ sc body, FnAt C "_law_shared" ["one", "two"] sc body ∧ sc.names = nShared ∧ trSs nShared body = bShared) {args : List PV} {r : PV} (h : tShared args = some r) : args ≠ [] ∧ FnOk prog w C (lv + 1) "_law_shared" args r := by
  obtain ⟨a, b, rfl, h⟩ := arg2_inv h
  obtain ⟨one, h1, h⟩ := with1_inv h
  obtain ⟨two, h2, h⟩ := with1_inv h
  obtain ⟨hw, h⟩ := when_inv h
  cases Option.some.inj h
  cases asStr_inv h1; cases asStr_inv h2
  obtain ⟨sc, body, fa, hn, hb⟩ := F
  refine ⟨List.cons_ne_nil _ _, .user (fn_call hC fa rfl ?_)⟩
  rw [hn, hb]
  exact shared_sat hC hw.1 hw.2
theorem tShared_eq {one two : List Nat} (h1 : one.length ≤ 100) (h2 : two.length ≤ 100) : tShared [.str one, .str two] = some (encW (sh one two)) := when_pos ⟨h1, h2⟩
end
end Mine
end

section
open PySem PySem.W PyProof.Rows PySem.SeqAt
set_option linter.unusedVariables false
set_option maxRecDepth 10000
namespace Mine
noncomputable def nLaw5 : Names := [("script", .local), ("plain", .local), ("x", .local), ("k", .local), ("sign", .local), ("star", .cell), ("texts", .cell), ("least", .local), ("names", .local), ("size", .local), ("range", .globalImplicit), ("object", .globalImplicit), ("_law_shared", .globalImplicit), ("_law_takes", .globalImplicit), ("len", .globalImplicit)]
noncomputable def bPut5 : List MStmt := [
      .assign "sign" (.idx (.idx (.lst [(.const (.str [42, 97, 98, 46, 32, 32, 32, 32, 42, 97, 98])), (.const (.str [32, 32, 32, 32, 42, 97, 98, 46, 42, 97, 98]))]) (.var "k")) (.bin .Mod (.var "x") (.const (.int 11)))),
      .if_ (.and (.cmp .NotEq (.var "sign") (.const (.str [32]))) (.or (.cmp .NotEq (.var "sign") (.const (.str [42]))) (.cmp .NotEq (.slc (.idx (.var "plain") (.var "k")) (.neg (.const (.int 1))) (.const .none) (.const .none)) (.const (.str [42]))))) [
        .setIdx (.var "plain") (.var "k") (.bin .Add (.idx (.var "plain") (.var "k")) (.var "sign"))] []]
noncomputable def eBld (v : Addr) (x : Int) : List (Str × PV) := [("plain", .own v), ("x", .int x)]
noncomputable def ePl (v : Addr) : List (Str × PV) := [("plain", .own v)]
section
variable {prog : Program} {w : World} {C : Cx} {lv : Nat} {R : CPost} {μ : Mu}
/-- one row takes its sign -/
theorem put5_sat (hC : CxOk C) {v : Addr} {x : Int} {rows : List (List Nat)} {k : Nat} {row : List Nat} (hk2 : k < 2) (hμ2 : μ v = some (rows.map .str)) (hrow : rows[k]? = some row) (hl : row.length + 1 ≤ 2 ^ 20)
    (hR : ∀ ρ μ', AllIn (eBld v x) ρ → μ' v = some ((rows.set k (put5 row (sgn5 k x))).map .str) → R .next ρ μ') :
    SatM prog w C lv nLaw5 bPut5 (envOf (("k", .int k) :: eBld v x)) μ R := by
  have hk : k < rows.length := (List.getElem?_eq_some_iff.mp hrow).1
  have hsign : ev T0 μ (.idx (.idx (.lst [(.const (.str [42, 97, 98, 46, 32, 32, 32, 32, 42, 97, 98])), (.const (.str [32, 32, 32, 32, 42, 97, 98, 46, 42, 97, 98]))]) (.var "k")) (.bin .Mod (.var "x") (.const (.int 11)))) (envOf (("k", .int k) :: eBld v x)) = some (.str [sgn5 k x]) := by
    have h1 : ev T0 μ (.idx (.lst [(.const (.str [42, 97, 98, 46, 32, 32, 32, 32, 42, 97, 98])), (.const (.str [32, 32, 32, 32, 42, 97, 98, 46, 42, 97, 98]))]) (.var "k")) (envOf (("k", .int k) :: eBld v x)) = some (.str (tab5 k)) := by
      rw [ev_idx_of (x := .lst [.str (tab5 0), .str (tab5 1)]) (y := .int k) rfl rfl]
      show getI [PV.str (tab5 0), .str (tab5 1)] (k : Int) = _
      rw [getI_at]
      rcases k with _ | _ | k
      · rfl
      · rfl
      · lia
    rw [ev_idx_of (y := .int (x % 11)) h1 rfl]
    show (getI (tab5 k) (x % 11)).map (fun c => PV.str [c]) = _
    unfold getI
    rw [if_pos (Int.emod_nonneg _ (by decide)), sgn5_at]; rfl
  refine sat_cons (sat_assign (T := T0) (.str [sgn5 k x]) hC t0ok (.inl rfl) hsign ?_)
  generalize sgn5 k x = c at hR
  refine sat_env (("sign", .str [c]) :: ("k", .int k) :: eBld v x) ⟨rfl, rfl, rfl, rfl, trivial⟩ ?_
  have hrw : ev T0 μ (.idx (.var "plain") (.var "k")) (envOf (("sign", .str [c]) :: ("k", .int k) :: eBld v x)) = some (.str row) := by
    rw [ev_idx_of (x := .own v) (y := .int k) rfl rfl, idx_own hμ2, getI_at, List.getElem?_map, hrow]; rfl
  have hsl : ev T0 μ (.slc (.idx (.var "plain") (.var "k")) (.neg (.const (.int 1))) (.const .none) (.const .none)) (envOf (("sign", .str [c]) :: ("k", .int k) :: eBld v x)) = some (.str (row.drop (row.length - 1))) := by
    rw [ev_slc_of (l := .int (-1)) (h := .none) (k := .none) hrw rfl rfl rfl]
    show some (PV.str (sl row (some (-((1 : Nat) : Int))) none)) = _
    rw [sl_last3 row 1 (by decide)]
  have hst : ∀ x y : Nat, ([x] == [y]) = decide (x = y) := fun x y => by
    rw [Bool.eq_iff_iff, beq_iff_eq, decide_eq_true_iff]
    exact ⟨fun h => (List.cons.inj h).1, fun h => congrArg (fun c => [c]) h⟩
  have hc : ev T0 μ (.and (.cmp .NotEq (.var "sign") (.const (.str [32]))) (.or (.cmp .NotEq (.var "sign") (.const (.str [42]))) (.cmp .NotEq (.slc (.idx (.var "plain") (.var "k")) (.neg (.const (.int 1))) (.const .none) (.const .none)) (.const (.str [42]))))) (envOf (("sign", .str [c]) :: ("k", .int k) :: eBld v x)) = some (.bool (!([c] == [32]) && (!([c] == [42]) || !(row.drop (row.length - 1) == [42])))) :=
    ev_and_of (p := !([c] == [32])) rfl fun _ => ev_or_of (p := !([c] == [42])) rfl fun _ => (ev_cmp_of (y := .str [42]) hsl rfl).trans rfl
  refine sat_cons (sat_if (T := T0) (x := .bool (!([c] == [32]) && (!([c] == [42]) || !(row.drop (row.length - 1) == [42])))) _ hC t0ok hc rfl ?_)
  by_cases h : c ≠ 32 ∧ (c ≠ 42 ∨ row.drop (row.length - 1) ≠ [42])
  · rw [show put5 row c = row ++ [c] from if_pos h] at hR
    have e : (!([c] == [32]) && (!([c] == [42]) || !(row.drop (row.length - 1) == [42]))) = true := by
      rw [hst, hst, decide_eq_false h.1]
      rcases h.2 with h | h
      · rw [decide_eq_false h]; rfl
      · rw [beq_eq_false_iff_ne.mpr h]; simp
    rw [e]
    refine sat_cons (sat_setIdx (T := T0) (.str (row ++ [c])) (k := k) hC t0ok rfl hμ2 ?_ rfl ?_ ?_ (sat_nil (sat_nil ?_)))
    · rw [ev_bin_of (y := .str [c]) hrw rfl]
      show (if row.length + 1 ≤ SZ then some (PV.str (row ++ [c])) else none) = _
      rw [if_pos (by simp only [SZ]; lia)]
    · rw [List.length_map]; lia
    · rw [List.length_map]; lia
    · refine hR _ _ ⟨rfl, rfl, trivial⟩ ?_
      rw [muSet_same]
      unfold place
      rw [if_pos (Int.natCast_nonneg k), Int.toNat_natCast, List.map_set]
  · rw [show put5 row c = row from if_neg h] at hR
    have e : (!([c] == [32]) && (!([c] == [42]) || !(row.drop (row.length - 1) == [42]))) = false := by
      rw [hst, hst]
      by_cases h1 : c = 32
      · rw [decide_eq_true h1]; rfl
      · have h2 : c = 42 := Classical.byContradiction fun hh => h ⟨h1, .inl hh⟩
        have h3 : row.drop (row.length - 1) = [42] := Classical.byContradiction fun hh => h ⟨h1, .inr hh⟩
        rw [decide_eq_true h2, h3]; simp
    rw [e]
    refine sat_nil (sat_nil (hR _ _ ⟨rfl, rfl, trivial⟩ ?_))
    rw [hμ2]
    congr 2
    obtain ⟨h1, h2⟩ := List.getElem?_eq_some_iff.mp hrow
    rw [← h2, List.set_getElem_self]
/-- both rows take their signs -/
theorem row5_sat (hC : CxOk C) {v : Addr} {x : Int} {r0 r1 : List Nat} (hμ2 : μ v = some ([r0, r1].map .str)) (hl : r0.length + 1 ≤ 2 ^ 20 ∧ r1.length + 1 ≤ 2 ^ 20)
    (hR : ∀ ρ μ', AllIn (eBld v x) ρ → μ' v = some ([(bld5 (r0, r1) x).1, (bld5 (r0, r1) x).2].map .str) → R .next ρ μ') :
    SatM prog w C lv nLaw5 [.for_ (.one "k") (.call "range" [(.const (.int 2))]) bPut5] (envOf (eBld v x)) μ R := by
  refine sat_cons (sat_for (T := T0) (x := .rng 0 2 1) [.int (0 : Nat), .int (1 : Nat)] hC t0ok rfl rfl rfl (own_one (.inl rfl)) ?_)
  refine ⟨_, rfl, ?_⟩
  refine sat_env (("k", .int (0 : Nat)) :: eBld v x) ⟨rfl, rfl, rfl, trivial⟩ ?_
  refine put5_sat hC (rows := [r0, r1]) (k := 0) (row := r0) (by decide) hμ2 rfl hl.1 fun ρ μ1 hρ m1 => ?_
  refine ⟨_, rfl, ?_⟩
  obtain ⟨k1, k2, _⟩ := hρ
  refine sat_env (("k", .int (1 : Nat)) :: eBld v x) ⟨rfl, k1, k2, trivial⟩ ?_
  refine put5_sat hC (rows := [put5 r0 (sgn5 0 x), r1]) (k := 1) (row := r1) (by decide) m1 rfl hl.2 fun ρ μ2 hρ m2 => ?_
  exact sat_nil (hR ρ μ2 hρ m2)
theorem bld5_sat (hC : CxOk C) {v : Addr} {is : List Int} {ms : List MStmt} (hμ2 : μ v = some ([[], []].map .str)) (hl : is.length ≤ 63)
    (hR : ∀ μ', μ' v = some ([((nums5 is).foldl bld5 ([], [])).1, ((nums5 is).foldl bld5 ([], [])).2].map .str) → SatM prog w C lv nLaw5 ms (envOf (ePl v)) μ' R) :
    SatM prog w C lv nLaw5 (.for_ (.one "x") (.ite (.cmp .NotEq (.var "script") (.lst [])) (.var "script") (.lst [(.const (.int 0)), (.const (.int 1)), (.const (.int 3)), (.const (.int 7)), (.const (.int 6)), (.const (.int 4))])) [
      .for_ (.one "k") (.call "range" [(.const (.int 2))]) bPut5] :: ms) (envOf (("script", .lst (is.map .int)) :: ePl v)) μ R := by
  have hit : ev T0 μ (.ite (.cmp .NotEq (.var "script") (.lst [])) (.var "script") (.lst [(.const (.int 0)), (.const (.int 1)), (.const (.int 3)), (.const (.int 7)), (.const (.int 6)), (.const (.int 4))])) (envOf (("script", .lst (is.map .int)) :: ePl v)) = some (.lst ((nums5 is).map .int)) := by
    cases is with
    | nil => rfl
    | cons i is => exact ev_ite_of (t := true) rfl rfl
  have hn : (nums5 is).length ≤ 63 := by
    unfold nums5; split
    · decide
    · exact hl
  refine sat_cons (sat_for (T := T0) (x := .lst ((nums5 is).map .int)) ((nums5 is).map .int) hC t0ok hit rfl rfl (own_one (.inl rfl)) ?_)
  refine for_inv (fun items ρ μ => ∃ (rest : List Int) (r0 r1 : List Nat), items = rest.map PV.int ∧ AllIn (ePl v) ρ ∧ μ v = some ([r0, r1].map .str) ∧ rest.foldl bld5 (r0, r1) = (nums5 is).foldl bld5 ([], []) ∧ r0.length + rest.length ≤ 64 ∧ r1.length + rest.length ≤ 64) ?_ ?_ _ _ _ ⟨nums5 is, [], [], rfl, ⟨rfl, trivial⟩, hμ2, rfl, by simp; lia, by simp; lia⟩
  · rintro ρ μ ⟨rest, r0, r1, hi, hρ, hμ2, hf, hl⟩
    have : rest = [] := List.map_eq_nil_iff.mp hi.symm
    subst this
    have hf : (r0, r1) = (nums5 is).foldl bld5 ([], []) := hf
    refine sat_env (ePl v) hρ (hR μ ?_)
    rw [← hf]; exact hμ2
  · rintro p ps ρ μ ⟨rest, r0, r1, hi, hρ, hμ2, hf, hl⟩
    cases rest with
    | nil => cases hi
    | cons x rest =>
      rw [List.map_cons] at hi
      injection hi with h1 h2
      subst h1; subst h2
      rw [List.length_cons] at hl
      refine ⟨_, rfl, ?_⟩
      obtain ⟨k1, _⟩ := hρ
      refine sat_env (eBld v x) ⟨k1, rfl, trivial⟩ ?_
      refine row5_sat hC hμ2 (by lia) fun ρ μ' hρ g2 => ?_
      have l1 := put5_len r0 (sgn5 0 x)
      have l2 := put5_len r1 (sgn5 1 x)
      exact ⟨rest, (bld5 (r0, r1) x).1, (bld5 (r0, r1) x).2, rfl, ⟨hρ.1, trivial⟩, g2, hf, by show (put5 r0 (sgn5 0 x)).length + _ ≤ _; lia, by show (put5 r1 (sgn5 1 x)).length + _ ≤ _; lia⟩
end
end Mine
end

section
open PySem PySem.W PyProof.Rows PySem.SeqAt
set_option linter.unusedVariables false
set_option maxRecDepth 10000
namespace Mine
noncomputable def anyPc (pc : List Nat) : Prop := True
noncomputable def T5 (f : Str) (args : List PV) : Option PV :=
  if f = "_law_takes" then tTakes anyPc args else if f = "_join_translated_parts" then tJoin args else if f = "_law_shared" then tShared args else if f = "str.replace" then tRepl args else none
section
variable {prog : Program} {w : World} {C : Cx} {lv : Nat}
structure Fns5 (C : Cx) : Prop where
  join : ∃ sc body, FnAt C "_join_translated_parts" ["inp", "STAR"] sc body ∧ sc.names = nJoin ∧ trSs nJoin body = bJoin
  fits : ∃ sc body, FnAt C "_law_fits" ["piece", "name", "place"] sc body ∧ sc.names = nFits ∧ trSs nFits body = bFits
  takes : ∃ sc body, FnAt C "_law_takes" ["text", "name"] sc body ∧ sc.names = nTakes ∧ trSs nTakes body = bTakes
  shared : ∃ sc body, FnAt C "_law_shared" ["one", "two"] sc body ∧ sc.names = nShared ∧ trSs nShared body = bShared
theorem t5ok (hC : CxOk C) (htk : 0 < C.tk0) (F : Fns5 C) : TOk prog w C (lv + 2) T5 := by
  intro f args r h
  unfold T5 at h
  by_cases h1 : f = "_law_takes"
  · rw [if_pos h1] at h; subst h1
    exact takes_ok (lv := lv + 1) hC htk (fits := tFits) (fun args r h => fits_ok hC F.fits h) (fun pc name p hp _ _ _ => tFits_eq hp) F.takes h
  rw [if_neg h1] at h
  by_cases h2 : f = "_join_translated_parts"
  · rw [if_pos h2] at h; subst h2; exact join_ok (lv := lv + 1) hC F.join h
  rw [if_neg h2] at h
  by_cases h3 : f = "_law_shared"
  · rw [if_pos h3] at h; subst h3; exact shared_ok (lv := lv + 1) hC F.shared h
  rw [if_neg h3] at h
  by_cases h4 : f = "str.replace"
  · rw [if_pos h4] at h; subst h4; exact repl_ok htk h
  rw [if_neg h4] at h
  exact no h
theorem T5_takes {args : List PV} : T5 "_law_takes" args = tTakes anyPc args := if_pos rfl
theorem T5_join {args : List PV} : T5 "_join_translated_parts" args = tJoin args := by unfold T5; rw [if_neg (by decide), if_pos rfl]
theorem T5_shared {args : List PV} : T5 "_law_shared" args = tShared args := by unfold T5; rw [if_neg (by decide), if_neg (by decide), if_pos rfl]
theorem T5_repl {args : List PV} : T5 "str.replace" args = tRepl args := by unfold T5; rw [if_neg (by decide), if_neg (by decide), if_neg (by decide), if_pos rfl]
end
noncomputable def strP : PV → List Nat
  | .str x => x
  | _ => []
open Classical in
noncomputable def mdB (r s : List Nat) : Bool := decide (Md r s)
open Classical in
theorem mdB_iff {r s : List Nat} : mdB r s = true ↔ Md r s := by unfold mdB; exact decide_eq_true_iff
/-- what is told of a row and its text -/
inductive Row5 (r txt : List Nat) : Prop
  | mk (hj : joinTxt (r.map partC) = some txt) (hw : wt (r.map partC) + 20 ≤ SZ) (ht : ∀ name : List Nat, name.length < 2 ^ 20 → tTakes anyPc [.str txt, .str name] = some (.bool (mdB r name)))
open Classical in
theorem row5_of {r : List Nat} (hn : noTwo r) (hs : ∀ c ∈ r, okC c) (hl : r.length ≤ 100) : ∃ txt, Row5 r txt := by
  have hw := wt_parts r
  obtain ⟨txt, h1, h2, h3, h4⟩ := told_reads (D := anyPc) (told_row hn hs) (takes_row hn) (by lia) (fun pc hpc => trivial)
  refine ⟨txt, h1, by simp only [SZ]; lia, fun name hn => ?_⟩
  obtain ⟨b, h5, h6⟩ := h4 name hn
  rw [h5]
  congr 2
  unfold mdB
  rw [Bool.eq_iff_iff, h6, md_reach0, decide_eq_true_iff]
section
variable {s : Addr} {μ : Mu} {ρ : Rho}
theorem parts_ev {T : Str → List PV → Option PV} {r : List Nat} (hs : ρ "star" = some (.obj s)) (hr : ρ "row" = some (.str r)) (hl : r.length ≤ SZ) : ev T μ (.comp1 (.ite (.cmp .Eq (.var "sign") (.const (.str [42]))) (.var "star") (.var "sign")) (.one "sign") (.var "row") [] ["star"]) ρ = some (.lst ((r.map partC).map (encP s))) := by
  have h := ev_map (T := T) (μ := μ) (ρ := ρ) (x := .str r) (v := "sign") (it := .var "row") (elt := .ite (.cmp .Eq (.var "sign") (.const (.str [42]))) (.var "star") (.var "sign")) (fr := ["star"]) (items := r.map fun c => PV.str [c]) (fun q => if strP q = [42] then .obj s else q) hr rfl (fun q hq => by
    obtain ⟨c, hc, rfl⟩ := List.mem_map.mp hq
    refine ev_ite_of (t := ([c] == [42])) rfl ?_
    by_cases h : c = 42
    · subst h; exact hs
    · rw [show ([c] == [42]) = false by rw [beq_eq_false_iff_ne]; intro hh; exact h (List.cons.inj hh).1, if_neg (show ¬ strP (.str [c]) = [42] from fun hh => h (List.cons.inj hh).1)]
      rfl) (by rw [List.length_map]; exact hl)
  rw [h, List.map_map, List.map_map]
  congr 2
  apply List.map_congr_left
  intro c hc
  show (if [c] = [42] then PV.obj s else .str [c]) = encP s (partC c)
  unfold partC
  by_cases h : c = 42
  · subst h; rfl
  · rw [if_neg h, if_neg fun hh => h (List.cons.inj hh).1]; rfl
theorem text_ev {r txt : List Nat} (h : Row5 r txt) (hs : ρ "star" = some (.obj s)) (hr : ρ "row" = some (.str r)) (hl : r.length ≤ SZ) : ev T5 μ (.call "_join_translated_parts" [(.comp1 (.ite (.cmp .Eq (.var "sign") (.const (.str [42]))) (.var "star") (.var "sign")) (.one "sign") (.var "row") [] ["star"]), (.var "star")]) ρ = some (.str txt) := by
  obtain ⟨hj, hw, _⟩ := h
  rw [ev_call_of (xs := [.lst ((r.map partC).map (encP s)), .obj s]) (evs_more (parts_ev hs hr hl) (evs_one (a := .var "star") hs)) (by decide) rfl, T5_join]
  exact tJoin_eq hw hj
theorem takes5_ev {r txt name : List Nat} {a b : MExpr} (h : Row5 r txt) (ha : ev T5 μ a ρ = some (.str txt)) (hb : ev T5 μ b ρ = some (.str name)) (hl : name.length < 2 ^ 20) : ev T5 μ (.call "_law_takes" [a, b]) ρ = some (.bool (mdB r name)) := by
  obtain ⟨_, _, ht⟩ := h
  rw [ev_call_of (xs := [.str txt, .str name]) (evs_more ha (evs_one hb)) (by decide) rfl, T5_takes]
  exact ht name hl
end
end Mine
end

section
open PySem PySem.W PyProof.Rows PySem.SeqAt
set_option linter.unusedVariables false
set_option maxRecDepth 10000
namespace Mine
noncomputable def bTurn5 : List MStmt := [
    .if_ (.and (.cmp .IsNot (.var "least") (.const .none)) (.cmp .GtE (.var "size") (.call "len" [(.var "least")]))) [
      .ret (.const (.bool true))] [],
    .if_ (.cmp .NotEq (.comp1 (.var "name") (.one "name") (.var "names") [(.and (.call "_law_takes" [(.idx (.var "texts") (.const (.int 0))), (.var "name")]) (.call "_law_takes" [(.idx (.var "texts") (.const (.int 1))), (.var "name")]))] ["texts"]) (.lst [])) [
      .ret (.const (.bool false))] [],
    .assign "names" (.comp2 (.bin .Add (.var "name") (.var "sign")) (.one "name") (.var "names") [] (.one "sign") (.const (.str [97, 98])) [] [])]
noncomputable def bNames5 : List MStmt := [
  .assign "names" (.lst [(.const (.str []))]),
  .for_ (.one "size") (.call "range" [(.const (.int 7))]) bTurn5,
  .ret (.const (.bool true))]
noncomputable def bEnd5 : List MStmt := [
  .assign "star" (.call "object" []),
  .assign "texts" (.comp1 (.call "_join_translated_parts" [(.comp1 (.ite (.cmp .Eq (.var "sign") (.const (.str [42]))) (.var "star") (.var "sign")) (.one "sign") (.var "row") [] ["star"]), (.var "star")]) (.one "row") (.var "plain") [] ["star"]),
  .assign "least" (.call "_law_shared" [(.idx (.var "plain") (.const (.int 0))), (.idx (.var "plain") (.const (.int 1)))]),
  .if_ (.cmp .IsNot (.var "least") (.const .none)) [
    .assign "least" (.repl (.var "least") [46] [97]),
    .if_ (.or (.not (.call "_law_takes" [(.idx (.var "texts") (.const (.int 0))), (.var "least")])) (.not (.call "_law_takes" [(.idx (.var "texts") (.const (.int 1))), (.var "least")]))) [
      .ret (.const (.bool false))] []] []] ++ bNames5
noncomputable def eT (t0 t1 : List Nat) (L : Option (List Nat)) : List (Str × PV) := [("texts", .lst [.str t0, .str t1]), ("least", encW L)]
noncomputable def eN (t0 t1 : List Nat) (L : Option (List Nat)) (n : Nat) : List (Str × PV) := ("names", .lst ((nm5 n).map .str)) :: eT t0 t1 L
section
variable {prog : Program} {w : World} {C : Cx} {lv : Nat} {R : CPost} {μ : Mu} {ρ : Rho}
/-- the names of one size more -/
theorem more_ev {T : Str → List PV → Option PV} {n : Nat} (hn : n ≤ 10) (h : ρ "names" = some (.lst ((nm5 n).map .str))) : ev T μ (.comp2 (.bin .Add (.var "name") (.var "sign")) (.one "name") (.var "names") [] (.one "sign") (.const (.str [97, 98])) [] []) ρ = some (.lst ((nm5 (n + 1)).map .str)) := by
  have hp : 2 ^ (n + 1) ≤ 2 ^ 11 := Nat.pow_le_pow_right (by decide) (by lia)
  have hp0 : 2 ^ n ≤ 2 ^ 10 := Nat.pow_le_pow_right (by decide) hn
  have e : ∀ l : List (List Nat), ((l.map PV.str).flatMap fun q => ([PV.str [97], PV.str [98]]).map fun c => PV.str (strP q ++ strP c)) = (l.flatMap fun x => [97, 98].map fun c => x ++ [c]).map PV.str := by
    intro l
    induction l with
    | nil => rfl
    | cons x l ih => rw [List.map_cons, List.flatMap_cons, List.flatMap_cons, List.map_append, ih]; rfl
  have e2 := e (nm5 n)
  have h : ev T μ (.var "names") ρ = some (.lst ((nm5 n).map .str)) := h
  have hl : (((nm5 n).map PV.str).flatMap fun q => ([PV.str [97], PV.str [98]]).map fun c => PV.str (strP q ++ strP c)).length ≤ SZ := by
    rw [e2, List.length_map]
    show (nm5 (n + 1)).length ≤ SZ
    rw [nm5_len]
    exact Nat.le_trans hp (by decide)
  have hi : ((nm5 n).map PV.str).length ≤ SZ := by
    rw [List.length_map, nm5_len]
    exact Nat.le_trans hp0 (by decide)
  have add : ∀ q ∈ (nm5 n).map PV.str, ∀ c ∈ [PV.str [97], PV.str [98]], ev T μ (.bin .Add (.var "name") (.var "sign")) (upd (upd (restr [] ρ) "name" q) "sign" c) = some (PV.str (strP q ++ strP c)) := by
    intro q hq c hc
    obtain ⟨x, hx, rfl⟩ := List.mem_map.mp hq
    have hx := nm5_short n x hx
    have hc : ∃ d, c = .str [d] := by
      rcases List.mem_cons.mp hc with rfl | hc
      · exact ⟨_, rfl⟩
      · exact ⟨_, List.mem_singleton.mp hc⟩
    obtain ⟨d, rfl⟩ := hc
    rw [ev_bin_of (x := .str x) (y := .str [d]) rfl rfl]
    exact if_pos (e := none) (show x.length + 1 ≤ SZ by simp only [SZ]; lia)
  rw [ev_map2 (x := .lst ((nm5 n).map .str)) (items := (nm5 n).map .str) (fun _ => [PV.str [97], PV.str [98]]) (fun q c => PV.str (strP q ++ strP c)) h rfl (fun q hq => ⟨.str [97, 98], rfl, rfl, add q hq⟩) hl hi, e2]
  rfl
/-- the names are tried, size after size -/
theorem names5_sat (hC : CxOk C) (hT : TOk prog w C lv T5) {r0 r1 t0 t1 : List Nat} {L : Option (List Nat)} (h0 : Row5 r0 t0) (h1 : Row5 r1 t1) (hL : ∀ s : List Nat, Md r0 s → Md r1 s → ∃ v, L = some v ∧ v.length ≤ s.length) :
    SatM prog w C lv nLaw5 bNames5 (envOf (eT t0 t1 L)) μ (Ret (.bool true)) := by
  refine sat_cons (sat_assign (T := T5) (.lst ((nm5 0).map .str)) hC hT (.inl rfl) rfl ?_)
  refine sat_env (eN t0 t1 L 0) ⟨rfl, rfl, rfl, trivial⟩ ?_
  refine sat_cons (sat_for (T := T5) (x := .rng 0 7 1) (intsFrom 0 7 1) hC hT rfl rfl rfl (own_one (.inl rfl)) ?_)
  refine for_inv (fun items ρ μ => ∃ n, items = (intsFrom 0 7 1).drop n ∧ AllIn (eN t0 t1 L n) ρ) ?_ ?_ _ _ _ ⟨0, rfl, ⟨rfl, rfl, rfl, trivial⟩⟩
  · rintro ρ μ ⟨n, _, hρ⟩
    exact sat_cons (sat_ret (T := T5) (.bool true) hC hT rfl ⟨_, rfl, rfl⟩)
  · rintro p ps ρ μ ⟨n, hi, hρ⟩
    obtain ⟨hn, e1, e2⟩ := ints_at hi
    subst e1; subst e2
    obtain ⟨k1, k2, k3, _⟩ := hρ
    refine ⟨_, rfl, ?_⟩
    refine sat_env (("size", .int n) :: eN t0 t1 L n) ⟨rfl, k1, k2, k3, trivial⟩ ?_
    have hnot : ev T5 μ (.cmp .IsNot (.var "least") (.const .none)) (envOf (("size", .int n) :: eN t0 t1 L n)) = some (.bool !L.isNone) := by
      rw [ev_cmp_of (x := encW L) (y := .none) rfl rfl]
      show (pvis (encW L) .none).map (fun x => PV.bool !x) = _
      rw [vis_encW]; rfl
    have hge : ∃ b, ev T5 μ (.and (.cmp .IsNot (.var "least") (.const .none)) (.cmp .GtE (.var "size") (.call "len" [(.var "least")]))) (envOf (("size", .int n) :: eN t0 t1 L n)) = some (.bool b) ∧ (b = false → ∀ v, L = some v → n < v.length) := by
      cases L with
      | none => exact ⟨false, ev_and_of (p := false) (q := false) hnot fun h => (nomatch h), fun _ v h => (nomatch h)⟩
      | some v =>
        have hlen : ev T5 μ (.call "len" [(.var "least")]) (envOf (("size", .int n) :: eN t0 t1 (some v) n)) = some (.int (v.length : Nat)) := ev_len_of (a := .var "least") (x := .str v) rfl rfl
        have h2 : ev T5 μ (.cmp .GtE (.var "size") (.call "len" [(.var "least")])) (envOf (("size", .int n) :: eN t0 t1 (some v) n)) = some (.bool (decide ((v.length : Int) ≤ (n : Int)))) := (ev_cmp_of (x := .int n) rfl hlen).trans rfl
        refine ⟨_, ev_and_of (p := true) hnot fun _ => h2, fun h v' hv => ?_⟩
        cases hv
        have h : decide ((v.length : Int) ≤ (n : Int)) = false := by rw [Bool.true_and] at h; exact h
        have := of_decide_eq_false h
        lia
    obtain ⟨b, hb, hlt⟩ := hge
    refine sat_cons (sat_if (T := T5) (x := .bool b) b hC hT hb rfl ?_)
    cases b with
    | true => exact sat_cons (sat_ret (T := T5) (.bool true) hC hT rfl ⟨_, rfl, rfl⟩)
    | false =>
      have hlt := hlt rfl
      refine sat_nil ?_
      have hq : ∀ q ∈ (nm5 n).map PV.str, (strP q).length = n ∧ q = .str (strP q) := by
        intro q hq
        obtain ⟨x, hx, rfl⟩ := List.mem_map.mp hq
        exact ⟨nm5_short n x hx, rfl⟩
      have hp : 2 ^ n ≤ 2 ^ 10 := Nat.pow_le_pow_right (by decide) (by lia)
      have hf := ev_filter (T := T5) (μ := μ) (ρ := envOf (("size", .int n) :: eN t0 t1 L n)) (x := .lst ((nm5 n).map .str)) (v := "name") (it := .var "names") (cond := .and (.call "_law_takes" [(.idx (.var "texts") (.const (.int 0))), (.var "name")]) (.call "_law_takes" [(.idx (.var "texts") (.const (.int 1))), (.var "name")])) (fr := ["texts"]) (items := (nm5 n).map .str) (fun q => mdB r0 (strP q) && mdB r1 (strP q)) rfl rfl (fun q hq2 => by
        obtain ⟨h2, h3⟩ := hq q hq2
        exact ev_and_of (takes5_ev h0 rfl (congrArg some h3) (by lia)) fun _ => takes5_ev h1 rfl (congrArg some h3) (by lia)) (by rw [List.length_map, nm5_len]; exact Nat.le_trans hp (by decide))
      have hnil : ((nm5 n).map PV.str).filter (fun q => mdB r0 (strP q) && mdB r1 (strP q)) = [] := by
        rw [List.filter_eq_nil_iff]
        intro q hq2 hh
        obtain ⟨a1, a2⟩ := Bool.and_eq_true_iff.mp hh
        obtain ⟨v, hv, hl⟩ := hL _ (mdB_iff.mp a1) (mdB_iff.mp a2)
        have := hlt v hv
        have := (hq q hq2).1
        lia
      refine sat_cons (sat_if (T := T5) (x := .bool false) false hC hT ?_ rfl (sat_nil ?_))
      · rw [ev_cmp_of (y := .lst []) hf rfl, hnil]; rfl
      refine sat_cons (sat_assign (T := T5) (.lst ((nm5 (n + 1)).map .str)) hC hT (.inl rfl) (more_ev (by lia) rfl) (sat_nil ?_))
      exact ⟨n + 1, rfl, ⟨rfl, rfl, rfl, trivial⟩⟩
theorem end5_sat (hC : CxOk C) (htk : 0 < C.tk0) (F : Fns5 C) {v : Addr} {r0 r1 t0 t1 : List Nat} (h0 : Row5 r0 t0) (h1 : Row5 r1 t1) (hμ : μ v = some [.str r0, .str r1]) (hl0 : r0.length ≤ 100) (hl1 : r1.length ≤ 100) :
    SatM prog w C (lv + 2) nLaw5 bEnd5 (envOf (ePl v)) μ (Ret (.bool true)) := by
  have hT := t5ok (prog := prog) (w := w) (lv := lv) hC htk F
  refine sat_cons (sat_object hC (.inr rfl) fun s => ?_)
  refine sat_env [("plain", .own v), ("star", .obj s)] ⟨rfl, rfl, trivial⟩ ?_
  have hit : iter μ (.own v) = some [.str r0, .str r1] := by unfold iter; rw [rs_own hμ]; rfl
  refine sat_cons (sat_assign (T := T5) (.lst [.str t0, .str t1]) hC hT (.inr rfl) ?_ ?_)
  · refine ev_comp_fin (x := .own v) rfl hit ?_ (by show 2 ≤ SZ; decide) (by show 2 ≤ SZ; decide)
    show (match (ev T5 μ _ (upd (restr ["star"] (envOf [("plain", .own v), ("star", .obj s)])) "row" (.str r0))).map (fun y => [y]), (match (ev T5 μ _ (upd (restr ["star"] (envOf [("plain", .own v), ("star", .obj s)])) "row" (.str r1))).map (fun y => [y]), some [] with
      | some a, some r => some (a ++ r)
      | _, _ => none) with
      | some a, some r => some (a ++ r)
      | _, _ => none) = _
    rw [text_ev h0 rfl rfl (by simp only [SZ]; lia), text_ev h1 rfl rfl (by simp only [SZ]; lia)]
    rfl
  refine sat_env [("plain", .own v), ("texts", .lst [.str t0, .str t1])] ⟨rfl, rfl, trivial⟩ ?_
  have hsh : ev T5 μ (.call "_law_shared" [(.idx (.var "plain") (.const (.int 0))), (.idx (.var "plain") (.const (.int 1)))]) (envOf [("plain", .own v), ("texts", .lst [.str t0, .str t1])]) = some (encW (sh r0 r1)) := by
    rw [ev_call_of (xs := [.str r0, .str r1]) (evs_more ((ev_idx_of (x := .own v) (y := .int 0) rfl rfl).trans (idx_own hμ)) (evs_one ((ev_idx_of (x := .own v) (y := .int 1) rfl rfl).trans (idx_own hμ)))) (by decide) rfl, T5_shared]
    exact tShared_eq hl0 hl1
  refine sat_cons (sat_assign (T := T5) (encW (sh r0 r1)) hC hT (.inl rfl) hsh ?_)
  refine sat_env (eT t0 t1 (sh r0 r1)) ⟨rfl, rfl, trivial⟩ ?_
  have hle : ∀ s : List Nat, Md r0 s → Md r1 s → shortW s.length (sh r0 r1) := fun s a b => sh_le _ r0 r1 s (Nat.le_refl _) a b
  have hok : ∀ w, sh r0 r1 = some w → (Md r0 (dotA w) ∧ Md r1 (dotA w)) ∧ w.length ≤ 200 := fun w h => ⟨sh_ok _ r0 r1 w (Nat.le_refl _) h, sh_len 200 r0 r1 w (by lia) h⟩
  generalize sh r0 r1 = S at hle hok
  have hnot : ev T5 μ (.cmp .IsNot (.var "least") (.const .none)) (envOf (eT t0 t1 S)) = some (.bool !S.isNone) := by
    rw [ev_cmp_of (x := encW S) (y := .none) rfl rfl]
    show (pvis (encW S) .none).map (fun x => PV.bool !x) = _
    rw [vis_encW]; rfl
  cases S with
  | none =>
    refine sat_cons (sat_if (T := T5) (x := .bool false) false hC hT hnot rfl (sat_nil ?_))
    exact names5_sat hC hT h0 h1 fun s a b => by obtain ⟨v, e, _⟩ := hle s a b; cases e
  | some x =>
    obtain ⟨⟨m0, m1⟩, hx⟩ := hok x rfl
    have hd : (dotA x).length = x.length := List.length_map _
    refine sat_cons (sat_if (T := T5) (x := .bool true) true hC hT hnot rfl ?_)
    have hrep : ev T5 μ (.repl (.var "least") [46] [97]) (envOf (eT t0 t1 (some x))) = some (.str (dotA x)) := by
      rw [ev_repl_of (x := x) rfl, T5_repl, tRepl_eq ⟨by decide, by decide, by simp only [SZ, List.length_singleton]; lia⟩, repl_dot x _ (Nat.lt_succ_self _)]
    refine sat_cons (sat_assign (T := T5) (.str (dotA x)) hC hT (.inl rfl) hrep ?_)
    refine sat_env (eT t0 t1 (some (dotA x))) ⟨rfl, rfl, trivial⟩ ?_
    have a0 : ev T5 μ (.not (.call "_law_takes" [(.idx (.var "texts") (.const (.int 0))), (.var "least")])) (envOf (eT t0 t1 (some (dotA x)))) = some (.bool false) := by
      rw [ev_not_of (takes5_ev (name := dotA x) h0 rfl rfl (by lia)), mdB_iff.mpr m0]; rfl
    have a1 : ev T5 μ (.not (.call "_law_takes" [(.idx (.var "texts") (.const (.int 1))), (.var "least")])) (envOf (eT t0 t1 (some (dotA x)))) = some (.bool false) := by
      rw [ev_not_of (takes5_ev (name := dotA x) h1 rfl rfl (by lia)), mdB_iff.mpr m1]; rfl
    refine sat_cons (sat_if (T := T5) (x := .bool false) false hC hT (ev_or_of a0 fun _ => a1) rfl (sat_nil (sat_nil ?_)))
    exact names5_sat hC hT h0 h1 fun s a b => by
      obtain ⟨y, e, hy⟩ := hle s a b
      cases e
      exact ⟨_, rfl, by rw [hd]; exact hy⟩
end
end Mine
end

section
open PySem PySem.W PyProof.Rows PySem.SeqAt
set_option linter.unusedVariables false
set_option maxRecDepth 10000
namespace Mine
noncomputable def bLaw5 : List MStmt := [
  .assign "script" (.slc (.var "script") (.const .none) (.const (.int 24)) (.const .none)),
  .assign "plain" (.lst [(.const (.str [])), (.const (.str []))]),
  .for_ (.one "x") (.ite (.cmp .NotEq (.var "script") (.lst [])) (.var "script") (.lst [(.const (.int 0)), (.const (.int 1)), (.const (.int 3)), (.const (.int 7)), (.const (.int 6)), (.const (.int 4))])) [
    .for_ (.one "k") (.call "range" [(.const (.int 2))]) bPut5]] ++ bEnd5
section
variable {prog : Program} {w : World} {C : Cx} {lv : Nat}
theorem law5_sat (hC : CxOk C) (F : Fns5 C.tick) (is : List Int) (hl : is.length ≤ 63) : SatM prog w C (lv + 2) nLaw5 bLaw5 (upd (fun _ => none) "script" (.lst (is.map .int))) (fun _ => none) (Ret (.bool true)) := by
  refine sat_tick hC (.inl rfl) (p := .lst ((is.take 24).map .int)) ?_ ?_
  · show some (PV.lst (sl (is.map PV.int) none (some 24))) = _
    rw [show (24 : Int) = ((24 : Nat) : Int) from rfl, sl_upto, List.map_take]
  have hC' := hC.tick
  refine sat_env [("script", .lst ((is.take 24).map .int))] ⟨rfl, trivial⟩ ?_
  refine sat_cons (sat_own (T := T0) [.str [], .str []] hC' t0ok (.inl rfl) rfl (by decide) fun v hv => ?_)
  refine sat_env (("script", .lst ((is.take 24).map .int)) :: ePl v) ⟨rfl, rfl, trivial⟩ ?_
  have hl2 : (is.take 24).length ≤ 63 := by rw [List.length_take]; lia
  refine bld5_sat hC' muSet_same hl2 fun μ' g2 => ?_
  have hn : (nums5 (is.take 24)).length ≤ 63 := by
    unfold nums5; split
    · decide
    · exact hl2
  obtain ⟨⟨a1, a2⟩, ⟨a3, a4⟩, a5, a6⟩ := bld5_ok (nums5 (is.take 24)) ([], []) trivial trivial (fun c h => (nomatch h)) (fun c h => (nomatch h))
  generalize (nums5 (is.take 24)).foldl bld5 ([], []) = rs at g2 a1 a2 a3 a4 a5 a6
  rw [List.length_nil] at a5 a6
  obtain ⟨t0, h0⟩ := row5_of a1 a3 (by lia)
  obtain ⟨t1, h1⟩ := row5_of a2 a4 (by lia)
  exact end5_sat hC' (Nat.succ_pos _) F h0 h1 g2 (by lia) (by lia)
end
end Mine
end

section
open PySem PySem.W PyProof.Rows
set_option maxRecDepth 100000
namespace Mine
set_option maxHeartbeats 8000000 in
open_top hd5 for PySem.Challenge.rw_dm0105_05
theorem bi_ok : (biNames ++ biMore).all (fun x => !startupNames.contains x && !(looseW hd5.view_39 []).contains x && !((recsOf hd5.view_39).map (·.name)).contains x && !((litsOf hd5.view_39).map (·.1)).contains x && !((clssOf hd5.view_39 (looseW hd5.view_39 [])).map (·.name)).contains x && x != "__name__") = true := by decide +kernel
theorem recs_len : (recsOf hd5.view_39).length = 5 := by decide +kernel
noncomputable def rc (i : Nat) (h : i < 5) : DefRec := (recsOf hd5.view_39)[i]'(by rw [recs_len]; exact h)
theorem rc_mem (i : Nat) (h : i < 5) : rc i h ∈ recsOf hd5.view_39 := List.getElem_mem _
theorem len0 {α : Type} {l : List α} (h : l.length = 0) : l = [] := List.length_eq_zero_iff.mp h
theorem len1 {α : Type} {l : List α} (h : l.length = 1) : ∃ a, l = [a] := by
  cases l with
  | nil => cases h
  | cons a l => cases l with
    | nil => exact ⟨a, rfl⟩
    | cons _ _ => cases h
theorem len2 {α : Type} {l : List α} (h : l.length = 2) : ∃ a b, l = [a, b] := by
  cases l with
  | nil => cases h
  | cons a l => obtain ⟨b, rfl⟩ := len1 (Nat.succ.inj h); exact ⟨a, b, rfl⟩
theorem len3 {α : Type} {l : List α} (h : l.length = 3) : ∃ a b c, l = [a, b, c] := by
  cases l with
  | nil => cases h
  | cons a l => obtain ⟨b, c, rfl⟩ := len2 (Nat.succ.inj h); exact ⟨a, b, c, rfl⟩
theorem own2 {ns : Names} {xs : List Str} (h : xs.all (fun x => ns.lookup x == some .local || ns.lookup x == some .cell) = true) : ∀ x ∈ xs, ownOf ns x := by
  intro x hx
  have := List.all_eq_true.mp h x hx
  simp only [Bool.or_eq_true, beq_iff_eq] at this
  exact this
theorem ba0 (pm code doc : Value) (vals : List Value) (hv : vals.length = 2) : bindArgs (Calls.docDef (rc 0 (by decide)).name (rc 0 (by decide)).params (rc 0 (by decide)).body (rc 0 (by decide)).scope pm code doc) ⟨vals, []⟩ = pure ((["inp", "STAR"] : List Str).zip vals) := by
  obtain ⟨a, b, rfl⟩ := len2 hv; rfl
theorem ba1 (pm code doc : Value) (vals : List Value) (hv : vals.length = 3) : bindArgs (Calls.docDef (rc 1 (by decide)).name (rc 1 (by decide)).params (rc 1 (by decide)).body (rc 1 (by decide)).scope pm code doc) ⟨vals, []⟩ = pure ((["piece", "name", "place"] : List Str).zip vals) := by
  obtain ⟨a, b, c, rfl⟩ := len3 hv; rfl
theorem ba2 (pm code doc : Value) (vals : List Value) (hv : vals.length = 2) : bindArgs (Calls.docDef (rc 2 (by decide)).name (rc 2 (by decide)).params (rc 2 (by decide)).body (rc 2 (by decide)).scope pm code doc) ⟨vals, []⟩ = pure ((["text", "name"] : List Str).zip vals) := by
  obtain ⟨a, b, rfl⟩ := len2 hv; rfl
theorem ba3 (pm code doc : Value) (vals : List Value) (hv : vals.length = 2) : bindArgs (Calls.docDef (rc 3 (by decide)).name (rc 3 (by decide)).params (rc 3 (by decide)).body (rc 3 (by decide)).scope pm code doc) ⟨vals, []⟩ = pure ((["one", "two"] : List Str).zip vals) := by
  obtain ⟨a, b, rfl⟩ := len2 hv; rfl
theorem ba4 (pm code doc : Value) (vals : List Value) (hv : vals.length = 1) : bindArgs (Calls.docDef (rc 4 (by decide)).name (rc 4 (by decide)).params (rc 4 (by decide)).body (rc 4 (by decide)).scope pm code doc) ⟨vals, []⟩ = pure ((["script"] : List Str).zip vals) := by
  obtain ⟨a, rfl⟩ := len1 hv; rfl
section
variable {mean : ExcName → Option Value} {mg mb : Str → Option Value} {h : Heap}
theorem fns5 (T : Top hd5.view_39 (looseW hd5.view_39 []) mean mg mb h) (tk : Nat) : Fns5 ⟨h, mg, mb, tk⟩ where
  join := ⟨_, _, fn_of T tk _ (rc_mem 0 (by decide)) _ ba0 rfl rfl rfl (own2 rfl) (nofree_of rfl), rfl, rfl⟩
  fits := ⟨_, _, fn_of T tk _ (rc_mem 1 (by decide)) _ ba1 rfl rfl rfl (own2 rfl) (nofree_of rfl), rfl, rfl⟩
  takes := ⟨_, _, fn_of T tk _ (rc_mem 2 (by decide)) _ ba2 rfl rfl rfl (own2 rfl) (nofree_of rfl), rfl, rfl⟩
  shared := ⟨_, _, fn_of T tk _ (rc_mem 3 (by decide)) _ ba3 rfl rfl rfl (own2 rfl) (nofree_of rfl), rfl, rfl⟩
theorem fnlaw (T : Top hd5.view_39 (looseW hd5.view_39 []) mean mg mb h) : ∃ sc body, FnAt ⟨h, mg, mb, 0⟩ "law" ["script"] sc body ∧ sc.names = nLaw5 ∧ trSs nLaw5 body = bLaw5 :=
  ⟨_, _, fn_of T 0 _ (rc_mem 4 (by decide)) _ ba4 rfl rfl rfl (own2 rfl) (nofree_of rfl), rfl, rfl⟩
end
theorem post_true (R : WRecords) (is : List Int) : (WShape.has R (WData.bool true) WShape.bool && WTm.holds R (WTm.res.eq (WTm.lit (WData.bool true))) { args := [WData.list (List.map WData.int is)], res := some (WData.bool true), after := [WData.list (List.map WData.int is)] }) = true := by
  simp [WShape.has, WShape.arms, WTm.holds, WTm.value]
  have e : same (WData.bool true) (WData.bool true) = true := by decide +kernel
  rw [e]
theorem entry5 : PySem.Challenge.rw_dm0105_05.Holds := by
  refine hd5 ?_
  intro w s₀ s₁ mg mb Gd hY a o pm cd doc dV kV ho hdat hcode hdf hname hgens args vals as hpre hlay hreads hwell hmods
  obtain ⟨hs, hh⟩ := pre_splitW hpre
  obtain ⟨is, rfl⟩ := pre_ints hs
  have hl := pre_len hh
  have rp := script_of hwell hl
  have hC := cx_of Gd.T 0 bi_ok
  have F := fns5 Gd.T 1
  obtain ⟨sc, body, fa, hn, hb⟩ := fnlaw Gd.T
  obtain ⟨a', o', fd, e1, e2, e3, hcall⟩ := fn_call (prog := PySem.Challenge.rw_dm0105_05.row.toRowW.prog) (w := w) (lv := 2) (args := [.lst (is.map .int)]) (r := .bool true) hC fa rfl (by
    rw [hn, hb]; exact law5_sat hC F is hl)
  have : a' = a := by
    have h1 : mg "law" = some (.ref a') := e1
    have h2 : mg "law" = some (.ref a) := hname
    rw [h1] at h2; cases h2; rfl
  subst this
  refine wpAny_mono (hcall callerA _ (fun _ => False) s₁ vals ⟨rfl, by decide, by decide⟩ (fun b o e => e) (Nat.zero_le _) (fun _ h => h.elim) (fun _ h => h.elim) rp) (fun v s' hpst => ?_) fun e s' he => he
  refine good_true hgens (fun cls => rfl) ?_ hpst
  exact post_true _ _
end Mine
end

theorem PySem.Challenge.cw_dm0105_05_holds : PySem.Challenge.rw_dm0105_05.Holds :=
  Mine.entry5
