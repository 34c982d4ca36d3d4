import PyProof.Rows.All
import Wide.All
import OpenK.AllK
import Wide.FinOn
import PySem.Challenge.RW_dm0105_01
set_option Elab.async false
section
open PySem PySem.W PyProof.Rows
namespace Mine

/-- python values as the proofs see them -/
inductive PV where
  | none
  | bool (b : Bool)
  | int (i : Int)
  | str (x : List Nat)
  | tup (xs : List PV)
  | lst (xs : List PV)
  | own (a : Addr)
  | obj (a : Addr)
  | app (a : Addr)
  | rng (lo : Int) (n : Nat) (st : Int)

theorem clash {α : Type} {x : Option α} {y : α} {P : Prop} (h1 : x = Option.none) (h2 : x = some y) : P := nomatch h1.symm.trans h2
/-- the model's line of sizes -/
noncomputable def SZ : Nat := 16777216

noncomputable abbrev Gr := Addr → Obj → Prop

noncomputable def lObj (items : List Value) (n : Nat) : Obj := { cls := .type "list", data := .seq items.toArray n }
noncomputable def tObj (items : List Value) (n : Nat) : Obj := { cls := .type "tuple", data := .seq items.toArray n }

noncomputable def rObj (a b c : Int) (t u v : Tok) : Obj := { cls := .type "range", dict := none, data := .fields #[.int a t, .int b u, .int c v], slots := #[] }

/-- a bound method list.append of the list at a -/
noncomputable def appObj (a : Addr) : Obj → Prop := fun o => o.cls = .type "builtin_function_or_method" ∧ o.data = .fields #[.builtin "list.append", .ref a]

mutual
noncomputable def Rep (g : Gr) : PV → Value → Prop
  | .none, v => v = .none
  | .bool b, v => v = .bool b
  | .int i, v => ∃ t, v = .int i t
  | .str x, v => x.length ≤ SZ ∧ ∃ t, v = .str ⟨x.toArray⟩ t
  | .tup xs, v => ∃ a vs n, v = .ref a ∧ g a (tObj vs n) ∧ vs.length ≤ SZ ∧ Reps g xs vs
  | .lst xs, v => ∃ a vs n, v = .ref a ∧ g a (lObj vs n) ∧ vs.length ≤ SZ ∧ Reps g xs vs
  | .own a, v => v = .ref a
  | .obj a, v => v = .ref a
  | .app a, v => ∃ b o, v = .ref b ∧ g b o ∧ appObj a o
  | .rng lo n st, v => ∃ r b t u x, v = .ref r ∧ g r (rObj lo b st t u x) ∧ Builtin.Range.small lo b st = true ∧ Builtin.Range.rangeSize lo b st = (n : Int)
noncomputable def Reps (g : Gr) : List PV → List Value → Prop
  | [], vs => vs = []
  | x :: xs, vs => ∃ v vs', vs = v :: vs' ∧ Rep g x v ∧ Reps g xs vs'
end

mutual
theorem Rep.mono {g g' : Gr} (h : ∀ a o, g a o → g' a o) : ∀ (p : PV) (v : Value), Rep g p v → Rep g' p v
  | .none, v, r => by simpa [Rep] using r
  | .bool b, v, r => by simpa [Rep] using r
  | .int i, v, r => by simpa [Rep] using r
  | .str x, v, r => by simpa [Rep] using r
  | .tup xs, v, r => by
    rw [Rep] at r ⊢
    obtain ⟨a, vs, n, e, hg, hl, hr⟩ := r
    exact ⟨a, vs, n, e, h _ _ hg, hl, Reps.mono h xs vs hr⟩
  | .lst xs, v, r => by
    rw [Rep] at r ⊢
    obtain ⟨a, vs, n, e, hg, hl, hr⟩ := r
    exact ⟨a, vs, n, e, h _ _ hg, hl, Reps.mono h xs vs hr⟩
  | .own a, v, r => by simpa [Rep] using r
  | .obj a, v, r => by simpa [Rep] using r
  | .app a, v, r => by
    rw [Rep] at r ⊢
    obtain ⟨b, o, e, hg, ho⟩ := r
    exact ⟨b, o, e, h _ _ hg, ho⟩
  | .rng _ _ _, v, r => by
    rw [Rep] at r ⊢
    obtain ⟨q, b, t, u, x, e, hg, hr⟩ := r
    exact ⟨q, b, t, u, x, e, h _ _ hg, hr⟩
theorem Reps.mono {g g' : Gr} (h : ∀ a o, g a o → g' a o) : ∀ (ps : List PV) (vs : List Value), Reps g ps vs → Reps g' ps vs
  | [], vs, r => by simpa [Reps] using r
  | x :: xs, vs, r => by
    rw [Reps] at r ⊢
    obtain ⟨v, vs', e, hx, hr⟩ := r
    exact ⟨v, vs', e, Rep.mono h x v hx, Reps.mono h xs vs' hr⟩
end

theorem rep_int {g : Gr} {i : Int} {v : Value} : Rep g (.int i) v ↔ ∃ t, v = .int i t := by rw [Rep]
theorem rep_bool {g : Gr} {b : Bool} {v : Value} : Rep g (.bool b) v ↔ v = .bool b := by rw [Rep]
theorem rep_none {g : Gr} {v : Value} : Rep g .none v ↔ v = .none := by rw [Rep]
theorem rep_str {g : Gr} {x : List Nat} {v : Value} : Rep g (.str x) v ↔ x.length ≤ SZ ∧ ∃ t, v = .str ⟨x.toArray⟩ t := by rw [Rep]
theorem rep_own {g : Gr} {a : Addr} {v : Value} : Rep g (.own a) v ↔ v = .ref a := by rw [Rep]
theorem rep_obj {g : Gr} {a : Addr} {v : Value} : Rep g (.obj a) v ↔ v = .ref a := by rw [Rep]
theorem rep_app {g : Gr} {a : Addr} {v : Value} : Rep g (.app a) v ↔ ∃ b o, v = .ref b ∧ g b o ∧ appObj a o := by rw [Rep]
theorem rep_lst {g : Gr} {xs : List PV} {v : Value} : Rep g (.lst xs) v ↔ ∃ a vs n, v = .ref a ∧ g a (lObj vs n) ∧ vs.length ≤ SZ ∧ Reps g xs vs := by rw [Rep]
theorem rep_tup {g : Gr} {xs : List PV} {v : Value} : Rep g (.tup xs) v ↔ ∃ a vs n, v = .ref a ∧ g a (tObj vs n) ∧ vs.length ≤ SZ ∧ Reps g xs vs := by rw [Rep]
theorem rep_rng {g : Gr} {lo : Int} {n : Nat} {st : Int} {v : Value} : Rep g (.rng lo n st) v ↔ ∃ r b t u x, v = .ref r ∧ g r (rObj lo b st t u x) ∧ Builtin.Range.small lo b st = true ∧ Builtin.Range.rangeSize lo b st = (n : Int) := by rw [Rep]

/-- the heap without what may be written -/
noncomputable def frz (h : Heap) (W : Addr → Prop) : Gr := fun a o => h.get? a = some o ∧ ¬ W a

theorem frz_mono {h h' : Heap} {W : Addr → Prop} (hk : ∀ b o, h.get? b = some o → h'.get? b = some o) : ∀ a o, frz h W a o → frz h' W a o :=
  fun a o x => ⟨hk a o x.1, x.2⟩

theorem Rep.keep {h h' : Heap} {W : Addr → Prop} (hk : ∀ b o, h.get? b = some o → h'.get? b = some o) {p : PV} {v : Value} (r : Rep (frz h W) p v) : Rep (frz h' W) p v := Rep.mono (frz_mono hk) p v r
theorem Reps.keep {h h' : Heap} {W : Addr → Prop} (hk : ∀ b o, h.get? b = some o → h'.get? b = some o) {p : List PV} {v : List Value} (r : Reps (frz h W) p v) : Reps (frz h' W) p v := Reps.mono (frz_mono hk) p v r

theorem Reps.length {g : Gr} : ∀ {ps : List PV} {vs : List Value}, Reps g ps vs → vs.length = ps.length
  | [], vs, r => by rw [Reps] at r; subst r; rfl
  | p :: ps, vs, r => by
    rw [Reps] at r
    obtain ⟨v, vs', rfl, _, hr⟩ := r
    simp [Reps.length hr]

theorem Reps.get {g : Gr} : ∀ {ps : List PV} {vs : List Value}, Reps g ps vs → ∀ (i : Nat) (p : PV), ps[i]? = some p → ∃ v, vs[i]? = some v ∧ Rep g p v
  | [], vs, r, i, p, h => by simp at h
  | q :: ps, vs, r, i, p, h => by
    rw [Reps] at r
    obtain ⟨v, vs', rfl, hv, hr⟩ := r
    cases i with
    | zero => simp at h; subst h; exact ⟨v, by simp, hv⟩
    | succ i => simp at h; obtain ⟨u, hu, r'⟩ := Reps.get hr i p h; exact ⟨u, by simpa using hu, r'⟩
theorem Reps.get' {g : Gr} {ps : List PV} {vs : List Value} (r : Reps g ps vs) (i : Nat) (v : Value) (h : vs[i]? = some v) : ∃ p, ps[i]? = some p ∧ Rep g p v := by
  have hl := r.length
  have hi : i < vs.length := by
    rcases Nat.lt_or_ge i vs.length with h' | h'
    · exact h'
    · rw [List.getElem?_eq_none h'] at h; cases h
  have hp : ps[i]? = some (ps[i]'(by lia)) := List.getElem?_eq_getElem (by lia)
  obtain ⟨u, hu, ru⟩ := r.get i _ hp
  first | exact clash h hu | (rw [h] at hu; cases hu)
  exact ⟨_, hp, ru⟩
theorem Reps.append {g : Gr} : ∀ {ps qs : List PV} {vs us : List Value}, Reps g ps vs → Reps g qs us → Reps g (ps ++ qs) (vs ++ us)
  | [], qs, vs, us, r, r' => by rw [Reps] at r; subst r; simpa using r'
  | p :: ps, qs, vs, us, r, r' => by
    rw [Reps] at r
    obtain ⟨v, vs', rfl, hv, hr⟩ := r
    show Reps g (p :: (ps ++ qs)) (v :: (vs' ++ us))
    rw [Reps]
    exact ⟨v, vs' ++ us, rfl, hv, hr.append r'⟩
theorem Reps.drop {g : Gr} : ∀ (k : Nat) {ps : List PV} {vs : List Value}, Reps g ps vs → Reps g (ps.drop k) (vs.drop k)
  | 0, ps, vs, r => by simpa using r
  | k + 1, [], vs, r => by rw [Reps] at r; subst r; simp [Reps]
  | k + 1, p :: ps, vs, r => by
    rw [Reps] at r
    obtain ⟨v, vs', rfl, hv, hr⟩ := r
    simpa using hr.drop k
theorem Reps.take {g : Gr} : ∀ (k : Nat) {ps : List PV} {vs : List Value}, Reps g ps vs → Reps g (ps.take k) (vs.take k)
  | 0, ps, vs, r => by simp [Reps]
  | k + 1, [], vs, r => by rw [Reps] at r; subst r; simp [Reps]
  | k + 1, p :: ps, vs, r => by
    rw [Reps] at r
    obtain ⟨v, vs', rfl, hv, hr⟩ := r
    show Reps g (p :: ps.take k) (v :: vs'.take k)
    rw [Reps]
    exact ⟨v, vs'.take k, rfl, hv, hr.take k⟩
theorem Reps.nil {g : Gr} : Reps g [] [] := by simp [Reps]
theorem Reps.cons {g : Gr} {p : PV} {v : Value} {ps : List PV} {vs : List Value} (h : Rep g p v) (r : Reps g ps vs) : Reps g (p :: ps) (v :: vs) := by rw [Reps]; exact ⟨v, vs, rfl, h, r⟩

theorem Keeps.rfl' {s : Shared} : Keeps s s := ⟨s.heap, s.toks, rfl, fun _ _ e => e⟩
theorem Keeps.tk {s : Shared} (t : Nat) : Keeps s { s with toks := t } := ⟨s.heap, t, rfl, fun _ _ e => e⟩
theorem Keeps.tr {a b c : Shared} (x : Keeps a b) (y : Keeps b c) : Keeps a c := by
  obtain ⟨h1, t1, rfl, k1⟩ := x
  obtain ⟨h2, t2, rfl, k2⟩ := y
  exact ⟨h2, t2, rfl, fun b o e => k2 b o (k1 b o e)⟩
theorem Keeps.push {s : Shared} (o : Obj) (t : Nat) : Keeps s { s with heap := s.heap.push o, toks := t } := ⟨_, t, rfl, fun _ _ e => Heap.get?_push_of_some _ e⟩
theorem Keeps.k {a b : Shared} (x : Keeps a b) : ∀ c o, a.heap.get? c = some o → b.heap.get? c = some o := by
  obtain ⟨h1, t1, rfl, k1⟩ := x; exact k1
theorem fresh_none (h : Heap) : h.get? h.objs.size = none := by
  cases e : h.get? h.objs.size with
  | none => rfl
  | some o => exact absurd (Heap.lt_size e) (Nat.lt_irrefl _)
theorem SZ_eq : SZ = sizeLine := rfl
end Mine
end

section
open PySem PySem.W PyProof.Rows
namespace Mine

set_option genInjectivity false
set_option genSizeOf false
inductive MTgt where
  | one (x : Str)
  | many (xs : List Str)
  | bad

inductive MExpr where
  | bad
  | const (c : PV)
  | var (x : Str)
  | bin (op : Operator) (a b : MExpr)
  | neg (a : MExpr)
  | not (a : MExpr)
  | and (a b : MExpr)
  | or (a b : MExpr)
  | cmp (op : CmpOp) (a b : MExpr)
  | ite (c a b : MExpr)
  | idx (a i : MExpr)
  | slc (a lo hi st : MExpr)
  | lst (es : List MExpr)
  | tup (es : List MExpr)
  | call (f : Str) (es : List MExpr)
  | meth (o : MExpr) (m : Str) (es : List MExpr)
  | fstr (es : List MExpr)
  | fmt (e : MExpr)
  | comp1 (elt : MExpr) (t : MTgt) (it : MExpr) (ifs : List MExpr) (fr : List Str)
  | comp2 (elt : MExpr) (t : MTgt) (it : MExpr) (ifs : List MExpr) (t2 : MTgt) (it2 : MExpr) (ifs2 : List MExpr) (fr : List Str)

inductive MStmt where
  | bad
  | assign (x : Str) (e : MExpr)
  | unpack (xs : List Str) (e : MExpr)
  | setIdx (o i e : MExpr)
  | aug (x : Str) (op : Operator) (e : MExpr)
  | bindApp (x : Str) (o : MExpr)
  | callv (f : Str) (e : MExpr)
  | mcall (o : MExpr) (m : Str) (e : MExpr)
  | popTo (xs : List Str) (o : MExpr)
  | if_ (c : MExpr) (a b : List MStmt)
  | while_ (c : MExpr) (b : List MStmt)
  | for_ (t : MTgt) (it : MExpr) (b : List MStmt)
  | ret (e : MExpr)
  | brk
  | assert_ (c : MExpr)
  | try_ (b h : List MStmt)

noncomputable def nameOf1 : Expr → Option Str
  | .Name x _ => some x
  | _ => none
noncomputable def namesOf : List Expr → Option (List Str)
  | [] => some []
  | e :: es => match nameOf1 e, namesOf es with
    | some x, some xs => some (x :: xs)
    | _, _ => none

noncomputable def trTgt : Expr → MTgt
  | .Name x _ => .one x
  | .Tuple es _ _ => match namesOf es with
    | some xs => .many xs
    | none => .bad
  | _ => .bad

noncomputable abbrev Names := List (Str × NameKind)
noncomputable def relab (ns Γ : Names) : Names := ns.map fun (n, k) => if k == .free && Γ.lookup n == some .cell then (n, .cell) else (n, k)
/-- the names that a comprehension takes from around it -/
noncomputable def frees (ns : Names) : List Str := (ns.filter fun x => x.2 == .free).map (·.1)
noncomputable def ownName (ns : Names) (x : Str) : Bool := ns.lookup x == some .local || ns.lookup x == some .cell
noncomputable def tgtOk (ns : Names) : MTgt → Bool
  | .one x => ownName ns x
  | .many xs => xs.all (ownName ns)
  | .bad => false
noncomputable def tgtNames : MTgt → List Str
  | .one x => [x]
  | .many xs => xs
  | .bad => []
noncomputable def apartT (t t2 : MTgt) : Bool := (tgtNames t2).all fun x => !(tgtNames t).contains x
noncomputable def compOk (sc : Scope) (Γ : Names) : Bool := sc.kind == .function &&
  sc.names.all fun x => sc.names.lookup x.1 == some x.2 && (x.2 != .free || Γ.lookup x.1 == some .cell || Γ.lookup x.1 == some .free)

mutual
noncomputable def tr (Γ : Names) : Expr → MExpr
  | .Constant c _ _ => match c with
    | .none => .const .none
    | .bool b => .const (.bool b)
    | .int i => .const (.int i)
    | .str s => if s.cps.toList.length ≤ SZ then .const (.str s.cps.toList) else .bad
    | _ => .bad
  | .Name x _ => if x == "__debug__" || x == "__classdict__" then .bad else .var x
  | .BinOp l op r _ => .bin op (tr Γ l) (tr Γ r)
  | .UnaryOp op x _ => match op with
    | .USub => .neg (tr Γ x)
    | .Not => .not (tr Γ x)
    | _ => .bad
  | .BoolOp op vs _ => match vs with
    | _ :: _ :: _ => trBool Γ op vs
    | _ => .bad
  | .Compare l ops cs _ => match ops, cs with
    | [op], [r] => .cmp op (tr Γ l) (tr Γ r)
    | _, _ => .bad
  | .IfExp c a b _ => .ite (tr Γ c) (tr Γ a) (tr Γ b)
  | .Subscript v sl _ => match sl with
    | .Slice lo hi st _ => .slc (tr Γ v) (trOpt Γ lo) (trOpt Γ hi) (trOpt Γ st)
    | i => .idx (tr Γ v) (tr Γ i)
  | .List es _ => .lst (trs Γ es)
  | .Tuple es _ _ => .tup (trs Γ es)
  | .Call fn args kws pos => match fn, kws with
    | .Name f _, [] => if Γ.lookup f == some .globalImplicit && !(f == "__debug__") then .call f (trs Γ args) else .bad
    | .Attribute o m apos, [] => match o with
      | .Call .. => .bad
      | _ => if apos.endLine == pos.line && args.length < 20 then .meth (tr Γ o) m (trs Γ args) else .bad
    | _, _ => .bad
  | .JoinedStr vs _ => .fstr (trs Γ vs)
  | .FormattedValue v conv spec _ => match conv, spec with
    | -1, none => .fmt (tr Γ v)
    | _, _ => .bad
  | .ListComp elt gens scope _ => match gens with
    | [⟨t, it, ifs, 0⟩] => if compOk scope Γ && tgtOk scope.names (trTgt t) then .comp1 (tr (relab scope.names Γ) elt) (trTgt t) (tr Γ it) (trs (relab scope.names Γ) ifs) (frees scope.names) else .bad
    | [⟨t, it, ifs, 0⟩, ⟨t2, it2, ifs2, 0⟩] => if compOk scope Γ && tgtOk scope.names (trTgt t) && tgtOk scope.names (trTgt t2) && apartT (trTgt t) (trTgt t2) then .comp2 (tr (relab scope.names Γ) elt) (trTgt t) (tr Γ it) (trs (relab scope.names Γ) ifs) (trTgt t2) (tr (relab scope.names Γ) it2) (trs (relab scope.names Γ) ifs2) (frees scope.names) else .bad
    | _ => .bad
  | _ => .bad
noncomputable def trBool (Γ : Names) (op : PySem.BoolOp) : List Expr → MExpr
  | [] => .bad
  | [e] => tr Γ e
  | e :: es => match op with
    | .And => .and (tr Γ e) (trBool Γ op es)
    | .Or => .or (tr Γ e) (trBool Γ op es)
noncomputable def trs (Γ : Names) : List Expr → List MExpr
  | [] => []
  | e :: es => tr Γ e :: trs Γ es
noncomputable def trOpt (Γ : Names) : Option Expr → MExpr
  | none => .const .none
  | some e => tr Γ e
end


noncomputable def swapOk : Expr → Bool
  | .Tuple vs _ _ => !(vs.all (constantsAlone 8)) || vs.all (foldedForSure 8)
  | _ => true

mutual
noncomputable def trS (Γ : Names) : Stmt → MStmt
  | .Assign ts v _ => match ts with
    | [.Name x _] => match v with
      | .Attribute o m _ => if m == "append" then .bindApp x (tr Γ o) else .bad
      | _ => .assign x (tr Γ v)
    | [.Tuple es _ _] => match namesOf es with
      | some xs => match v with
        | .Call (.Attribute o m apos) [] [] pos => if m == "pop" && apos.endLine == pos.line then .popTo xs (tr Γ o) else .bad
        | _ => if swapOk v then .unpack xs (tr Γ v) else .bad
      | none => .bad
    | [.Subscript o i _] => .setIdx (tr Γ o) (tr Γ i) (tr Γ v)
    | _ => .bad
  | .AugAssign t op v _ => match t with
    | .Name x _ => .aug x op (tr Γ v)
    | _ => .bad
  | .Expr e _ => match e with
    | .Call fn args kws pos => match fn, args, kws with
      | .Name f _, [a], [] => .callv f (tr Γ a)
      | .Attribute o m apos, [a], [] => if apos.endLine == pos.line then .mcall (tr Γ o) m (tr Γ a) else .bad
      | _, _, _ => .bad
    | _ => .bad
  | .If c a b _ => .if_ (tr Γ c) (trSs Γ a) (trSs Γ b)
  | .While c b orelse _ => match orelse with
    | [] => .while_ (tr Γ c) (trSs Γ b)
    | _ => .bad
  | .For t it b orelse _ => match orelse with
    | [] => .for_ (trTgt t) (tr Γ it) (trSs Γ b)
    | _ => .bad
  | .Return v _ => match v with
    | some e => .ret (tr Γ e)
    | none => .bad
  | .Break _ => .brk
  | .Assert c msg _ => match msg with
    | none => .assert_ (tr Γ c)
    | _ => .bad
  | .Try b hs orelse fin _ => match orelse, fin with
    | [], [] => .try_ (trSs Γ b) (trHs Γ hs)
    | _, _ => .bad
  | _ => .bad
noncomputable def trSs (Γ : Names) : List Stmt → List MStmt
  | [] => []
  | s :: ss => trS Γ s :: trSs Γ ss
noncomputable def trHs (Γ : Names) : List ExceptHandler → List MStmt
  | [.ExceptHandler ty name body _] => match ty, name with
    | some (.Name x _), none => if x == "AssertionError" then trSs Γ body else [.bad]
    | _, _ => [.bad]
  | _ => [.bad]
end

/-- what an expression of the small form came from -/
noncomputable def ViewE (Γ : Names) (v : Expr) : MExpr → Prop
  | .var x => ∃ pos, v = .Name x pos
  | .lst es => ∃ es' pos, v = .List es' pos ∧ trs Γ es' = es
  | .tup es => ∃ es' k pos, v = .Tuple es' k pos ∧ trs Γ es' = es
  | .call f es => ∃ np es' pos, v = .Call (.Name f np) es' [] pos ∧ trs Γ es' = es ∧ Γ.lookup f = some .globalImplicit ∧ (f == ("__debug__" : Str)) = false
  | .slc a lo hi st => ∃ v' lo' hi' st' p pos, v = .Subscript v' (.Slice lo' hi' st' p) pos ∧ tr Γ v' = a ∧ trOpt Γ lo' = lo ∧ trOpt Γ hi' = hi ∧ trOpt Γ st' = st
  | _ => True
theorem at_ite {α : Type} {P : α → Prop} {c : Prop} [Decidable c] {a b : α} (h1 : c → P a) (h2 : P b) : P (if c then a else b) := by
  by_cases h : c
  · rw [if_pos h]; exact h1 h
  · rw [if_neg h]; exact h2
theorem view_bool {Γ : Names} {v : Expr} (op : PySem.BoolOp) (a b : Expr) (r : List Expr) : ViewE Γ v (trBool Γ op (a :: b :: r)) := by
  cases op <;> exact trivial
theorem view_name {Γ : Names} {x : Str} {pos : Pos} : ViewE Γ (.Name x pos) (tr Γ (.Name x pos)) := by
  cases h : (x == "__debug__" || x == "__classdict__") with
  | true =>
    have : tr Γ (.Name x pos) = .bad := if_pos h
    rw [this]; exact trivial
  | false =>
    have : tr Γ (.Name x pos) = .var x := if_neg (by rw [h]; exact Bool.false_ne_true)
    rw [this]; exact ⟨pos, rfl⟩
theorem view_call {Γ : Names} {f : Str} {np : Pos} {args : List Expr} {pos : Pos} : ViewE Γ (.Call (.Name f np) args [] pos) (tr Γ (.Call (.Name f np) args [] pos)) :=
  at_ite (P := ViewE Γ (.Call (.Name f np) args [] pos)) (fun h => by
    obtain ⟨h1, h2⟩ := Bool.and_eq_true_iff.mp h
    exact ⟨np, args, pos, rfl, rfl, beq_iff_eq.mp h1, by simpa using h2⟩) trivial
theorem viewE (Γ : Names) (v : Expr) : ViewE Γ v (tr Γ v) := by
  cases v with
  | Name x pos => exact view_name
  | List es pos => exact ⟨es, pos, rfl, rfl⟩
  | Tuple es k pos => exact ⟨es, k, pos, rfl, rfl⟩
  | Constant c k pos =>
    cases c with
    | str s => exact at_ite (P := ViewE Γ (.Constant (.str s) k pos)) (fun _ => trivial) trivial
    | _ => exact trivial
  | UnaryOp op x pos => cases op <;> exact trivial
  | BoolOp op vs pos =>
    cases vs with
    | nil => exact trivial
    | cons a r => cases r with
      | nil => exact trivial
      | cons b r => exact view_bool op a b r
  | Compare l ops cs pos =>
    cases ops with
    | nil => exact trivial
    | cons o ops => cases ops with
      | cons _ _ => exact trivial
      | nil => cases cs with
        | nil => exact trivial
        | cons c cs => cases cs <;> exact trivial
  | Subscript x sl pos =>
    cases sl with
    | Slice lo hi st p => exact ⟨x, lo, hi, st, p, pos, rfl, rfl, rfl, rfl, rfl⟩
    | _ => exact trivial
  | Call fn args kws pos =>
    cases fn with
    | Name f np =>
      cases kws with
      | nil => exact view_call
      | cons _ _ => exact trivial
    | Attribute o m apos =>
      cases kws with
      | cons _ _ => exact trivial
      | nil => cases o with
        | Call _ _ _ _ => exact trivial
        | _ => exact at_ite (P := ViewE Γ (.Call (.Attribute _ m apos) args [] pos)) (fun _ => trivial) trivial
    | _ => exact trivial
  | FormattedValue v conv spec pos =>
    cases spec with
    | some _ => cases conv with
      | ofNat _ => exact trivial
      | negSucc k => cases k <;> exact trivial
    | none => cases conv with
      | ofNat _ => exact trivial
      | negSucc k => cases k <;> exact trivial
  | ListComp elt gens sc pos =>
    cases gens with
    | nil => exact trivial
    | cons g gens =>
      obtain ⟨t, it, ifs, as⟩ := g
      cases gens with
      | nil =>
        cases as with
        | negSucc _ => exact trivial
        | ofNat k => cases k with
          | succ _ => exact trivial
          | zero => exact at_ite (P := ViewE Γ (.ListComp elt [⟨t, it, ifs, 0⟩] sc pos)) (fun _ => trivial) trivial
      | cons g2 gens =>
        obtain ⟨t2, it2, ifs2, as2⟩ := g2
        cases gens with
        | cons _ _ => cases as with
          | negSucc _ => exact trivial
          | ofNat k => cases k with
            | succ _ => exact trivial
            | zero => cases as2 with
              | negSucc _ => exact trivial
              | ofNat k2 => cases k2 <;> exact trivial
        | nil =>
          cases as with
          | negSucc _ => exact trivial
          | ofNat k => cases k with
            | succ _ => exact trivial
            | zero => cases as2 with
              | negSucc _ => exact trivial
              | ofNat k2 => cases k2 with
                | succ _ => exact trivial
                | zero => exact at_ite (P := ViewE Γ (.ListComp elt [⟨t, it, ifs, 0⟩, ⟨t2, it2, ifs2, 0⟩] sc pos)) (fun _ => trivial) trivial
  | _ => exact trivial

/-- what a statement of the small form came from -/
noncomputable def ViewS (Γ : Names) (st : Stmt) : MStmt → Prop
  | .assign x e => ∃ px v pos, st = .Assign [.Name x px] v pos ∧ tr Γ v = e
  | .bindApp x e => ∃ px o ap pos, st = .Assign [.Name x px] (.Attribute o "append" ap) pos ∧ tr Γ o = e
  | .unpack xs e => ∃ ts k tp v pos, st = .Assign [.Tuple ts k tp] v pos ∧ namesOf ts = some xs ∧ tr Γ v = e ∧ swapOk v = true
  | .popTo xs e => ∃ ts k tp o apos pos spos, st = .Assign [.Tuple ts k tp] (.Call (.Attribute o "pop" apos) [] [] pos) spos ∧ namesOf ts = some xs ∧ tr Γ o = e ∧ (apos.endLine == pos.line) = true
  | .setIdx o i e => ∃ o' i' p v pos, st = .Assign [.Subscript o' i' p] v pos ∧ tr Γ o' = o ∧ tr Γ i' = i ∧ tr Γ v = e
  | .aug x op e => ∃ px v pos, st = .AugAssign (.Name x px) op v pos ∧ tr Γ v = e
  | .callv f e => ∃ np a' pos spos, st = .Expr (.Call (.Name f np) [a'] [] pos) spos ∧ tr Γ a' = e
  | .mcall o m e => ∃ o' apos a' pos spos, st = .Expr (.Call (.Attribute o' m apos) [a'] [] pos) spos ∧ tr Γ o' = o ∧ tr Γ a' = e ∧ (apos.endLine == pos.line) = true
  | .if_ c a b => ∃ c' a' b' pos, st = .If c' a' b' pos ∧ tr Γ c' = c ∧ trSs Γ a' = a ∧ trSs Γ b' = b
  | .while_ c b => ∃ c' b' pos, st = .While c' b' [] pos ∧ tr Γ c' = c ∧ trSs Γ b' = b
  | .for_ t it b => ∃ t' it' b' pos, st = .For t' it' b' [] pos ∧ trTgt t' = t ∧ tr Γ it' = it ∧ trSs Γ b' = b
  | .ret e => ∃ e' pos, st = .Return (some e') pos ∧ tr Γ e' = e
  | .brk => ∃ pos, st = .Break pos
  | .assert_ e => ∃ e' pos, st = .Assert e' none pos ∧ tr Γ e' = e
  | .try_ b h => ∃ b' hs pos, st = .Try b' hs [] [] pos ∧ trSs Γ b' = b ∧ trHs Γ hs = h
  | .bad => True

theorem view_app {Γ : Names} {x m : Str} {px ap pos : Pos} {o : Expr} : ViewS Γ (.Assign [.Name x px] (.Attribute o m ap) pos) (trS Γ (.Assign [.Name x px] (.Attribute o m ap) pos)) :=
  at_ite (P := ViewS Γ (.Assign [.Name x px] (.Attribute o m ap) pos)) (fun h => ⟨px, o, ap, pos, by rw [beq_iff_eq.mp h], rfl⟩) trivial
theorem view_tuple {Γ : Names} {ts : List Expr} {k : Nat} {tp pos : Pos} {v : Expr} : ViewS Γ (.Assign [.Tuple ts k tp] v pos) (trS Γ (.Assign [.Tuple ts k tp] v pos)) := by
  have gen : ∀ (o : Option (List Str)), namesOf ts = o → ViewS Γ (.Assign [.Tuple ts k tp] v pos) (match o with
      | some xs => match v with
        | .Call (.Attribute o m apos) [] [] pos => if m == "pop" && apos.endLine == pos.line then .popTo xs (tr Γ o) else .bad
        | _ => if swapOk v then .unpack xs (tr Γ v) else .bad
      | none => .bad) := by
    intro o ho
    cases o with
    | none => exact trivial
    | some xs =>
      have plain : ViewS Γ (.Assign [.Tuple ts k tp] v pos) (if swapOk v then .unpack xs (tr Γ v) else .bad) := at_ite (P := ViewS Γ (.Assign [.Tuple ts k tp] v pos)) (fun h => ⟨ts, k, tp, v, pos, rfl, ho, rfl, h⟩) trivial
      cases v with
      | Call fn args kws cp =>
        cases fn with
        | Attribute ob m apos =>
          cases args with
          | cons _ _ => exact plain
          | nil => cases kws with
            | cons _ _ => exact plain
            | nil =>
              refine at_ite (P := ViewS Γ (.Assign [.Tuple ts k tp] (.Call (.Attribute ob m apos) [] [] cp) pos)) (fun h => ?_) trivial
              obtain ⟨h1, h2⟩ := Bool.and_eq_true_iff.mp h
              have h1 := beq_iff_eq.mp h1
              subst h1
              exact ⟨ts, k, tp, ob, apos, cp, pos, rfl, ho, rfl, h2⟩
        | _ => exact plain
      | _ => exact plain
  exact gen _ rfl
theorem view_expr {Γ : Names} {e : Expr} {pos : Pos} : ViewS Γ (.Expr e pos) (trS Γ (.Expr e pos)) := by
  cases e with
  | Call fn args kws cp =>
    cases fn with
    | Name f np =>
      cases args with
      | nil => exact trivial
      | cons a as => cases as with
        | cons _ _ => exact trivial
        | nil => cases kws with
          | cons _ _ => exact trivial
          | nil => exact ⟨np, a, cp, pos, rfl, rfl⟩
    | Attribute o m apos =>
      cases args with
      | nil => exact trivial
      | cons a as => cases as with
        | cons _ _ => exact trivial
        | nil => cases kws with
          | cons _ _ => exact trivial
          | nil => exact at_ite (P := ViewS Γ (.Expr (.Call (.Attribute o m apos) [a] [] cp) pos)) (fun h => ⟨o, apos, a, cp, pos, rfl, rfl, rfl, h⟩) trivial
    | _ => exact trivial
  | _ => exact trivial
theorem viewS (Γ : Names) (st : Stmt) : ViewS Γ st (trS Γ st) := by
  cases st with
  | Assign ts v pos =>
    cases ts with
    | nil => exact trivial
    | cons t ts => cases ts with
      | cons _ _ => cases t <;> exact trivial
      | nil => cases t with
        | Name x px =>
          cases v with
          | Attribute o m ap => exact view_app
          | _ => exact ⟨px, _, pos, rfl, rfl⟩
        | Tuple es k tp => exact view_tuple
        | Subscript o i p => exact ⟨o, i, p, v, pos, rfl, rfl, rfl, rfl⟩
        | _ => exact trivial
  | AugAssign t op v pos =>
    cases t with
    | Name x px => exact ⟨px, v, pos, rfl, rfl⟩
    | _ => exact trivial
  | Expr e pos => exact view_expr
  | If c a b pos => exact ⟨c, a, b, pos, rfl, rfl, rfl, rfl⟩
  | While c b e pos =>
    cases e with
    | nil => exact ⟨c, b, pos, rfl, rfl, rfl⟩
    | cons _ _ => exact trivial
  | For t it b e pos =>
    cases e with
    | nil => exact ⟨t, it, b, pos, rfl, rfl, rfl, rfl⟩
    | cons _ _ => exact trivial
  | Return v pos =>
    cases v with
    | none => exact trivial
    | some e => exact ⟨e, pos, rfl, rfl⟩
  | Break pos => exact ⟨pos, rfl⟩
  | Assert c m pos =>
    cases m with
    | none => exact ⟨c, pos, rfl, rfl⟩
    | some _ => exact trivial
  | Try b hs e f pos =>
    cases e with
    | cons _ _ => exact trivial
    | nil => cases f with
      | nil => exact ⟨b, hs, pos, rfl, rfl, rfl⟩
      | cons _ _ => exact trivial
  | _ => exact trivial
theorem vwE {Γ : Names} {v : Expr} {m : MExpr} (h : tr Γ v = m) : ViewE Γ v m := h ▸ viewE Γ v
theorem vwS {Γ : Names} {st : Stmt} {m : MStmt} (h : trS Γ st = m) : ViewS Γ st m := h ▸ viewS Γ st
section
variable {Γ : Names}
theorem inv_var {v : Expr} {x : Str} (h : tr Γ v = .var x) : ∃ pos, v = .Name x pos := vwE h
theorem inv_lst {v : Expr} {es : List MExpr} (h : tr Γ v = .lst es) : ∃ es' pos, v = .List es' pos ∧ trs Γ es' = es := vwE h
theorem inv_tup {v : Expr} {es : List MExpr} (h : tr Γ v = .tup es) : ∃ es' k pos, v = .Tuple es' k pos ∧ trs Γ es' = es := vwE h
theorem inv_slc {v : Expr} {a lo hi st : MExpr} (h : tr Γ v = .slc a lo hi st) : ∃ v' lo' hi' st' p pos, v = .Subscript v' (.Slice lo' hi' st' p) pos ∧ tr Γ v' = a ∧ trOpt Γ lo' = lo ∧ trOpt Γ hi' = hi ∧ trOpt Γ st' = st := vwE h
theorem inv_assign {st : Stmt} {x : Str} {e : MExpr} (h : trS Γ st = .assign x e) : ∃ px v pos, st = .Assign [.Name x px] v pos ∧ tr Γ v = e := vwS h
theorem inv_bindApp {st : Stmt} {x : Str} {e : MExpr} (h : trS Γ st = .bindApp x e) : ∃ px o ap pos, st = .Assign [.Name x px] (.Attribute o "append" ap) pos ∧ tr Γ o = e := vwS h
theorem inv_unpack {st : Stmt} {xs : List Str} {e : MExpr} (h : trS Γ st = .unpack xs e) : ∃ ts k tp v pos, st = .Assign [.Tuple ts k tp] v pos ∧ namesOf ts = some xs ∧ tr Γ v = e ∧ swapOk v = true := vwS h
theorem inv_pop {st : Stmt} {xs : List Str} {e : MExpr} (h : trS Γ st = .popTo xs e) : ∃ ts k tp o apos pos spos, st = .Assign [.Tuple ts k tp] (.Call (.Attribute o "pop" apos) [] [] pos) spos ∧ namesOf ts = some xs ∧ tr Γ o = e ∧ (apos.endLine == pos.line) = true := vwS h
theorem inv_aug {st : Stmt} {x : Str} {op : Operator} {e : MExpr} (h : trS Γ st = .aug x op e) : ∃ px v pos, st = .AugAssign (.Name x px) op v pos ∧ tr Γ v = e := vwS h
theorem inv_callv {st : Stmt} {f : Str} {e : MExpr} (h : trS Γ st = .callv f e) : ∃ np a' pos spos, st = .Expr (.Call (.Name f np) [a'] [] pos) spos ∧ tr Γ a' = e := vwS h
theorem inv_mcall {st : Stmt} {o : MExpr} {m : Str} {e : MExpr} (h : trS Γ st = .mcall o m e) : ∃ o' apos a' pos spos, st = .Expr (.Call (.Attribute o' m apos) [a'] [] pos) spos ∧ tr Γ o' = o ∧ tr Γ a' = e ∧ (apos.endLine == pos.line) = true := vwS h
theorem inv_if {st : Stmt} {c : MExpr} {a b : List MStmt} (h : trS Γ st = .if_ c a b) : ∃ c' a' b' pos, st = .If c' a' b' pos ∧ tr Γ c' = c ∧ trSs Γ a' = a ∧ trSs Γ b' = b := vwS h
theorem inv_while {st : Stmt} {c : MExpr} {b : List MStmt} (h : trS Γ st = .while_ c b) : ∃ c' b' pos, st = .While c' b' [] pos ∧ tr Γ c' = c ∧ trSs Γ b' = b := vwS h
theorem inv_for {st : Stmt} {t : MTgt} {it : MExpr} {b : List MStmt} (h : trS Γ st = .for_ t it b) : ∃ t' it' b' pos, st = .For t' it' b' [] pos ∧ trTgt t' = t ∧ tr Γ it' = it ∧ trSs Γ b' = b := vwS h
theorem inv_ret {st : Stmt} {e : MExpr} (h : trS Γ st = .ret e) : ∃ e' pos, st = .Return (some e') pos ∧ tr Γ e' = e := vwS h
theorem inv_brk {st : Stmt} (h : trS Γ st = .brk) : ∃ pos, st = .Break pos := vwS h
theorem inv_assert {st : Stmt} {e : MExpr} (h : trS Γ st = .assert_ e) : ∃ e' pos, st = .Assert e' none pos ∧ tr Γ e' = e := vwS h
end
end Mine
end

section
open PySem PySem.W PyProof.Rows
namespace Mine

noncomputable def biNames : List Str := ["len", "range", "list", "min", "sum", "divmod", "chr", "sorted", "object", "AssertionError"]

noncomputable abbrev Rho := Str → Option PV
noncomputable abbrev Mu := Addr → Option (List PV)

noncomputable def upd (ρ : Rho) (x : Str) (p : PV) : Rho := fun y => if y = x then some p else ρ y
noncomputable def restr (fr : List Str) (ρ : Rho) : Rho := fun y => if y ∈ fr then ρ y else none
noncomputable def updMany : Rho → List Str → List PV → Option Rho
  | ρ, [], [] => some ρ
  | ρ, x :: xs, p :: ps => updMany (upd ρ x p) xs ps
  | _, _, _ => none
noncomputable def bindT (ρ : Rho) (t : MTgt) (p : PV) : Option Rho :=
  match t, p with
  | .one x, p => some (upd ρ x p)
  | .many xs, .tup ps => updMany ρ xs ps
  | _, _ => none

/-- an owned list seen as its items -/
noncomputable def rs (μ : Mu) : PV → PV
  | .own a => match μ a with
    | some xs => .lst xs
    | none => .own a
  | p => p

noncomputable def truth : PV → Option Bool
  | .none => some false
  | .bool b => some b
  | _ => none

noncomputable def getI {α : Type} (xs : List α) (k : Int) : Option α :=
  if 0 ≤ k then xs[k.toNat]? else if -(xs.length : Int) ≤ k then xs[(k + xs.length).toNat]? else none

noncomputable def clip (n : Nat) (i : Int) : Nat := (max 0 (min (if i < 0 then i + n else i) n)).toNat
noncomputable def sl {α : Type} (xs : List α) (lo hi : Option Int) : List α :=
  (xs.drop (lo.elim 0 (clip xs.length))).take (hi.elim xs.length (clip xs.length) - lo.elim 0 (clip xs.length))

noncomputable def zipAll (f : PV → PV → Option Bool) : List PV → List PV → Option Bool
  | a :: as, b :: bs => match f a b, zipAll f as bs with
    | some x, some y => some (x && y)
    | _, _ => none
  | _, _ => some true

noncomputable def pveq : Nat → PV → PV → Option Bool
  | 0, _, _ => none
  | n + 1, p, q => match p, q with
    | .none, .none => some true
    | .none, .bool _ => some false
    | .bool _, .none => some false
    | .bool a, .bool b => some (a == b)
    | .int a, .int b => some (a == b)
    | .str a, .str b => some (a == b)
    | .tup a, .tup b => (zipAll (pveq n) a b).map (· && a.length == b.length)
    | .lst a, .lst b => if a.length = b.length then zipAll (pveq n) a b else some false
    | _, _ => none

noncomputable def pvis (a b : PV) : Option Bool := match b with
  | .none => match a with
    | .none => some true
    | .bool _ => some false
    | .int _ => some false
    | .str _ => some false
    | .lst _ => some false
    | .tup _ => some false
    | _ => none
  | .obj y => match a with
    | .str _ => some false
    | .obj x => if x = y then some true else none
    | _ => none
  | .str _ => match a with
    | .obj _ => some false
    | _ => none
  | _ => none

noncomputable def anyEq (x : PV) : List PV → Option Bool
  | [] => some false
  | y :: ys => match pveq 8 y x, anyEq x ys with
    | some a, some b => some (a || b)
    | _, _ => none

noncomputable def pvin (a b : PV) : Option Bool := match b with
  | .lst ys => anyEq a ys
  | .tup ys => anyEq a ys
  | .str x => match a with
    | .str [c] => some (decide (c ∈ x))
    | _ => none
  | _ => none

noncomputable def rep {α : Type} (n : Nat) (xs : List α) : List α := (List.replicate n xs).flatten

theorem no {α : Type} {x : α} {P : Prop} (h : none = some x) : P := nomatch h

noncomputable def int2 (f : Int → Int → Option PV) (p q : PV) : Option PV := match p with
  | .int x => match q with
    | .int y => f x y
    | _ => none
  | _ => none
theorem int2_inv {f : Int → Int → Option PV} {p q r : PV} (h : int2 f p q = some r) : ∃ x y, p = .int x ∧ q = .int y ∧ f x y = some r := by
  cases p with
  | int x =>
    cases q with
    | int y => exact ⟨x, y, rfl, rfl, h⟩
    | _ => exact no h
  | _ => exact no h
theorem opt_if {α : Type} {c : Prop} [Decidable c] {x r : α} (h : (if c then some x else none) = some r) : c ∧ x = r := by
  by_cases hc : c
  · rw [if_pos hc] at h; exact ⟨hc, Option.some.inj h⟩
  · rw [if_neg hc] at h; exact no h

noncomputable def addV (p q : PV) : Option PV := match p with
  | .int x => match q with
    | .int y => some (.int (x + y))
    | _ => none
  | .str x => match q with
    | .str y => if x.length + y.length ≤ SZ then some (.str (x ++ y)) else none
    | _ => none
  | .lst x => match q with
    | .lst y => if x.length + y.length ≤ SZ then some (.lst (x ++ y)) else none
    | _ => none
  | _ => none
noncomputable def mulV (p q : PV) : Option PV := match q with
  | .int n => match p with
    | .int x => if x.natAbs < 2 ^ 60 ∧ n.natAbs < 2 ^ 60 then some (.int (x * n)) else none
    | .lst x => if 0 ≤ n ∧ x.length * n.toNat ≤ SZ ∧ n < 2 ^ 60 then some (.lst (rep n.toNat x)) else none
    | .str x => if 0 ≤ n ∧ x.length * n.toNat ≤ SZ ∧ n < 2 ^ 60 then some (.str (rep n.toNat x)) else none
    | _ => none
  | _ => none

noncomputable def evBin (μ : Mu) (op : Operator) (a b : PV) : Option PV :=
  match op with
  | .Add => addV (rs μ a) (rs μ b)
  | .Sub => int2 (fun x y => some (.int (x - y))) (rs μ a) (rs μ b)
  | .Mult => mulV (rs μ a) (rs μ b)
  | .FloorDiv => int2 (fun x y => if 0 < y ∧ y < 2 ^ 29 then some (.int (x / y)) else none) (rs μ a) (rs μ b)
  | .Mod => int2 (fun x y => if 0 < y then some (.int (x % y)) else none) (rs μ a) (rs μ b)
  | .Pow => int2 (fun x y => if x = 2 ∧ 0 ≤ y ∧ y < 64 then some (.int (2 ^ y.toNat)) else none) (rs μ a) (rs μ b)
  | _ => none

noncomputable def evCmp (μ : Mu) (op : CmpOp) (a b : PV) : Option PV :=
  match op with
  | .Eq => (pveq 8 (rs μ a) (rs μ b)).map .bool
  | .NotEq => (pveq 8 (rs μ a) (rs μ b)).map fun x => .bool !x
  | .Is => (pvis a b).map .bool
  | .IsNot => (pvis a b).map fun x => .bool !x
  | .In => (pvin a (rs μ b)).map .bool
  | .NotIn => (pvin a (rs μ b)).map fun x => .bool !x
  | .Lt => int2 (fun x y => some (.bool (decide (x < y)))) a b
  | .LtE => int2 (fun x y => some (.bool (decide (x ≤ y)))) a b
  | .Gt => int2 (fun x y => some (.bool (decide (y < x)))) a b
  | .GtE => int2 (fun x y => some (.bool (decide (y ≤ x)))) a b

noncomputable def evIdx (μ : Mu) (a i : PV) : Option PV :=
  match i with
  | .int k => match rs μ a with
    | .lst xs => getI xs k
    | .tup xs => getI xs k
    | .str xs => (getI xs k).map fun c => .str [c]
    | _ => none
  | _ => none

noncomputable def optI : PV → Option (Option Int)
  | .none => some none
  | .int i => some (some i)
  | _ => none

noncomputable def slcV (l h : Option Int) : PV → Option PV
  | .lst xs => some (.lst (sl xs l h))
  | .str xs => some (.str (sl xs l h))
  | _ => none
noncomputable def evSlc (μ : Mu) (a lo hi st : PV) : Option PV :=
  match st with
  | .none => match optI lo with
    | some l => match optI hi with
      | some h => slcV l h (rs μ a)
      | none => none
    | none => none
  | _ => none
theorem evSlc_inv {μ : Mu} {x l u k r : PV} (h : evSlc μ x l u k = some r) : ∃ lo hi, k = .none ∧ optI l = some lo ∧ optI u = some hi ∧ slcV lo hi (rs μ x) = some r := by
  cases k with
  | none =>
    have h : (match optI l with
      | some l => match optI u with
        | some h => slcV l h (rs μ x)
        | none => none
      | none => none) = some r := h
    cases h1 : optI l with
    | none => rw [h1] at h; exact no h
    | some lo =>
      rw [h1] at h
      cases h2 : optI u with
      | none => rw [h2] at h; exact no h
      | some hi => rw [h2] at h; exact ⟨lo, hi, rfl, rfl, rfl, h⟩
  | _ => exact no h

noncomputable def intsFrom (lo : Int) (n : Nat) (st : Int) : List PV := (List.range n).map fun (i : Nat) => .int (lo + (i : Int) * st)

/-- no list that may be written -/
noncomputable def notOwn : PV → Bool
  | .own _ => false
  | _ => true
/-- a value that holds no address -/
noncomputable def flat : PV → Bool
  | .none | .bool _ | .int _ | .str _ => true
  | _ => false

/-- the items that a loop meets -/
noncomputable def iterV : PV → Option (List PV)
  | .lst xs => some xs
  | .tup xs => some xs
  | .str xs => some (xs.map fun c => .str [c])
  | .rng lo n st => some (intsFrom lo n st)
  | _ => none
noncomputable def iter (μ : Mu) (p : PV) : Option (List PV) := iterV (rs μ p)

noncomputable def compRun (f : PV → Option (List PV)) : List PV → Option (List PV)
  | [] => some []
  | x :: xs => match f x, compRun f xs with
    | some a, some r => some (a ++ r)
    | _, _ => none

noncomputable def joinStrs (sep : List Nat) : List PV → Option (List Nat)
  | [] => some []
  | [.str x] => some x
  | .str x :: r => (joinStrs sep r).map fun y => x ++ sep ++ y
  | _ => none

noncomputable def catStrs : List PV → Option (List Nat)
  | [] => some []
  | .str x :: r => (catStrs r).map fun y => x ++ y
  | _ => none

/-- leftmost cuts of y in x, each put as z (y not empty) -/
noncomputable def repl (y z : List Nat) : Nat → List Nat → List Nat
  | 0, x => x
  | n + 1, x => match x with
    | [] => []
    | c :: r => if y.isPrefixOf (c :: r) then z ++ repl y z n ((c :: r).drop y.length) else c :: repl y z n r

noncomputable def sumInts : List PV → Option Int
  | [] => some 0
  | .int i :: r => (sumInts r).map (i + ·)
  | _ => none

noncomputable def listLe : List PV → List PV → Bool
  | .int a :: as, .int b :: bs => if a < b then true else if b < a then false else listLe as bs
  | [], _ => true
  | _, _ => false


noncomputable def arg1 (f : PV → Option PV) : List PV → Option PV
  | [p] => f p
  | _ => none
noncomputable def arg2 (f : PV → PV → Option PV) : List PV → Option PV
  | [p, q] => f p q
  | _ => none
theorem arg1_inv {f : PV → Option PV} {ps : List PV} {r : PV} (h : arg1 f ps = some r) : ∃ p, ps = [p] ∧ f p = some r := by
  cases ps with
  | nil => exact no h
  | cons p ps => cases ps with
    | nil => exact ⟨p, rfl, h⟩
    | cons _ _ => exact no h
theorem arg2_inv {f : PV → PV → Option PV} {ps : List PV} {r : PV} (h : arg2 f ps = some r) : ∃ p q, ps = [p, q] ∧ f p q = some r := by
  cases ps with
  | nil => exact no h
  | cons p ps => cases ps with
    | nil => exact no h
    | cons q ps => cases ps with
      | nil => exact ⟨p, q, rfl, h⟩
      | cons _ _ => exact no h
noncomputable def int1 (f : Int → Option PV) : PV → Option PV
  | .int i => f i
  | _ => none
theorem int1_inv {f : Int → Option PV} {p r : PV} (h : int1 f p = some r) : ∃ i, p = .int i ∧ f i = some r := by
  cases p with
  | int i => exact ⟨i, rfl, h⟩
  | _ => exact no h
noncomputable def lenV : PV → Option PV
  | .lst xs => some (.int xs.length)
  | .tup xs => some (.int xs.length)
  | .str xs => some (.int xs.length)
  | _ => none
noncomputable def listV : PV → Option PV
  | .rng lo n st => if n ≤ SZ then some (.lst (intsFrom lo n st)) else none
  | _ => none
noncomputable def rangeV (args : List PV) : Option PV := match args with
  | [p] => int1 (fun b => if b.natAbs < 2 ^ 60 then some (.rng 0 b.toNat 1) else none) p
  | [p, q] => int2 (fun a b => if a.natAbs < 2 ^ 60 ∧ b.natAbs < 2 ^ 60 then some (.rng a (b - a).toNat 1) else none) p q
  | [p, q, z] => int1 (fun c => int2 (fun a b => if a.natAbs < 2 ^ 60 ∧ b.natAbs < 2 ^ 60 ∧ c = -1 then some (.rng a (a - b).toNat (-1)) else none) p q) z
  | _ => none

noncomputable def evCall (μ : Mu) (f : Str) (args : List PV) : Option PV :=
  if f = "len" then arg1 (fun p => lenV (rs μ p)) args
  else if f = "range" then rangeV args
  else if f = "list" then arg1 listV args
  else if f = "min" then arg2 (int2 fun a b => some (.int (min a b))) args
  else if f = "chr" then arg1 (int1 fun a => if 0 ≤ a ∧ a < 1114112 then some (.str [a.toNat]) else none) args
  else none

noncomputable def evMeth (μ : Mu) (o : PV) (m : Str) (args : List PV) : Option PV :=
  if m = "join" then match o, args with
    | .str sep, [p] => match rs μ p with
      | .lst xs => match joinStrs sep xs with
        | some y => if y.length + sep.length ≤ SZ then some (.str y) else none
        | none => none
      | _ => none
    | _, _ => none
  else none

mutual
noncomputable def ev (T : Str → List PV → Option PV) (μ : Mu) : MExpr → Rho → Option PV
  | .bad, _ => none
  | .const c, _ => some c
  | .var x, ρ => ρ x
  | .bin op a b, ρ => match ev T μ a ρ, ev T μ b ρ with
    | some x, some y => evBin μ op x y
    | _, _ => none
  | .neg a, ρ => match ev T μ a ρ with
    | some (.int i) => some (.int (-i))
    | _ => none
  | .not a, ρ => match ev T μ a ρ with
    | some x => (truth x).map fun b => .bool !b
    | none => none
  | .and a b, ρ => match ev T μ a ρ with
    | some x => match truth x with
      | some true => ev T μ b ρ
      | some false => some x
      | none => none
    | none => none
  | .or a b, ρ => match ev T μ a ρ with
    | some x => match truth x with
      | some true => some x
      | some false => ev T μ b ρ
      | none => none
    | none => none
  | .cmp op a b, ρ => match ev T μ a ρ, ev T μ b ρ with
    | some x, some y => evCmp μ op x y
    | _, _ => none
  | .ite c a b, ρ => match ev T μ c ρ with
    | some x => match truth x with
      | some true => ev T μ a ρ
      | some false => ev T μ b ρ
      | none => none
    | none => none
  | .idx a i, ρ => match ev T μ a ρ, ev T μ i ρ with
    | some x, some y => evIdx μ x y
    | _, _ => none
  | .slc a lo hi st, ρ => match ev T μ a ρ, ev T μ lo ρ, ev T μ hi ρ, ev T μ st ρ with
    | some x, some l, some h, some k => evSlc μ x l h k
    | _, _, _, _ => none
  | .lst es, ρ => match evs T μ es ρ with
    | some xs => if xs.length ≤ SZ then some (.lst xs) else none
    | none => none
  | .tup es, ρ => match evs T μ es ρ with
    | some xs => if xs.length ≤ SZ then some (.tup xs) else none
    | none => none
  | .call f es, ρ => match evs T μ es ρ with
    | some xs => if f ∈ biNames then evCall μ f xs else
      if xs.all notOwn then T f xs else match T f (xs.map (rs μ)) with
        | some r => if flat r then some r else none
        | none => none
    | none => none
  | .meth o m es, ρ => match ev T μ o ρ, evs T μ es ρ with
    | some x, some xs => evMeth μ x m xs
    | _, _ => none
  | .fstr es, ρ => match evs T μ es ρ with
    | some xs => match catStrs xs with
      | some y => if y.length ≤ SZ ∧ 2 ≤ es.length then some (.str y) else none
      | none => none
    | none => none
  | .fmt e, ρ => match ev T μ e ρ with
    | some (.str x) => some (.str x)
    | _ => none
  | .comp1 elt t it ifs fr, ρ => match ev T μ it ρ with
    | some x => match iter μ x with
      | some items => match compRun (fun p => match bindT (restr fr ρ) t p with
          | some ρ' => match evAll T μ ifs ρ' with
            | some true => (ev T μ elt ρ').map fun y => [y]
            | some false => some []
            | none => none
          | none => none) items with
        | some ys => if ys.length ≤ SZ ∧ items.length ≤ SZ then some (.lst ys) else none
        | none => none
      | none => none
    | none => none
  | .comp2 elt t it ifs t2 it2 ifs2 fr, ρ => match ev T μ it ρ with
    | some x => match iter μ x with
      | some items => match compRun (fun p => match bindT (restr fr ρ) t p with
          | some ρ' => match evAll T μ ifs ρ' with
            | some true => match ev T μ it2 ρ' with
              | some x2 => match iter μ x2 with
                | some items2 => compRun (fun p2 => match bindT ρ' t2 p2 with
                  | some ρ'' => match evAll T μ ifs2 ρ'' with
                    | some true => (ev T μ elt ρ'').map fun y => [y]
                    | some false => some []
                    | none => none
                  | none => none) items2
                | none => none
              | none => none
            | some false => some []
            | none => none
          | none => none) items with
        | some ys => if ys.length ≤ SZ ∧ items.length ≤ SZ then some (.lst ys) else none
        | none => none
      | none => none
    | none => none
noncomputable def evs (T : Str → List PV → Option PV) (μ : Mu) : List MExpr → Rho → Option (List PV)
  | [], _ => some []
  | e :: es, ρ => match ev T μ e ρ, evs T μ es ρ with
    | some x, some xs => some (x :: xs)
    | _, _ => none
noncomputable def evAll (T : Str → List PV → Option PV) (μ : Mu) : List MExpr → Rho → Option Bool
  | [], _ => some true
  | e :: es, ρ => match ev T μ e ρ with
    | some x => match truth x with
      | some true => evAll T μ es ρ
      | some false => some false
      | none => none
    | none => none
end
end Mine
end

section
open PySem PySem.W PyProof.Rows
namespace Mine

noncomputable def Post (W : Addr → Prop) (s : Shared) (p : PV) : Value → Shared → Prop := fun v s' => Keeps s s' ∧ Rep (frz s'.heap W) p v

structure SR (W : Addr → Prop) (h : Heap) (μ : Mu) : Prop where
  wl : ∀ a, W a → ∃ o, h.get? a = some o
  ls : ∀ a xs, μ a = some xs → ∃ vs n, h.get? a = some (lObj vs n) ∧ vs.length ≤ SZ ∧ Reps (frz h W) xs vs

theorem SR.keep {W : Addr → Prop} {h h' : Heap} {μ : Mu} (S : SR W h μ) (hk : ∀ b o, h.get? b = some o → h'.get? b = some o) : SR W h' μ :=
  ⟨fun a ha => let ⟨o, ho⟩ := S.wl a ha; ⟨o, hk _ _ ho⟩, fun a xs hx => let ⟨vs, n, h1, h2, h3⟩ := S.ls a xs hx; ⟨vs, n, hk _ _ h1, h2, h3.keep hk⟩⟩
theorem SR.fresh {W : Addr → Prop} {h : Heap} {μ : Mu} (S : SR W h μ) : ¬ W h.objs.size := fun hw => by
  obtain ⟨o, ho⟩ := S.wl _ hw
  first | exact clash (fresh_none _) ho | (rw [fresh_none] at ho; cases ho)

theorem rs_lst {μ : Mu} {W : Addr → Prop} {h : Heap} (S : SR W h μ) {p : PV} {xs : List PV} {v : Value} (e : rs μ p = .lst xs) (r : Rep (frz h W) p v) :
    ∃ a vs n, v = .ref a ∧ h.get? a = some (lObj vs n) ∧ vs.length ≤ SZ ∧ Reps (frz h W) xs vs := by
  cases p with
  | own a =>
    rw [rs] at e
    cases hm : μ a with
    | none => first | exact clash hm e | (rw [hm] at e; cases e)
    | some ys =>
      first | exact clash hm e | (rw [hm] at e; cases e)
      obtain ⟨vs, n, h1, h2, h3⟩ := S.ls a xs hm
      exact ⟨a, vs, n, r, h1, h2, h3⟩
  | lst ys =>
    cases e
    rw [Rep] at r
    obtain ⟨a, vs, n, rfl, hg, hl, hr⟩ := r
    exact ⟨a, vs, n, rfl, hg.1, hl, hr⟩
  | _ => cases e
theorem rs_int {μ : Mu} {p : PV} {i : Int} (e : rs μ p = .int i) : p = .int i := by
  cases p with
  | own a => rw [rs] at e; cases hm : μ a <;> rw [hm] at e <;> cases e
  | _ => exact e
theorem rs_str {μ : Mu} {p : PV} {i : List Nat} (e : rs μ p = .str i) : p = .str i := by
  cases p with
  | own a => rw [rs] at e; cases hm : μ a <;> rw [hm] at e <;> cases e
  | _ => exact e
theorem rs_tup {μ : Mu} {p : PV} {i : List PV} (e : rs μ p = .tup i) : p = .tup i := by
  cases p with
  | own a => rw [rs] at e; cases hm : μ a <;> rw [hm] at e <;> cases e
  | _ => exact e
theorem rs_rng {μ : Mu} {p : PV} {a : Int} {b : Nat} {c : Int} (e : rs μ p = .rng a b c) : p = .rng a b c := by
  cases p with
  | own a => rw [rs] at e; cases hm : μ a <;> rw [hm] at e <;> cases e
  | _ => exact e

theorem Str.len_mk (x : List Nat) : Str.length ⟨x.toArray⟩ = x.length := by simp [Str.length]
theorem Str.app_mk (x y : List Nat) : (⟨x.toArray⟩ : Str) ++ (⟨y.toArray⟩ : Str) = ⟨(x ++ y).toArray⟩ := by
  show Str.append _ _ = _
  simp [Str.append]

section
variable {prog : Program} {w : World} {A : Around} {E : Value → Shared → Prop} {s : Shared} {W : Addr → Prop} {μ : Mu}

theorem post_int {i : Int} {t n : Nat} : Post W s (.int i) (.int i t) { s with toks := n } := ⟨Keeps.tk n, by rw [Rep]; exact ⟨t, rfl⟩⟩
theorem post_bool {b : Bool} : Post W s (.bool b) (.bool b) s := ⟨Keeps.rfl', by rw [Rep]⟩
theorem post_str {x : List Nat} {t n : Nat} (h : x.length ≤ SZ) : Post W s (.str x) (.str ⟨x.toArray⟩ t) { s with toks := n } := ⟨Keeps.tk n, by rw [Rep]; exact ⟨h, t, rfl⟩⟩
theorem post_tup {xs : List PV} {vs : List Value} {n tk : Nat} (S : SR W s.heap μ) (hl : vs.length ≤ SZ) (r : Reps (frz s.heap W) xs vs) :
    Post W s (.tup xs) (.ref s.heap.objs.size) { s with heap := s.heap.push (tObj vs n), toks := tk } :=
  ⟨Keeps.push _ _, by rw [Rep]; exact ⟨_, vs, n, rfl, ⟨Heap.get?_push_size _ rfl, S.fresh⟩, hl, r.keep fun _ _ e => Heap.get?_push_of_some _ e⟩⟩

/-- a new list: its address is new -/
noncomputable def PostL (W : Addr → Prop) (s : Shared) (xs : List PV) : Value → Shared → Prop := fun v s' =>
  Keeps s s' ∧ ∃ a vs n, v = .ref a ∧ s.heap.get? a = none ∧ s'.heap.get? a = some (lObj vs n) ∧ vs.length ≤ SZ ∧ Reps (frz s'.heap (fun b => W b ∨ b = a)) xs vs
theorem PostL.post {xs : List PV} {v : Value} {s' : Shared} (S : SR W s.heap μ) (x : PostL W s xs v s') : Post W s (.lst xs) v s' := by
  obtain ⟨k, a, vs, n, rfl, h1, h2, h3, h4⟩ := x
  refine ⟨k, ?_⟩
  rw [Rep]
  exact ⟨a, vs, n, rfl, ⟨h2, fun hw => by obtain ⟨o, ho⟩ := S.wl a hw; first | exact clash h1 ho | (rw [h1] at ho; cases ho)⟩, h3, Reps.mono (fun b o x => ⟨x.1, fun hw => x.2 (.inl hw)⟩) _ _ h4⟩
theorem postL_push {xs : List PV} {vs : List Value} {n tk : Nat} (hl : vs.length ≤ SZ) (r : Reps (frz s.heap W) xs vs) :
    PostL W s xs (.ref s.heap.objs.size) { s with heap := s.heap.push (lObj vs n), toks := tk } :=
  ⟨Keeps.push _ _, _, vs, n, rfl, fresh_none _, Heap.get?_push_size _ rfl, hl, Reps.mono (fun b o x => ⟨Heap.get?_push_of_some _ x.1, fun hw => hw.elim x.2 fun e => absurd (Heap.lt_size x.1) (by rw [e]; exact Nat.lt_irrefl _)⟩) _ _ r⟩

theorem add_lsts {a b : Addr} {vs us : List Value} {n m : Nat} {xs ys : List PV} (ha : s.heap.get? a = some (lObj vs n)) (hb : s.heap.get? b = some (lObj us m))
    (hsz : vs.length + us.length ≤ SZ) (ra : Reps (frz s.heap W) xs vs) (rb : Reps (frz s.heap W) ys us) :
    wpAny (model prog w) A (binaryOp .Add (.ref a) (.ref b)) (PostL W s (xs ++ ys)) E s := by
  refine P.add_list (items := vs.toArray) (items2 := us.toArray) (n := n) (n2 := m) ha hb ?_ (by simpa [SZ_eq] using hsz)
  have := postL_push (W := W) (s := s) (vs := vs ++ us) (n := 0) (tk := s.toks) (by simpa using hsz) (ra.append rb)
  simpa [lObj] using this
end
end Mine
end

section
open PySem PySem.W PyProof.Rows
namespace Mine

theorem rep_foldl {α : Type} (xs : List α) : ∀ (n : Nat) (acc : Array α), (List.replicate n xs.toArray).foldl (· ++ ·) acc = acc ++ (rep n xs).toArray
  | 0, acc => by simp [rep]
  | n + 1, acc => by
    rw [List.replicate_succ, List.foldl_cons, rep_foldl xs n]
    simp [rep, List.replicate_succ]
theorem rep_foldl_if {α : Type} (xs : List α) (n : Nat) : (List.replicate (if xs.toArray.isEmpty = true then 0 else n) xs.toArray).foldl (· ++ ·) #[] = (rep n xs).toArray := by
  rw [rep_foldl]
  cases xs with
  | nil => simp [rep]
  | cons x xs => simp
theorem rep_length {α : Type} (xs : List α) : ∀ n : Nat, (rep n xs).length = n * xs.length
  | 0 => by simp [rep]
  | n + 1 => by
    have := rep_length xs n
    simp only [rep, List.replicate_succ, List.flatten_cons, List.length_append] at this ⊢
    rw [this, Nat.succ_mul, Nat.add_comm]
theorem Reps.rep {g : Gr} {ps : List PV} {vs : List Value} (r : Reps g ps vs) : ∀ n : Nat, Reps g (rep n ps) (Mine.rep n vs)
  | 0 => by simp [Mine.rep, Reps]
  | n + 1 => by
    have := Reps.rep r n
    simp only [Mine.rep, List.replicate_succ, List.flatten_cons] at this ⊢
    exact r.append this

section
variable {prog : Program} {w : World} {A : Around} {E : Value → Shared → Prop} {s : Shared} {W : Addr → Prop} {μ : Mu}

theorem mul_lst {l : Addr} {vs : List Value} {k : Nat} {x : Int} {u : Tok} {xs : List PV} (hl : s.heap.get? l = some (lObj vs k)) (h0 : 0 ≤ x) (hx : x < 2 ^ 60) (hsz : vs.length * x.toNat ≤ SZ)
    (r : Reps (frz s.heap W) xs vs) : wpAny (model prog w) A (binaryOp .Mult (.ref l) (.int x u)) (PostL W s (rep x.toNat xs)) E s := by
  have hsz' : vs.toArray.size * x.toNat ≤ 2 ^ 24 := by simpa [SZ] using hsz
  refine wpAny_binaryOp_repeat_ref (T := "list") (U := "int") (by decide) ⟨_, hl, rfl⟩ (fun s' => typeIs_int s' x u) noFill_list_mul F.fills_int_mul F.slot_int_rmul repeat_list F.slot_int_index.lookup
    (call_meets F.slot_int_rmul (typeIs_int s x u) F.entry_int_rmul (F.args_int_rmul_2 _ _) (int___rmul___int_list x u l vs.toArray k)
      ⟨hl, rfl, ⟨_, hl, rfl⟩, call_meets F.slot_list_mul ⟨_, hl, rfl⟩ F.entry_list_mul (F.args_list_mul_2 _ _)
        (AutoListH.list___mul___list_int_3 l vs.toArray k x u (by simp [Builtin.List.listFitsIndex]; lia) (by lia) (by simp [Builtin.List.listTooLong, sizeLine]; simpa using hsz'))
        ⟨hl, ?_⟩⟩)
  have := postL_push (W := W) (s := s) (vs := rep x.toNat vs) (n := 0) (tk := s.toks) (by rw [rep_length, Nat.mul_comm]; exact hsz) (r.rep x.toNat)
  rw [rep_foldl_if]
  exact this

theorem mul_str' {x : List Nat} {n : Int} {t u : Tok} (h0 : 0 ≤ n) (hx : n < 2 ^ 60) (hsz : x.length * n.toNat ≤ SZ) :
    wpAny (model prog w) A (binaryOp .Mult (.str ⟨x.toArray⟩ t) (.int n u)) (Post W s (.str (rep n.toNat x))) E s := by
  have hlen : (rep n.toNat x).length ≤ SZ := by rw [rep_length, Nat.mul_comm]; exact hsz
  have hxs : (⟨x.toArray⟩ : Str).length = x.length := Str.len_mk x
  refine P.mul_str (by rw [decide_eq_false (by lia), decide_eq_false (by lia)]; rfl) (fun h1 h2 => ?_) (fun _ _ => ?_) ?_
  · rw [hxs]
    have hn : 1 ≤ n := by lia
    have : (x.length : Int) ≤ (2 ^ 63 - 1) / n := by
      apply Int.le_ediv_of_mul_le (by lia)
      have e : ((x.length * n.toNat : Nat) : Int) = (x.length : Int) * n := by rw [Int.natCast_mul, Int.toNat_of_nonneg h0]
      have : ((x.length * n.toNat : Nat) : Int) ≤ ((16777216 : Nat) : Int) := Int.ofNat_le.mpr hsz
      rw [← e]; lia
    lia
  · rw [hxs]; exact decide_eq_false (Nat.not_lt.mpr hsz)
  · split
    · have e : n = 0 := by lia
      subst e
      refine ⟨by decide, ?_⟩
      have := post_str (W := W) (s := s) (x := []) (t := s.toks) (n := s.toks + 1) (by decide)
      have e0 : rep (0 : Int).toNat x = [] := by simp [rep]
      rw [e0]; exact this
    · split
      · rename_i h1 h2
        simp only [Bool.or_eq_true, beq_iff_eq] at h2
        have e : rep n.toNat x = x := by
          rcases h2 with h2 | h2
          · subst h2; simp [rep]
          · rw [hxs] at h2
            have : x = [] := List.eq_nil_of_length_eq_zero h2
            subst this; simp [rep]
        rw [e]
        exact ⟨Keeps.rfl', by rw [Rep]; exact ⟨by rw [← e]; exact hlen, t, rfl⟩⟩
      · have e : (List.replicate n.toNat x.toArray).foldl (· ++ ·) #[] = (rep n.toNat x).toArray := by rw [rep_foldl]; simp
        show Str.length ⟨_⟩ ≤ sizeLine ∧ _
        rw [show (List.replicate n.toNat (Str.mk x.toArray).cps) = List.replicate n.toNat x.toArray from rfl, e]
        exact ⟨by rw [Str.len_mk]; exact hlen, post_str hlen⟩

theorem addV_sound {p q a b r : PV} {va vb : Value} (h : addV p q = some r) (e1 : rs μ a = p) (e2 : rs μ b = q) (S : SR W s.heap μ) (ra : Rep (frz s.heap W) a va) (rb : Rep (frz s.heap W) b vb) :
    wpAny (model prog w) A (binaryOp .Add va vb) (Post W s r) E s := by
  cases p with
  | int x =>
    cases q with
    | int y =>
      cases rs_int e1; cases rs_int e2
      obtain ⟨t, rfl⟩ := rep_int.mp ra; obtain ⟨u, rfl⟩ := rep_int.mp rb
      have h : PV.int (x + y) = r := Option.some.inj h
      subst h
      exact add_int post_int
    | _ => exact no h
  | str x =>
    cases q with
    | str y =>
      cases rs_str e1; cases rs_str e2
      obtain ⟨hsz, h⟩ := opt_if h
      subst h
      obtain ⟨_, t, rfl⟩ := rep_str.mp ra; obtain ⟨_, u, rfl⟩ := rep_str.mp rb
      refine PyProof.Rows.add_str (fun t' tk => ?_) (by rw [Str.len_mk, Str.len_mk]; exact hsz)
      rw [Str.app_mk]
      exact post_str (by rw [List.length_append]; exact hsz)
    | _ => exact no h
  | lst x =>
    cases q with
    | lst y =>
      obtain ⟨hsz, h⟩ := opt_if h
      subst h
      obtain ⟨a, vs, n, rfl, h1, h2, h3⟩ := rs_lst S e1 ra
      obtain ⟨b, us, m, rfl, h4, h5, h6⟩ := rs_lst S e2 rb
      exact wpAny_mono (add_lsts h1 h4 (by rw [h3.length, h6.length]; exact hsz) h3 h6) (fun _ _ x => x.post S) fun _ _ x => x
    | _ => exact no h
  | _ => exact no h
theorem mulV_sound {p q a b r : PV} {va vb : Value} (h : mulV p q = some r) (e1 : rs μ a = p) (e2 : rs μ b = q) (S : SR W s.heap μ) (ra : Rep (frz s.heap W) a va) (rb : Rep (frz s.heap W) b vb) :
    wpAny (model prog w) A (binaryOp .Mult va vb) (Post W s r) E s := by
  cases q with
  | int n =>
    cases rs_int e2
    obtain ⟨u, rfl⟩ := rep_int.mp rb
    cases p with
    | int x =>
      cases rs_int e1
      obtain ⟨t, rfl⟩ := rep_int.mp ra
      obtain ⟨hsz, h⟩ := opt_if h
      subst h
      exact PyProof.Rows.mul_int post_int (.of_left (intBits_le_64 (by lia) (by lia)))
    | str x =>
      cases rs_str e1
      obtain ⟨hsz, h⟩ := opt_if h
      subst h
      obtain ⟨_, t, rfl⟩ := rep_str.mp ra
      exact mul_str' hsz.1 hsz.2.2 hsz.2.1
    | lst x =>
      obtain ⟨hsz, h⟩ := opt_if h
      subst h
      obtain ⟨a, vs, m, rfl, h1, h2, h3⟩ := rs_lst S e1 ra
      exact wpAny_mono (mul_lst h1 hsz.1 hsz.2.2 (by rw [h3.length]; exact hsz.2.1) h3) (fun _ _ x => x.post S) fun _ _ x => x
    | _ => exact no h
  | _ => exact no h
theorem bin_int {op : Operator} {f : Int → Int → Option PV} {a b r : PV} {va vb : Value} (h : int2 f (rs μ a) (rs μ b) = some r) (ra : Rep (frz s.heap W) a va) (rb : Rep (frz s.heap W) b vb)
    (k : ∀ x y t u, f x y = some r → wpAny (model prog w) A (binaryOp op (.int x t) (.int y u)) (Post W s r) E s) : wpAny (model prog w) A (binaryOp op va vb) (Post W s r) E s := by
  obtain ⟨x, y, e1, e2, h⟩ := int2_inv h
  cases rs_int e1; cases rs_int e2
  obtain ⟨t, rfl⟩ := rep_int.mp ra; obtain ⟨u, rfl⟩ := rep_int.mp rb
  exact k x y t u h
theorem evBin_sound {op : Operator} {a b r : PV} {va vb : Value} (h : evBin μ op a b = some r) (S : SR W s.heap μ) (ra : Rep (frz s.heap W) a va) (rb : Rep (frz s.heap W) b vb) :
    wpAny (model prog w) A (binaryOp op va vb) (Post W s r) E s := by
  cases op with
  | Add => exact addV_sound h rfl rfl S ra rb
  | Mult => exact mulV_sound h rfl rfl S ra rb
  | Sub => exact bin_int h ra rb fun x y t u h => by cases Option.some.inj h; exact PyProof.Rows.sub_int post_int
  | FloorDiv =>
    refine bin_int h ra rb fun x y t u h => ?_
    obtain ⟨hsz, h⟩ := opt_if h
    subst h
    refine floordiv_int (by lia) ?_ (.inl (PyProof.noPylong_small (by lia)))
    rw [Int.fdiv_eq_ediv_of_nonneg x (by lia)]
    exact post_int
  | Mod =>
    refine bin_int h ra rb fun x y t u h => ?_
    obtain ⟨hsz, h⟩ := opt_if h
    subst h
    refine mod_int' (by lia) ?_
    rw [Int.fmod_eq_emod_of_nonneg x (by lia)]
    exact post_int
  | Pow =>
    refine bin_int h ra rb fun x y t u h => ?_
    obtain ⟨⟨e, h0, h1⟩, h2⟩ := opt_if h
    subst e; subst h2
    exact pow_int h0 (by have : Builtin.Int.intBits 2 = 2 := by decide +kernel
                         rw [this]; lia) post_int
  | _ => exact no h
end
end Mine
end

section
open PySem PySem.W PyProof.Rows PySem.SeqAt
namespace Mine

noncomputable def pairEq (f : PV → PV → Option Bool) (as bs : List PV) (j : Nat) : Bool := match as[j]?, bs[j]? with
  | some a, some b => (f a b).getD true
  | _, _ => true

theorem zipAll_spec (f : PV → PV → Option Bool) : ∀ (as bs : List PV) (c : Bool), zipAll f as bs = some c →
    (∀ (j : Nat) a b, as[j]? = some a → bs[j]? = some b → ∃ x, f a b = some x) ∧ c = (List.range (min as.length bs.length)).all (pairEq f as bs)
  | [], bs, c, h => by
    simp [zipAll] at h; subst h
    exact ⟨fun j a b ha => by simp at ha, by simp⟩
  | a :: as, [], c, h => by
    simp [zipAll] at h; subst h
    exact ⟨fun j a b ha hb => by simp at hb, by simp⟩
  | a :: as, b :: bs, c, h => by
    rw [zipAll] at h
    split at h
    · rename_i x y e1 e2
      cases h
      obtain ⟨h1, h2⟩ := zipAll_spec f as bs y e2
      refine ⟨fun j a' b' ha hb => ?_, ?_⟩
      · cases j with
        | zero => simp at ha hb; subst ha hb; exact ⟨x, e1⟩
        | succ j => simp at ha hb; exact h1 j a' b' ha hb
      · rw [h2]
        simp only [List.length_cons, Nat.succ_min_succ, List.range_succ_eq_map, List.all_cons, List.all_map]
        congr 1
        simp [pairEq, e1]
    · cases h

theorem Reps.at {g : Gr} {ps : List PV} {vs : List Value} (r : Reps g ps vs) {j : Nat} (h : j < vs.length) : ∃ p, ps[j]? = some p ∧ Rep g p vs[j] := r.get' j _ (List.getElem?_eq_getElem h)

theorem frz_fun {h : Heap} {W : Addr → Prop} {a : Addr} {o o' : Obj} (x : frz h W a o) (y : frz h W a o') : o = o' := by
  have := x.1.symm.trans y.1; injection this

theorem zipAll_same {g : Gr} {f : PV → PV → Option Bool} (hf : ∀ p q b v, f p q = some b → Rep g p v → Rep g q v → b = true) : ∀ (as bs : List PV) (vs : List Value) (c : Bool), zipAll f as bs = some c → Reps g as vs → Reps g bs vs → c = true
  | [], bs, vs, c, h, _, _ => by simp [zipAll] at h; exact h
  | a :: as, [], vs, c, h, _, _ => by simp [zipAll] at h; exact h
  | a :: as, b :: bs, vs, c, h, r1, r2 => by
    rw [zipAll] at h
    split at h
    · rename_i x y e1 e2
      cases h
      rw [Reps] at r1 r2
      obtain ⟨v, vs', rfl, hv, hr⟩ := r1
      obtain ⟨v2, vs2, e, hv2, hr2⟩ := r2
      cases e
      rw [hf _ _ _ _ e1 hv hv2, zipAll_same hf as bs vs' y e2 hr hr2]; rfl
    · cases h

theorem lObj_inj {vs us : List Value} {n m : Nat} (h : lObj vs n = lObj us m) : vs = us := by
  unfold lObj at h; injection h with _ _ h _; injection h with h _; simpa using congrArg Array.toList h
theorem tObj_inj {vs us : List Value} {n m : Nat} (h : tObj vs n = tObj us m) : vs = us := by
  unfold tObj at h; injection h with _ _ h _; injection h with h _; simpa using congrArg Array.toList h

theorem pveq8_i (a b : Int) : pveq 8 (.int a) (.int b) = some (a == b) := rfl
theorem pveq8_s (a b : List Nat) : pveq 8 (.str a) (.str b) = some (a == b) := rfl
theorem pveq8_b (a b : Bool) : pveq 8 (.bool a) (.bool b) = some (a == b) := rfl
theorem pveq8_nb (b : Bool) : pveq 8 .none (.bool b) = some false := rfl
theorem pveq8_bn (b : Bool) : pveq 8 (.bool b) .none = some false := rfl
theorem pveq8_nn : pveq 8 .none .none = some true := rfl
theorem pveq7_s (a b : List Nat) : pveq 7 (.str a) (.str b) = some (a == b) := rfl
theorem pveq7_i (a b : Int) : pveq 7 (.int a) (.int b) = some (a == b) := rfl
theorem pveq8_l (a b : List PV) : pveq 8 (.lst a) (.lst b) = if a.length = b.length then zipAll (pveq 7) a b else some false := rfl
/-- how two values come to be told alike or not -/
inductive PEq (n : Nat) : PV → PV → Bool → Prop
  | nn : PEq n .none .none true
  | nb (b : Bool) : PEq n .none (.bool b) false
  | bn (b : Bool) : PEq n (.bool b) .none false
  | bb (a b : Bool) : PEq n (.bool a) (.bool b) (a == b)
  | ii (a b : Int) : PEq n (.int a) (.int b) (a == b)
  | ss (a b : List Nat) : PEq n (.str a) (.str b) (a == b)
  | tt (a b : List PV) (c : Bool) (h : (zipAll (pveq n) a b).map (· && a.length == b.length) = some c) : PEq n (.tup a) (.tup b) c
  | ll (a b : List PV) (c : Bool) (h : (if a.length = b.length then zipAll (pveq n) a b else some false) = some c) : PEq n (.lst a) (.lst b) c
theorem peq {n : Nat} {p q : PV} {b : Bool} (e : pveq (n + 1) p q = some b) : PEq n p q b := by
  cases p with
  | none =>
    cases q with
    | none => cases Option.some.inj e; exact .nn
    | bool y => cases Option.some.inj e; exact .nb y
    | _ => exact no e
  | bool x =>
    cases q with
    | none => cases Option.some.inj e; exact .bn x
    | bool y => cases Option.some.inj e; exact .bb x y
    | _ => exact no e
  | int x =>
    cases q with
    | int y => cases Option.some.inj e; exact .ii x y
    | _ => exact no e
  | str x =>
    cases q with
    | str y => cases Option.some.inj e; exact .ss x y
    | _ => exact no e
  | tup x =>
    cases q with
    | tup y => exact .tt x y b e
    | _ => exact no e
  | lst x =>
    cases q with
    | lst y => exact .ll x y b e
    | _ => exact no e
  | _ => exact no e

theorem str_rep {g : Gr} {x y : List Nat} {v : Value} (r : Rep g (.str x) v) (r' : Rep g (.str y) v) : x = y := by
  obtain ⟨_, t, rfl⟩ := rep_str.mp r
  obtain ⟨_, u, e⟩ := rep_str.mp r'
  injection e with e _; injection e with e
  exact congrArg Array.toList e
theorem tup_rep {h : Heap} {W : Addr → Prop} {x y : List PV} {v : Value} (r : Rep (frz h W) (.tup x) v) (r' : Rep (frz h W) (.tup y) v) : ∃ vs, Reps (frz h W) x vs ∧ Reps (frz h W) y vs := by
  obtain ⟨a, vs, k, rfl, hg, _, hr⟩ := rep_tup.mp r
  obtain ⟨a', us, k', e', hg', _, hr'⟩ := rep_tup.mp r'
  cases e'
  have := tObj_inj (frz_fun hg hg'); subst this
  exact ⟨vs, hr, hr'⟩
theorem lst_rep {h : Heap} {W : Addr → Prop} {x y : List PV} {v : Value} (r : Rep (frz h W) (.lst x) v) (r' : Rep (frz h W) (.lst y) v) : ∃ vs, Reps (frz h W) x vs ∧ Reps (frz h W) y vs := by
  obtain ⟨a, vs, k, rfl, hg, _, hr⟩ := rep_lst.mp r
  obtain ⟨a', us, k', e', hg', _, hr'⟩ := rep_lst.mp r'
  cases e'
  have := lObj_inj (frz_fun hg hg'); subst this
  exact ⟨vs, hr, hr'⟩
theorem pveq_same {h : Heap} {W : Addr → Prop} : ∀ (n : Nat) (p q : PV) (b : Bool) (v : Value), pveq n p q = some b → Rep (frz h W) p v → Rep (frz h W) q v → b = true
  | 0, p, q, b, v, e, _, _ => no e
  | n + 1, p, q, b, v, e, rp, rq => by
    cases peq e with
    | nn => rfl
    | nb x => cases rep_none.mp rp; cases rep_bool.mp rq
    | bn x => cases rep_none.mp rq; cases rep_bool.mp rp
    | bb x y => cases rep_bool.mp rp; cases rep_bool.mp rq; exact beq_self_eq_true x
    | ii x y => obtain ⟨t, rfl⟩ := rep_int.mp rp; obtain ⟨u, e'⟩ := rep_int.mp rq; cases e'; exact beq_self_eq_true x
    | ss x y => cases str_rep rp rq; exact beq_self_eq_true x
    | tt x y _ hz =>
      obtain ⟨vs, hr, hr'⟩ := tup_rep rp rq
      obtain ⟨c, hz, hc⟩ := Option.map_eq_some_iff.mp hz
      rw [← hc, zipAll_same (pveq_same n) _ _ _ _ hz hr hr', ← hr.length, ← hr'.length]
      exact beq_self_eq_true vs.length
    | ll x y _ hz =>
      obtain ⟨vs, hr, hr'⟩ := lst_rep rp rq
      rw [if_pos (hr.length.symm.trans hr'.length)] at hz
      exact zipAll_same (pveq_same n) _ _ _ _ hz hr hr'

theorem isList_of {h : Heap} {a : Addr} {vs : List Value} {n : Nat} (e : h.get? a = some (lObj vs n)) : h.IsList a vs.toArray := ⟨_, e, rfl, n, rfl⟩
theorem isTuple_of {h : Heap} {a : Addr} {vs : List Value} {n : Nat} (e : h.get? a = some (tObj vs n)) : h.IsTuple a vs.toArray := ⟨_, e, rfl, n, rfl⟩

theorem str_beq_mk (x y : List Nat) : ((⟨x.toArray⟩ : Str) == ⟨y.toArray⟩) = (x == y) := by
  rw [Bool.eq_iff_iff, beq_iff_eq, beq_iff_eq]
  constructor
  · intro h; injection h with h; simpa using congrArg Array.toList h
  · rintro rfl; rfl

/-- a value whose top list may be one that is written -/
noncomputable def RV (g : Gr) (h : Heap) (p : PV) (v : Value) : Prop := match p with
  | .lst xs => ∃ a vs n, v = .ref a ∧ h.get? a = some (lObj vs n) ∧ vs.length ≤ SZ ∧ Reps g xs vs
  | p => Rep g p v

theorem rs_RV {μ : Mu} {W : Addr → Prop} {h : Heap} (S : SR W h μ) {p : PV} {v : Value} (r : Rep (frz h W) p v) : RV (frz h W) h (rs μ p) v := by
  cases p with
  | own b =>
    cases hm : μ b with
    | none =>
      have : rs μ (.own b) = .own b := by rw [rs, hm]
      rw [this]; exact r
    | some xs =>
      have : rs μ (.own b) = .lst xs := by rw [rs, hm]
      rw [this]; exact rs_lst S this r
  | lst xs => exact rs_lst S (p := .lst xs) rfl r
  | _ => exact r

section
variable {A : Around} {s : Shared} {W : Addr → Prop}

theorem pair_at {n : Nat} (ih : ∀ (A : Around) (p q : PV) (b : Bool) (v u : Value), pveq n p q = some b → Rep (frz s.heap W) p v → Rep (frz s.heap W) q u → A.units + n < cLine → EqAt A s v u b)
    {as bs : List PV} {vs us : List Value} {c : Bool} (hz : zipAll (pveq n) as bs = some c) (ra : Reps (frz s.heap W) as vs) (rb : Reps (frz s.heap W) bs us) (hu : A.units + (n + 1) < cLine) :
    ∀ j (h1 : j < vs.toArray.size) (h2 : j < us.toArray.size), EqAt A.in1 s vs.toArray[j] us.toArray[j] (pairEq (pveq n) as bs j) := by
  intro j h1 h2
  obtain ⟨p, hp, rp⟩ := ra.at (j := j) (by simpa using h1)
  obtain ⟨q, hq, rq⟩ := rb.at (j := j) (by simpa using h2)
  obtain ⟨x, hx⟩ := (zipAll_spec _ _ _ _ hz).1 j p q hp hq
  have e : pairEq (pveq n) as bs j = x := by simp [pairEq, hp, hq, hx]
  rw [e]
  have := ih A.in1 p q x _ _ hx rp rq (by show A.units + 1 + n < cLine; lia)
  simpa using this

theorem rc_lists {n : Nat} (ih : ∀ (A : Around) (p q : PV) (b : Bool) (v u : Value), pveq n p q = some b → Rep (frz s.heap W) p v → Rep (frz s.heap W) q u → A.units + n < cLine → EqAt A s v u b)
    {as bs : List PV} {c : Bool} (e : (if as.length = bs.length then zipAll (pveq n) as bs else some false) = some c) {a b : Addr} {vs us : List Value} {k m : Nat} (ha : s.heap.get? a = some (lObj vs k)) (hb : s.heap.get? b = some (lObj us m))
    (ra : Reps (frz s.heap W) as vs) (rb : Reps (frz s.heap W) bs us) (hu : A.units + (n + 1) < cLine) : RcAt A s (.ref a) (.ref b) c ∧ RcNeAt A s (.ref a) (.ref b) (!c) := by
  split at e
  · rename_i hl
    have hs : vs.toArray.size = us.toArray.size := by simp [ra.length, rb.length, hl]
    have hc := (zipAll_spec _ _ _ _ e).2
    have e2 : min as.length bs.length = vs.toArray.size := by simp [ra.length, hl]
    rw [e2] at hc
    refine ⟨?_, ?_⟩
    · rw [hc]; exact RcAt.lists (isList_of ha) (isList_of hb) hs (by lia) (pair_at ih e ra rb hu)
    · rw [hc]; exact RcNeAt.lists (isList_of ha) (isList_of hb) hs (by lia) (pair_at ih e ra rb hu)
  · rename_i hl
    cases e
    have hs : (vs.toArray.size != us.toArray.size) = true := by simp [ra.length, rb.length, hl]
    exact ⟨RcAt.lists_lengths (isList_of ha) (isList_of hb) hs (by lia), RcNeAt.lists_lengths (isList_of ha) (isList_of hb) hs (by lia)⟩

theorem rc_tuples {n : Nat} (ih : ∀ (A : Around) (p q : PV) (b : Bool) (v u : Value), pveq n p q = some b → Rep (frz s.heap W) p v → Rep (frz s.heap W) q u → A.units + n < cLine → EqAt A s v u b)
    {as bs : List PV} {c : Bool} (e : (zipAll (pveq n) as bs).map (· && as.length == bs.length) = some c) {a b : Addr} {vs us : List Value} {k m : Nat} (ha : s.heap.get? a = some (tObj vs k)) (hb : s.heap.get? b = some (tObj us m))
    (ra : Reps (frz s.heap W) as vs) (rb : Reps (frz s.heap W) bs us) (hu : A.units + (n + 1) < cLine) : RcAt A s (.ref a) (.ref b) c ∧ RcNeAt A s (.ref a) (.ref b) (!c) := by
  cases hz : zipAll (pveq n) as bs with
  | none => first | exact clash hz e | (rw [hz] at e; cases e)
  | some x =>
    first | exact clash hz e | (rw [hz] at e; cases e)
    have hc := (zipAll_spec _ _ _ _ hz).2
    have h1 : vs.toArray.size = as.length := by simp [ra.length]
    have h2 : us.toArray.size = bs.length := by simp [rb.length]
    refine ⟨?_, ?_⟩
    · rw [hc, ← h1, ← h2]; exact RcAt.tuples (isTuple_of ha) (isTuple_of hb) (by lia) (pair_at ih hz ra rb hu)
    · rw [hc, ← h1, ← h2]; exact RcNeAt.tuples (isTuple_of ha) (isTuple_of hb) (by lia) (pair_at ih hz ra rb hu)

theorem eqAt_sound : ∀ (n : Nat) (A : Around) (p q : PV) (b : Bool) (v u : Value), pveq n p q = some b → Rep (frz s.heap W) p v → Rep (frz s.heap W) q u → A.units + n < cLine → EqAt A s v u b
  | 0, A, p, q, b, v, u, e, _, _, _ => no e
  | n + 1, A, p, q, b, v, u, e, rp, rq, hu => by
    have same := pveq_same (n + 1) p q b v e rp
    cases peq e with
    | nn => cases rep_none.mp rp; cases rep_none.mp rq; exact EqAt.same _
    | nb x => cases rep_none.mp rp; cases rep_bool.mp rq; exact EqAt.none_bool _
    | bn x => cases rep_bool.mp rp; cases rep_none.mp rq; exact EqAt.bool_none _
    | bb x y => cases rep_bool.mp rp; cases rep_bool.mp rq; exact EqAt.bool_bool _ _
    | ii x y => obtain ⟨t, rfl⟩ := rep_int.mp rp; obtain ⟨t', rfl⟩ := rep_int.mp rq; exact EqAt.int_int _ _ _ _
    | ss x y =>
      obtain ⟨_, t, rfl⟩ := rep_str.mp rp; obtain ⟨_, t', rfl⟩ := rep_str.mp rq
      rw [← str_beq_mk]
      exact EqAt.str_str (A := A) (s := s) ⟨x.toArray⟩ t ⟨y.toArray⟩ t'
    | tt x y _ hz =>
      obtain ⟨a, vs, k, rfl, hg, _, hr⟩ := rep_tup.mp rp
      obtain ⟨a', us, k', rfl, hg', _, hr'⟩ := rep_tup.mp rq
      by_cases haa : a = a'
      · subst haa; rw [same rq]; exact EqAt.same _
      · exact EqAt.of_refs haa (rc_tuples (eqAt_sound n) hz hg.1 hg'.1 hr hr' hu).1
    | ll x y _ hz =>
      obtain ⟨a, vs, k, rfl, hg, _, hr⟩ := rep_lst.mp rp
      obtain ⟨a', us, k', rfl, hg', _, hr'⟩ := rep_lst.mp rq
      by_cases haa : a = a'
      · subst haa; rw [same rq]; exact EqAt.same _
      · exact EqAt.of_refs haa (rc_lists (eqAt_sound n) hz hg.1 hg'.1 hr hr' hu).1

theorem rcAt_sound {n : Nat} {p q : PV} {b : Bool} {v u : Value} (e : pveq (n + 1) p q = some b) (rp : RV (frz s.heap W) s.heap p v) (rq : RV (frz s.heap W) s.heap q u) (hu : A.units + (n + 1) < cLine) :
    RcAt A s v u b ∧ RcNeAt A s v u (!b) := by
  cases peq e with
  | nn => cases (rep_none (g := frz s.heap W)).mp rp; cases (rep_none (g := frz s.heap W)).mp rq; exact ⟨RcAt.none_none, RcNeAt.none_none⟩
  | nb x => cases (rep_none (g := frz s.heap W)).mp rp; cases (rep_bool (g := frz s.heap W)).mp rq; exact ⟨RcAt.none_bool _, RcNeAt.none_bool _⟩
  | bn x => cases (rep_bool (g := frz s.heap W)).mp rp; cases (rep_none (g := frz s.heap W)).mp rq; exact ⟨RcAt.bool_none _, RcNeAt.bool_none _⟩
  | bb x y => cases (rep_bool (g := frz s.heap W)).mp rp; cases (rep_bool (g := frz s.heap W)).mp rq; exact ⟨RcAt.bool_bool _ _, RcNeAt.bool_bool _ _⟩
  | ii x y => obtain ⟨t, rfl⟩ := (rep_int (g := frz s.heap W)).mp rp; obtain ⟨t', rfl⟩ := (rep_int (g := frz s.heap W)).mp rq; exact ⟨RcAt.int_int _ _ _ _, RcNeAt.int_int _ _ _ _⟩
  | ss x y =>
    obtain ⟨_, t, rfl⟩ := (rep_str (g := frz s.heap W)).mp rp; obtain ⟨_, t', rfl⟩ := (rep_str (g := frz s.heap W)).mp rq
    rw [← str_beq_mk]
    exact ⟨RcAt.str_str (A := A) (s := s) ⟨x.toArray⟩ t ⟨y.toArray⟩ t', RcNeAt.str_str (A := A) (s := s) ⟨x.toArray⟩ t ⟨y.toArray⟩ t'⟩
  | tt x y _ hz =>
    obtain ⟨a, vs, k, rfl, hg, _, hr⟩ := (rep_tup (g := frz s.heap W)).mp rp
    obtain ⟨a', us, k', rfl, hg', _, hr'⟩ := (rep_tup (g := frz s.heap W)).mp rq
    exact rc_tuples (eqAt_sound n) hz hg.1 hg'.1 hr hr' hu
  | ll x y _ hz =>
    obtain ⟨a, vs, k, rfl, hg, _, hr⟩ := rp
    obtain ⟨a', us, k', rfl, hg', _, hr'⟩ := rq
    exact rc_lists (eqAt_sound n) hz hg hg' hr hr' hu
end
end Mine
end

section
open PySem PySem.W PyProof.Rows PySem.SeqAt
namespace Mine

theorem zipAll_fun {g : Gr} {f : PV → PV → Option Bool} (hf : ∀ p p' q b b' v, f p q = some b → f p' q = some b' → Rep g p v → Rep g p' v → b = b') :
    ∀ (as as' bs : List PV) (vs : List Value) (c c' : Bool), zipAll f as bs = some c → zipAll f as' bs = some c' → Reps g as vs → Reps g as' vs → c = c'
  | [], as', bs, vs, c, c', h, h', r, r' => by
    rw [Reps] at r; subst r
    cases as' with
    | nil => simp [zipAll] at h h'; rw [h, h']
    | cons a' as' => rw [Reps] at r'; obtain ⟨v, vs', e, _⟩ := r'; cases e
  | a :: as, as', [], vs, c, c', h, h', r, r' => by
    cases as' <;> simp [zipAll] at h h' <;> rw [h, h']
  | a :: as, as', b :: bs, vs, c, c', h, h', r, r' => by
    rw [Reps] at r; obtain ⟨v, vs', rfl, hv, hr⟩ := r
    cases as' with
    | nil => first | exact clash Reps r' | (rw [Reps] at r'; cases r')
    | cons a' as' =>
      rw [Reps] at r'; obtain ⟨v', vs'', e, hv', hr'⟩ := r'; cases e
      rw [zipAll] at h h'
      split at h
      · split at h'
        · rename_i e1 e2 _ _ _ _ e1' e2'
          cases h; cases h'
          rw [hf _ _ _ _ _ _ e1 e1' hv hv', zipAll_fun hf as as' bs vs' _ _ e2 e2' hr hr']
        · cases h'
      · cases h

noncomputable def shapeP : PV → Nat
  | .none => 0
  | .bool _ => 1
  | .int _ => 2
  | .str _ => 3
  | _ => 4
noncomputable def shapeV : Value → Nat
  | .none => 0
  | .bool _ => 1
  | .int _ _ => 2
  | .str _ _ => 3
  | _ => 4
theorem shape_of {g : Gr} {p : PV} {v : Value} (r : Rep g p v) : shapeP p = shapeV v := by
  cases p with
  | none => rw [rep_none.mp r]; rfl
  | bool _ => rw [rep_bool.mp r]; rfl
  | int _ => obtain ⟨_, e⟩ := rep_int.mp r; rw [e]; rfl
  | str _ => obtain ⟨_, _, e⟩ := rep_str.mp r; rw [e]; rfl
  | tup _ => obtain ⟨_, _, _, e, _⟩ := rep_tup.mp r; rw [e]; rfl
  | lst _ => obtain ⟨_, _, _, e, _⟩ := rep_lst.mp r; rw [e]; rfl
  | own _ => rw [rep_own.mp r]; rfl
  | obj _ => rw [rep_obj.mp r]; rfl
  | app _ => obtain ⟨_, _, e, _⟩ := rep_app.mp r; rw [e]; rfl
  | rng _ _ _ => obtain ⟨_, _, _, _, _, e, _⟩ := rep_rng.mp r; rw [e]; rfl
theorem apart_nat {a b : Nat} {P : Prop} (h : a = b) (e : Nat.beq a b = false) : P := absurd h (Nat.ne_of_beq_eq_false e)
theorem lst_tup {h : Heap} {W : Addr → Prop} {x y : List PV} {v : Value} (r : Rep (frz h W) (.lst x) v) (r' : Rep (frz h W) (.tup y) v) {P : Prop} : P := by
  obtain ⟨a, vs, k, rfl, hg, _, _⟩ := rep_lst.mp r
  obtain ⟨a', us, k', e', hg', _, _⟩ := rep_tup.mp r'
  cases e'
  have e : Value.type "list" = Value.type "tuple" := congrArg Obj.cls (frz_fun hg hg')
  exact absurd e (by decide)
theorem pveq_tups {h : Heap} {W : Addr → Prop} {n : Nat} (ih : ∀ (p p' q : PV) (b b' : Bool) (v : Value), pveq n p q = some b → pveq n p' q = some b' → Rep (frz h W) p v → Rep (frz h W) p' v → b = b') {x y : List PV} {q : PV} {b b' : Bool} {v : Value}
    (e : pveq (n + 1) (.tup x) q = some b) (e' : pveq (n + 1) (.tup y) q = some b') (rp : Rep (frz h W) (.tup x) v) (rp' : Rep (frz h W) (.tup y) v) : b = b' := by
  cases q with
  | tup z =>
    obtain ⟨vs, hr, hr'⟩ := tup_rep rp rp'
    obtain ⟨c, hz, hc⟩ := Option.map_eq_some_iff.mp e
    obtain ⟨c', hz', hc'⟩ := Option.map_eq_some_iff.mp e'
    rw [← hc, ← hc', zipAll_fun ih _ _ _ _ _ _ hz hz' hr hr', ← hr.length, ← hr'.length]
  | _ => exact no e
theorem pveq_lsts {h : Heap} {W : Addr → Prop} {n : Nat} (ih : ∀ (p p' q : PV) (b b' : Bool) (v : Value), pveq n p q = some b → pveq n p' q = some b' → Rep (frz h W) p v → Rep (frz h W) p' v → b = b') {x y : List PV} {q : PV} {b b' : Bool} {v : Value}
    (e : pveq (n + 1) (.lst x) q = some b) (e' : pveq (n + 1) (.lst y) q = some b') (rp : Rep (frz h W) (.lst x) v) (rp' : Rep (frz h W) (.lst y) v) : b = b' := by
  cases q with
  | lst z =>
    obtain ⟨vs, hr, hr'⟩ := lst_rep rp rp'
    have e : (if x.length = z.length then zipAll (pveq n) x z else some false) = some b := e
    have e' : (if y.length = z.length then zipAll (pveq n) y z else some false) = some b' := e'
    rw [← hr.length] at e; rw [← hr'.length] at e'
    by_cases hl : vs.length = z.length
    · rw [if_pos hl] at e e'
      exact zipAll_fun ih _ _ _ _ _ _ e e' hr hr'
    · rw [if_neg hl] at e e'; exact Option.some.inj (e.symm.trans e')
  | _ => exact no e
theorem pveq_fun {h : Heap} {W : Addr → Prop} : ∀ (n : Nat) (p p' q : PV) (b b' : Bool) (v : Value), pveq n p q = some b → pveq n p' q = some b' → Rep (frz h W) p v → Rep (frz h W) p' v → b = b'
  | 0, p, p', q, b, b', v, e, _, _, _ => no e
  | n + 1, p, p', q, b, b', v, e, e', rp, rp' => by
    have hs : shapeP p = shapeP p' := (shape_of rp).trans (shape_of rp').symm
    have go : p = p' → b = b' := fun h => by subst h; exact Option.some.inj (e.symm.trans e')
    cases p with
    | none =>
      cases p' with
      | none => exact go rfl
      | _ => exact apart_nat hs rfl
    | bool x =>
      cases p' with
      | bool y =>
        refine go ?_
        have := (rep_bool.mp rp).symm.trans (rep_bool.mp rp')
        injection this with this; rw [this]
      | _ => exact apart_nat hs rfl
    | int x =>
      cases p' with
      | int y =>
        refine go ?_
        obtain ⟨t, e1⟩ := rep_int.mp rp
        obtain ⟨u, e2⟩ := rep_int.mp rp'
        have := e1.symm.trans e2
        injection this with this; rw [this]
      | _ => exact apart_nat hs rfl
    | str x =>
      cases p' with
      | str y => exact go (by rw [str_rep rp rp'])
      | _ => exact apart_nat hs rfl
    | tup x =>
      cases p' with
      | tup y => exact pveq_tups (pveq_fun n) e e' rp rp'
      | lst y => exact lst_tup rp' rp
      | none => exact apart_nat hs rfl
      | bool _ => exact apart_nat hs rfl
      | int _ => exact apart_nat hs rfl
      | str _ => exact apart_nat hs rfl
      | _ => exact no e'
    | lst x =>
      cases p' with
      | lst y => exact pveq_lsts (pveq_fun n) e e' rp rp'
      | tup y => exact lst_tup rp rp'
      | none => exact apart_nat hs rfl
      | bool _ => exact apart_nat hs rfl
      | int _ => exact apart_nat hs rfl
      | str _ => exact apart_nat hs rfl
      | _ => exact no e'
    | _ => exact no e

open Classical in
noncomputable def hitOf (g : Gr) (x : PV) (ys : List PV) (v : Value) : Bool := decide (∃ p ∈ ys, Rep g p v ∧ pveq 8 p x = some true)

open Classical in
theorem hitOf_true {g : Gr} {x : PV} {ys : List PV} {v : Value} : hitOf g x ys v = true ↔ ∃ p ∈ ys, Rep g p v ∧ pveq 8 p x = some true := by unfold hitOf; exact decide_eq_true_iff

theorem anyEq_spec {x : PV} : ∀ {ys : List PV} {c : Bool}, anyEq x ys = some c → (∀ y ∈ ys, ∃ b, pveq 8 y x = some b) ∧ (c = true ↔ ∃ y ∈ ys, pveq 8 y x = some true)
  | [], c, h => by simp [anyEq] at h; subst h; simp
  | y :: ys, c, h => by
    rw [anyEq] at h
    split at h
    · rename_i a b e1 e2
      cases h
      obtain ⟨h1, h2⟩ := anyEq_spec e2
      refine ⟨fun z hz => ?_, ?_⟩
      · rcases List.mem_cons.mp hz with rfl | hz
        · exact ⟨a, e1⟩
        · exact h1 z hz
      · simp only [Bool.or_eq_true, h2, List.mem_cons, exists_eq_or_imp, e1, Option.some.injEq]
    · cases h

theorem Reps.mem_of {g : Gr} {ps : List PV} {vs : List Value} (r : Reps g ps vs) {v : Value} (hv : v ∈ vs) : ∃ p ∈ ps, Rep g p v := by
  obtain ⟨i, hi, rfl⟩ := List.getElem_of_mem hv
  obtain ⟨p, hp, rp⟩ := r.at hi
  exact ⟨p, List.mem_of_getElem? hp, rp⟩
theorem Reps.mem_to {g : Gr} {ps : List PV} {vs : List Value} (r : Reps g ps vs) {p : PV} (hp : p ∈ ps) : ∃ v ∈ vs, Rep g p v := by
  obtain ⟨i, hi, rfl⟩ := List.getElem_of_mem hp
  obtain ⟨v, hv, rv⟩ := r.get i _ (List.getElem?_eq_getElem hi)
  exact ⟨v, List.mem_of_getElem? hv, rv⟩

section
variable {prog : Program} {w : World} {A : Around} {E : Value → Shared → Prop} {s : Shared} {W : Addr → Prop} {μ : Mu}

theorem hit_at {x : PV} {u : Value} {ys : List PV} {vs : List Value} {c : Bool} (e : anyEq x ys = some c) (rx : Rep (frz s.heap W) x u) (r : Reps (frz s.heap W) ys vs) (hu : A.units + 10 < cLine) :
    (∀ y, y ∈ vs.toArray → EqAt A.in1 s y u (hitOf (frz s.heap W) x ys y)) ∧ vs.toArray.any (hitOf (frz s.heap W) x ys) = c := by
  obtain ⟨h1, h2⟩ := anyEq_spec e
  have key : ∀ v ∈ vs, ∀ p ∈ ys, Rep (frz s.heap W) p v → ∀ b, pveq 8 p x = some b → hitOf (frz s.heap W) x ys v = b := by
    intro v hv p hp rp b hb
    cases b with
    | true => exact hitOf_true.mpr ⟨p, hp, rp, hb⟩
    | false =>
      rw [Bool.eq_false_iff]
      intro hh
      obtain ⟨p', hp', rp', hb'⟩ := hitOf_true.mp hh
      exact absurd (pveq_fun 8 _ _ _ _ _ _ hb hb' rp rp') (by simp)
  refine ⟨fun y hy => ?_, ?_⟩
  · have hy' : y ∈ vs := by simpa using hy
    obtain ⟨p, hp, rp⟩ := r.mem_of hy'
    obtain ⟨b, hb⟩ := h1 p hp
    rw [key y hy' p hp rp b hb]
    exact eqAt_sound 8 A.in1 p x b y u hb rp rx (by show A.units + 1 + 8 < cLine; lia)
  · rw [Bool.eq_iff_iff, h2, Array.any_eq_true']
    constructor
    · rintro ⟨v, hv, hh⟩
      have hv' : v ∈ vs := by simpa using hv
      obtain ⟨p, hp, _, hb⟩ := hitOf_true.mp hh
      exact ⟨p, hp, hb⟩
    · rintro ⟨p, hp, hb⟩
      obtain ⟨v, hv, rv⟩ := r.mem_to hp
      exact ⟨v, by simpa using hv, key v hv p hp rv true hb⟩

/-- both ways to ask for the very object -/
noncomputable def IsBoth (prog : Program) (w : World) (A : Around) (E : Value → Shared → Prop) (W : Addr → Prop) (s : Shared) (va vb : Value) (c : Bool) : Prop :=
  wpAny (model prog w) A (compareOp .Is va vb) (Post W s (.bool c)) E s ∧ wpAny (model prog w) A (compareOp .IsNot va vb) (Post W s (.bool !c)) E s
theorem is_other {va vb : Value} (hp : plainIs va vb = true) (hne : va ≠ vb) : IsBoth prog w A E W s va vb false :=
  ⟨wpAny_is_other hp hne post_bool, wpAny_isNot_other hp hne post_bool⟩
theorem is_none {va vb u : Value} (hb : vb = .none) (ha : va = u) (hp : plainIs u .none = true := by rfl) (hne : u ≠ .none := by exact nofun) : IsBoth prog w A E W s va vb false := by
  subst hb; subst ha
  exact is_other hp hne
theorem is_so_str {x : List Nat} {a : Addr} {va vb : Value} (ha : Rep (frz s.heap W) (.str x) va) (hb : vb = .ref a) : IsBoth prog w A E W s va vb false ∧ IsBoth prog w A E W s vb va false := by
  obtain ⟨_, t, rfl⟩ := rep_str.mp ha
  subst hb
  exact ⟨is_other rfl (fun h => by cases h), is_other rfl (fun h => by cases h)⟩
theorem pvis_sound {a b : PV} {c : Bool} {va vb : Value} (h : pvis a b = some c) (ra : Rep (frz s.heap W) a va) (rb : Rep (frz s.heap W) b vb) : IsBoth prog w A E W s va vb c := by
  cases b with
  | none =>
    have hb := rep_none.mp rb
    cases a with
    | none =>
      cases Option.some.inj h
      cases rep_none.mp ra; subst hb
      exact ⟨wpAny_is_self rfl post_bool, wpAny_isNot_self rfl post_bool⟩
    | bool x => cases Option.some.inj h; exact is_none hb (rep_bool.mp ra)
    | int x => cases Option.some.inj h; exact (let ⟨_, e⟩ := rep_int.mp ra; is_none hb e)
    | str x => cases Option.some.inj h; exact (let ⟨_, _, e⟩ := rep_str.mp ra; is_none hb e)
    | lst x => cases Option.some.inj h; exact (let ⟨_, _, _, e, _⟩ := rep_lst.mp ra; is_none hb e)
    | tup x => cases Option.some.inj h; exact (let ⟨_, _, _, e, _⟩ := rep_tup.mp ra; is_none hb e)
    | _ => exact no h
  | obj o =>
    cases a with
    | str x => cases Option.some.inj h; exact (is_so_str ra (rep_obj.mp rb)).1
    | obj o' =>
      obtain ⟨e, h2⟩ := opt_if h
      subst e; subst h2
      cases rep_obj.mp ra; cases rep_obj.mp rb
      exact ⟨wpAny_is_ref_self post_bool, wpAny_isNot_ref_self post_bool⟩
    | _ => exact no h
  | str x =>
    cases a with
    | obj o => cases Option.some.inj h; exact (is_so_str rb (rep_obj.mp ra)).2
    | _ => exact no h
  | _ => exact no h
/-- both ways to ask whether it is in -/
noncomputable def InBoth (prog : Program) (w : World) (A : Around) (E : Value → Shared → Prop) (W : Addr → Prop) (s : Shared) (va vb : Value) (c : Bool) : Prop :=
  wpAny (model prog w) A (compareOp .In va vb) (Post W s (.bool c)) E s ∧ wpAny (model prog w) A (compareOp .NotIn va vb) (Post W s (.bool !c)) E s
theorem pvin_sound {a b p : PV} {c : Bool} {va vb : Value} (h : pvin a p = some c) (e1 : rs μ b = p) (S : SR W s.heap μ) (ra : Rep (frz s.heap W) a va) (rb : Rep (frz s.heap W) b vb) (hu : A.units + 10 < cLine) : InBoth prog w A E W s va vb c := by
  cases p with
  | lst ys =>
    obtain ⟨l, vs, n, rfl, h1, h2, h3⟩ := rs_lst S e1 rb
    have hc : anyEq a ys = some c := h
    obtain ⟨k1, k2⟩ := hit_at (A := A) hc ra h3 hu
    exact ⟨in_listAt _ (isList_of h1) k1 (by rw [k2]; exact post_bool), notIn_listAt _ (isList_of h1) k1 (by rw [k2]; exact post_bool)⟩
  | tup ys =>
    have e2 := rs_tup e1; subst e2
    obtain ⟨l, vs, n, rfl, h1, h2, h3⟩ := rep_tup.mp rb
    have hc : anyEq a ys = some c := h
    obtain ⟨k1, k2⟩ := hit_at (A := A) hc ra h3 hu
    exact ⟨in_tupleAt _ (isTuple_of h1.1) k1 (by rw [k2]; exact post_bool), notIn_tupleAt _ (isTuple_of h1.1) k1 (by rw [k2]; exact post_bool)⟩
  | str x =>
    have e2 := rs_str e1; subst e2
    cases a with
    | str z =>
      cases z with
      | nil => exact no h
      | cons ch z =>
        cases z with
        | cons _ _ => exact no h
        | nil =>
          cases Option.some.inj h
          obtain ⟨_, t, rfl⟩ := rep_str.mp rb
          obtain ⟨_, u, rfl⟩ := rep_str.mp ra
          exact ⟨P.in_str (by rw [StrLaws.found_one]; exact post_bool), P.notIn_str (by rw [StrLaws.found_one]; exact post_bool)⟩
    | _ => exact no h
  | _ => exact no h
theorem cmp_int {op : CmpOp} {f : Int → Int → Option PV} {a b r : PV} {va vb : Value} (h : int2 f a b = some r) (ra : Rep (frz s.heap W) a va) (rb : Rep (frz s.heap W) b vb)
    (k : ∀ x y t u, f x y = some r → wpAny (model prog w) A (compareOp op (.int x t) (.int y u)) (Post W s r) E s) : wpAny (model prog w) A (compareOp op va vb) (Post W s r) E s := by
  obtain ⟨x, y, e1, e2, h⟩ := int2_inv h
  subst e1; subst e2
  obtain ⟨t, rfl⟩ := rep_int.mp ra; obtain ⟨u, rfl⟩ := rep_int.mp rb
  exact k x y t u h
theorem evCmp_sound {op : CmpOp} {a b r : PV} {va vb : Value} (h : evCmp μ op a b = some r) (S : SR W s.heap μ) (ra : Rep (frz s.heap W) a va) (rb : Rep (frz s.heap W) b vb) (hu : A.units + 10 < cLine) :
    wpAny (model prog w) A (compareOp op va vb) (Post W s r) E s := by
  have hu8 : A.units + 8 < cLine := Nat.lt_of_le_of_lt (Nat.add_le_add_left (by decide) _) hu
  cases op with
  | Eq =>
    obtain ⟨c, hc, rfl⟩ := Option.map_eq_some_iff.mp h
    exact (rcAt_sound hc (rs_RV S ra) (rs_RV S rb) hu8).1 prog w E _ post_bool
  | NotEq =>
    obtain ⟨c, hc, rfl⟩ := Option.map_eq_some_iff.mp h
    exact (rcAt_sound hc (rs_RV S ra) (rs_RV S rb) hu8).2 prog w E _ post_bool
  | Lt => exact cmp_int h ra rb fun x y t u h => by cases Option.some.inj h; exact PyProof.Rows.lt_int post_bool
  | LtE => exact cmp_int h ra rb fun x y t u h => by cases Option.some.inj h; exact PyProof.Rows.le_int post_bool
  | Gt => exact cmp_int h ra rb fun x y t u h => by cases Option.some.inj h; exact PyProof.Rows.gt_int post_bool
  | GtE => exact cmp_int h ra rb fun x y t u h => by cases Option.some.inj h; exact PyProof.Rows.ge_int post_bool
  | Is =>
    obtain ⟨c, hc, rfl⟩ := Option.map_eq_some_iff.mp h
    exact (pvis_sound hc ra rb).1
  | IsNot =>
    obtain ⟨c, hc, rfl⟩ := Option.map_eq_some_iff.mp h
    exact (pvis_sound hc ra rb).2
  | In =>
    obtain ⟨c, hc, rfl⟩ := Option.map_eq_some_iff.mp h
    exact (pvin_sound hc rfl S ra rb hu).1
  | NotIn =>
    obtain ⟨c, hc, rfl⟩ := Option.map_eq_some_iff.mp h
    exact (pvin_sound hc rfl S ra rb hu).2
end
end Mine
end

section
open PySem PySem.W PyProof.Rows PySem.SeqAt
namespace Mine

theorem getI_spec {α : Type} {xs : List α} {k : Int} {x : α} (h : getI xs k = some x) :
    (0 ≤ k ∧ k < xs.length ∧ xs[k.toNat]? = some x) ∨ (k < 0 ∧ -(xs.length : Int) ≤ k ∧ xs[(k + xs.length).toNat]? = some x) := by
  unfold getI at h
  split at h
  · rename_i h0
    refine .inl ⟨h0, ?_, h⟩
    have : k.toNat < xs.length := by
      rcases Nat.lt_or_ge k.toNat xs.length with h' | h'
      · exact h'
      · rw [List.getElem?_eq_none h'] at h; cases h
    omega
  · split at h
    · exact .inr ⟨by omega, by assumption, h⟩
    · cases h

theorem seqIndex_of_getI {α : Type} {xs : List α} {k : Int} {x : α} (h : getI xs k = some x) : ∃ j, seqIndex? k xs.length = some j ∧ xs[j]? = some x := by
  rcases getI_spec h with ⟨h0, h1, h2⟩ | ⟨h0, h1, h2⟩
  · exact ⟨_, seqIndex_of h0 h1, h2⟩
  · exact ⟨_, seqIndex_neg h0 h1, h2⟩

section
variable {prog : Program} {w : World} {A : Around} {E : Value → Shared → Prop} {s : Shared} {W : Addr → Prop} {μ : Mu} {env : Env}

/-- a subscript behind its two operands -/
theorem sub_any {value slice : Expr} {T id : String} {o i : Value} {Q : Value → Shared → Prop} (hl : typeLookup (.type T) "__getitem__" = pure (some (.builtin id))) (hT : s.TypeIs o T)
    (h : wpAny (model prog w) A (getItem o i) Q E s) :
    wpAny (model prog w) A (getitemInPython o >>= fun b => subscripted slice b o i >>= fun r => letTemporaryGo value o r >>= fun _ => pure r) Q E s := by
  refine wpAny_bind ?_
  rw [getitemInPython_of_ne hT.not_modules]
  refine wpAny_bind (wpAny_specialOf hT hl ?_)
  have fin : ∀ ops, wpAny (model prog w) A (operate ops (getItem o i)) (fun r s₃ => wpAny (model prog w) A (letTemporaryGo value o r >>= fun _ => pure r) Q E s₃) E s :=
    fun ops => wpAny_operating (wpAny_mono h (fun r s₃ h₃ => wpAny_bind (wpAny_letTemporaryGo (wpAny_pure h₃))) fun _ _ x => x)
  have fin' : wpAny (model prog w) A (subscripted slice false o i) (fun r s₃ => wpAny (model prog w) A (letTemporaryGo value o r >>= fun _ => pure r) Q E s₃) E s := by
    cases slice with
    | Slice a b c d => cases c <;> exact fin _
    | _ => exact fin _
  exact wpAny_pure (wpAny_bind fin')

theorem evIdx_sound {a i r : PV} {va vi : Value} {value slice : Expr} (h : evIdx μ a i = some r) (S : SR W s.heap μ) (ra : Rep (frz s.heap W) a va) (ri : Rep (frz s.heap W) i vi) :
    wpAny (model prog w) A (getitemInPython va >>= fun b => subscripted slice b va vi >>= fun r => letTemporaryGo value va r >>= fun _ => pure r) (Post W s r) E s := by
  cases i with
  | int k =>
    obtain ⟨t, rfl⟩ := rep_int.mp ri
    have gen : ∀ p, rs μ a = p → (match p with
      | .lst xs => getI xs k
      | .tup xs => getI xs k
      | .str xs => (getI xs k).map fun c => PV.str [c]
      | _ => none) = some r → wpAny (model prog w) A (getitemInPython va >>= fun b => subscripted slice b va (.int k t) >>= fun r => letTemporaryGo value va r >>= fun _ => pure r) (Post W s r) E s := by
      intro p e1 h
      cases p with
      | lst xs =>
        have h : getI xs k = some r := h
        obtain ⟨l, vs, n, rfl, h1, h2, h3⟩ := rs_lst S e1 ra
        refine sub_any slot_list_getitem.lookup (isList_of h1).typeIs ?_
        have hl := h3.length
        unfold SZ at h2
        rcases getI_spec h with ⟨g0, g1, g2⟩ | ⟨g0, g1, g2⟩
        · obtain ⟨v, hv, rv⟩ := h3.get _ _ g2
          exact wpAny_getItem_list (isList_of h1) g0 (by omega) (by simpa using hv) ⟨Keeps.rfl', rv⟩
        · obtain ⟨v, hv, rv⟩ := h3.get _ _ g2
          exact wpAny_getItem_list_neg (isList_of h1) g0 (by simp; omega) (by omega) (by simpa [hl] using hv) ⟨Keeps.rfl', rv⟩
      | tup xs =>
        have h : getI xs k = some r := h
        have e2 := rs_tup e1; subst e2
        obtain ⟨l, vs, n, rfl, h1, h2, h3⟩ := rep_tup.mp ra
        refine sub_any F.slot_tuple_getitem.lookup (isTuple_of h1.1).typeIs ?_
        have hl := h3.length
        unfold SZ at h2
        obtain ⟨j, hj, hx⟩ := seqIndex_of_getI h
        obtain ⟨v, hv, rv⟩ := h3.get _ _ hx
        have hb := getI_spec h
        exact P.getItem_tuple (items := vs.toArray) (n := n) (k := j) (y := v) h1.1 (by omega) (by omega) (by simpa [hl] using hj) (by simpa using hv) ⟨Keeps.rfl', rv⟩
      | str xs =>
        have e2 := rs_str e1; subst e2
        obtain ⟨c, hc, rfl⟩ := Option.map_eq_some_iff.mp h
        obtain ⟨h2, t, rfl⟩ := rep_str.mp ra
        unfold SZ at h2
        obtain ⟨j, hj, hx⟩ := seqIndex_of_getI hc
        have hb := getI_spec hc
        refine sub_any F.slot_str_getitem.lookup (typeIs_str s _ t) ?_
        refine P.getItem_str (c := c) (by rw [decide_eq_false (by omega), decide_eq_false (by omega)]; rfl) ?_ (post_str (by simp [SZ]))
        rw [Str.len_mk, hj]
        simpa using hx
      | _ => exact no h
    exact gen _ rfl h
  | _ => exact no h

theorem clip_eq : clip = clipAt := rfl
theorem sl_pick (items : List Value) (lo hi : Option Int) : slicePick items.toArray lo hi none = (sl items lo hi).toArray := by
  rw [slicePick_plain]
  simp [sl, clip_eq]
theorem Reps.sl {g : Gr} {ps : List PV} {vs : List Value} (r : Reps g ps vs) (lo hi : Option Int) : Reps g (sl ps lo hi) (Mine.sl vs lo hi) := by
  unfold Mine.sl
  rw [r.length]
  exact (r.drop _).take _
theorem sl_length {α : Type} (xs : List α) (lo hi : Option Int) : (sl xs lo hi).length ≤ xs.length := by
  unfold sl
  simp only [List.length_take, List.length_drop]
  omega

theorem strIdx_eq (lo hi : Option Int) (n : Nat) : Builtin.Str.strSliceIndices lo hi 1 n = sliceRange (sliceBounds lo hi none n).1 (sliceBounds lo hi none n).2.1 (sliceBounds lo hi none n).2.2 := by
  cases lo <;> cases hi <;> simp [Builtin.Str.strSliceIndices, sliceBounds]

theorem sl_str (x : List Nat) (lo hi : Option Int) : (Builtin.Str.strSliceIndices lo hi 1 x.length).filterMap (x.toArray[·]?) = sl x lo hi := by
  rw [strIdx_eq, sliceBounds_plain]
  simp only [sliceRange_one, pick_run]
  simp [sl, clip_eq]
theorem sl_str_len (x : List Nat) (lo hi : Option Int) : (Builtin.Str.strSliceIndices lo hi 1 x.length).length = (hi.elim x.length (clip x.length) - lo.elim 0 (clip x.length)) := by
  rw [strIdx_eq, sliceBounds_plain]
  simp only [sliceRange_one]
  simp [clip_eq]

noncomputable def tokOf : Value → Option (Int × Tok)
  | .int i t => some (i, t)
  | _ => none
theorem part_of {p : PV} {o : Option Int} {v : Value} {g : Gr} (h : optI p = some o) (r : Rep g p v) : IsPart v o ∧ v = partValue (tokOf v) ∧ (tokOf v).map (·.1) = o := by
  cases p with
  | none => simp [optI] at h; subst h; cases rep_none.mp r; exact ⟨.none, rfl, rfl⟩
  | int i => simp [optI] at h; subst h; obtain ⟨t, rfl⟩ := rep_int.mp r; exact ⟨.int i t, rfl, rfl⟩
  | _ => simp [optI] at h

noncomputable def slObj (l u st : Value) : Obj := { cls := .type "slice", data := .fields #[l, u, st] }

/-- a slice of a list is a new list -/
theorem slc_list {l a : Addr} {vs : List Value} {n : Nat} {xs : List PV} {vl vu : Value} {lo hi : Option Int} (h1 : s.heap.get? l = some (lObj vs n)) (h2 : vs.length ≤ SZ) (h3 : Reps (frz s.heap W) xs vs)
    (hs : s.heap.get? a = some (slObj vl vu .none)) (pl : IsPart vl lo) (pu : IsPart vu hi) :
    wpAny (model prog w) A (getItem (.ref l) (.ref a)) (PostL W s (sl xs lo hi)) E s := by
  refine wpAny_getItem_list_slice (isList_of h1) ⟨_, hs, rfl, rfl⟩ pl pu .none (by simp) ?_ (by simpa [SZ_eq] using h2)
  rw [sl_pick]
  exact postL_push (n := 0) (tk := s.toks) (Nat.le_trans (sl_length _ _ _) h2) (h3.sl lo hi)

theorem slc_str {x : List Nat} {t : Tok} {a : Addr} {vl vu : Value} {lo hi : Option Int} (hx : x.length ≤ SZ) (hs : s.heap.get? a = some (slObj vl vu .none)) (pl : vl = partValue (tokOf vl) ∧ (tokOf vl).map (·.1) = lo) (pu : vu = partValue (tokOf vu) ∧ (tokOf vu).map (·.1) = hi) :
    wpAny (model prog w) A (getItem (.str ⟨x.toArray⟩ t) (.ref a)) (Post W s (.str (sl x lo hi))) E s := by
  have hsl : (sl x lo hi).length ≤ SZ := Nat.le_trans (sl_length _ _ _) hx
  refine wpAny_getItem_str_slice (l := tokOf vl) (u := tokOf vu) (st := none) ⟨_, hs, rfl, by rw [← pl.1, ← pu.1]; rfl⟩ rfl ?_
  unfold sliceMade slicePicked
  rw [pl.2, pu.2, Str.len_mk]
  show Made.post (if ((1 : Int) == 1 && (Builtin.Str.strSliceIndices lo hi 1 x.length).length == x.length) = true then _ else _) _ _
  split
  · rename_i hh
    have hlen : (Builtin.Str.strSliceIndices lo hi 1 x.length).length = x.length := by simpa using hh
    rw [sl_str_len] at hlen
    have e : sl x lo hi = x := by
      unfold sl
      have h1 : lo.elim 0 (clip x.length) ≤ x.length := by cases lo <;> simp [clip]; omega
      have h2 : hi.elim x.length (clip x.length) ≤ x.length := by cases hi <;> simp [clip]; omega
      by_cases hx0 : x.length = 0
      · have : x = [] := List.eq_nil_of_length_eq_zero hx0
        subst this; simp
      · have h3 : lo.elim 0 (clip x.length) = 0 := by omega
        rw [h3] at hlen ⊢
        rw [hlen]; simp
    rw [e]
    exact ⟨Keeps.rfl', by rw [rep_str]; exact ⟨hx, t, rfl⟩⟩
  · show Str.length ⟨_⟩ ≤ sizeLine ∧ _
    rw [show ((Str.mk x.toArray).cps) = x.toArray from rfl, show (none.map (fun x : Int × Tok => x.1)).getD 1 = 1 from rfl, sl_str]
    exact ⟨by rw [Str.len_mk]; exact hsl, post_str hsl⟩
end
end Mine
end

section
open PySem PySem.W PyProof.Rows PySem.SeqAt
namespace Mine

theorem rangeSize_down (a b : Int) : Builtin.Range.rangeSize a b (-1) = if b < a then a - b else 0 := by
  unfold Builtin.Range.rangeSize
  simp only [show ¬ ((-1 : Int) > 0) by decide, if_false]
  split <;> (try simp) <;> lia
theorem small_down {a b : Int} (ha : -(2 ^ 62) ≤ a) (ha' : a < 2 ^ 62) (hb : -(2 ^ 62) ≤ b) (hb' : b < 2 ^ 62) : Builtin.Range.small a b (-1) = true := by
  unfold Builtin.Range.small
  rw [rangeSize_down]
  simp only [Builtin.Range.rangeFitsLong, Bool.and_eq_true, Bool.or_eq_true, decide_eq_true_eq, beq_iff_eq, show ¬ ((-1 : Int) > 0) by decide, if_false]
  split <;> refine ⟨⟨⟨⟨⟨?_, ?_⟩, ?_, ?_⟩, ?_, ?_⟩, ?_, ?_⟩, ?_⟩ <;> lia

theorem boot_len : bootBuiltins "len" = some (.builtin "len") := by decide +kernel
theorem boot_range : bootBuiltins "range" = some (.type "range") := by decide +kernel
theorem boot_list : bootBuiltins "list" = some (.type "list") := by decide +kernel
theorem boot_min : bootBuiltins "min" = some (.builtin "min") := by decide +kernel
theorem boot_chr : bootBuiltins "chr" = some (.builtin "chr") := by decide +kernel

theorem strsAre_of {g : Gr} {sep : List Nat} : ∀ {xs : List PV} {vs : List Value} {y : List Nat}, joinStrs sep xs = some y → Reps g xs vs →
    ∃ ys : List (List Nat), StrsAre vs (ys.map fun c => (⟨c.toArray⟩ : Str)) ∧ Str.join ⟨sep.toArray⟩ (ys.map fun c => (⟨c.toArray⟩ : Str)) = ⟨y.toArray⟩ ∧ (ys.map List.length).sum + ys.length * sep.length ≤ y.length + sep.length
  | [], vs, y, h, r => by
    simp [joinStrs] at h; subst h
    rw [Reps] at r; subst r
    exact ⟨[], .nil, rfl, by simp⟩
  | [.str x], vs, y, h, r => by
    simp [joinStrs] at h; subst h
    rw [Reps] at r
    obtain ⟨v, vs', rfl, hv, hr⟩ := r
    rw [Reps] at hr; subst hr
    obtain ⟨_, t, rfl⟩ := rep_str.mp hv
    exact ⟨[x], .cons _ _ .nil, rfl, by simp⟩
  | .str x :: p :: xs, vs, y, h, r => by
    simp only [joinStrs] at h
    obtain ⟨z, hz, rfl⟩ := Option.map_eq_some_iff.mp h
    rw [Reps] at r
    obtain ⟨v, vs', rfl, hv, hr⟩ := r
    obtain ⟨_, t, rfl⟩ := rep_str.mp hv
    obtain ⟨ys, h1, h2, h3⟩ := strsAre_of hz hr
    cases ys with
    | nil =>
      simp at h1
      cases h1
      rw [Reps] at hr; obtain ⟨_, _, e, _⟩ := hr; cases e
    | cons q ys =>
      refine ⟨x :: q :: ys, .cons _ _ h1, ?_, ?_⟩
      · show ⟨x.toArray⟩ ++ _ ++ Str.join _ _ = _
        rw [h2, Str.app_mk, Str.app_mk]
      · simp only [List.map_cons, List.sum_cons, List.length_cons, List.length_append, Nat.succ_mul] at h3 ⊢
        lia
  | .none :: _, vs, y, h, r => by simp [joinStrs] at h
  | .bool _ :: _, vs, y, h, r => by simp [joinStrs] at h
  | .int _ :: _, vs, y, h, r => by simp [joinStrs] at h
  | .tup _ :: _, vs, y, h, r => by simp [joinStrs] at h
  | .lst _ :: _, vs, y, h, r => by simp [joinStrs] at h
  | .own _ :: _, vs, y, h, r => by simp [joinStrs] at h
  | .obj _ :: _, vs, y, h, r => by simp [joinStrs] at h
  | .app _ :: _, vs, y, h, r => by simp [joinStrs] at h
  | .rng _ _ _ :: _, vs, y, h, r => by simp [joinStrs] at h

theorem reps_ints_from {g : Gr} {lo st : Int} : ∀ (l : List Value) (k : Nat), (∀ (j : Nat) (v : Value), l[j]? = some v → ∃ t, v = Value.int (lo + ((k + j : Nat) : Int) * st) t) → Reps g ((List.range' k l.length).map fun (i : Nat) => PV.int (lo + (i : Int) * st)) l
  | [], k, _ => by simp [Reps]
  | v :: l, k, hk => by
    rw [List.length_cons, List.range'_succ, List.map_cons]
    refine Reps.cons ?_ (reps_ints_from l (k + 1) fun j u hj => ?_)
    · obtain ⟨t, rfl⟩ := hk 0 v (by simp)
      rw [rep_int]; exact ⟨t, by simp⟩
    · obtain ⟨t, rfl⟩ := hk (j + 1) u (by simpa using hj)
      refine ⟨t, ?_⟩
      rw [show k + (j + 1) = k + 1 + j by lia]
theorem reps_ints {g : Gr} {lo st : Int} {n : Nat} {acc : Array Value} (h : ItemsOf (fun i v => ∃ t, v = Value.int (lo + (i : Int) * st) t) acc n) : Reps g (intsFrom lo n st) acc.toList := by
  obtain ⟨hs, hi⟩ := h
  have := reps_ints_from (g := g) (lo := lo) (st := st) acc.toList 0 fun j v hj => by
    obtain ⟨t, rfl⟩ := hi j v (by simpa using hj)
    exact ⟨t, by simp⟩
  unfold intsFrom
  rw [← hs, List.range_eq_range']
  simpa using this

section
variable {prog : Program} {w : World} {A : Around} {E : Value → Shared → Prop} {s : Shared} {W : Addr → Prop} {μ : Mu} {env : Env}

theorem reps_one {g : Gr} {p : PV} {vs : List Value} (r : Reps g [p] vs) : ∃ v, vs = [v] ∧ Rep g p v := by
  rw [Reps] at r; obtain ⟨v, vs', rfl, h, hr⟩ := r
  rw [Reps] at hr; subst hr; exact ⟨v, rfl, h⟩
theorem reps_two {g : Gr} {p q : PV} {vs : List Value} (r : Reps g [p, q] vs) : ∃ v u, vs = [v, u] ∧ Rep g p v ∧ Rep g q u := by
  rw [Reps] at r; obtain ⟨v, vs', rfl, h, hr⟩ := r
  obtain ⟨u, rfl, hu⟩ := reps_one hr; exact ⟨v, u, rfl, h, hu⟩
theorem reps_three {g : Gr} {p q z : PV} {vs : List Value} (r : Reps g [p, q, z] vs) : ∃ v u x, vs = [v, u, x] ∧ Rep g p v ∧ Rep g q u ∧ Rep g z x := by
  rw [Reps] at r; obtain ⟨v, vs', rfl, h, hr⟩ := r
  obtain ⟨u, x, rfl, hu, hx⟩ := reps_two hr; exact ⟨v, u, x, rfl, h, hu, hx⟩

theorem post_rng {lo b st : Int} {n : Nat} {t u x : Tok} {tk : Nat} (S : SR W s.heap μ) (h1 : Builtin.Range.small lo b st = true) (h2 : Builtin.Range.rangeSize lo b st = (n : Int)) :
    Post W s (.rng lo n st) (.ref s.heap.objs.size) { s with heap := s.heap.push (rObj lo b st t u x), toks := tk } :=
  ⟨Keeps.push _ _, by rw [rep_rng]; exact ⟨_, b, t, u, x, rfl, ⟨Heap.get?_push_size _ rfl, S.fresh⟩, h1, h2⟩⟩

theorem list_rng {lo st : Int} {n : Nat} {v : Value} (hh : A.handled = none) (r : Rep (frz s.heap W) (.rng lo n st) v) (hn : n ≤ SZ) :
    wpAny (model prog w) A (call (.type "list") [v]) (PostL W s (intsFrom lo n st)) E s := by
  obtain ⟨q, b, t, u, x, rfl, hg, h1, h2⟩ := rep_rng.mp r
  refine call_list_range hh hg.1 h1 h2 (by unfold SZ at hn; lia) fun h' tk acc c hk hg' hi => ?_
  refine ⟨⟨h', tk, rfl, hk⟩, _, acc.toList, c, rfl, fresh_none _, by simpa [lObj] using hg', by rw [Array.length_toList, hi.1]; exact hn, reps_ints hi⟩

theorem len_sound {p q r : PV} {v : Value} (h : lenV q = some r) (e : rs μ p = q) (S : SR W s.heap μ) (rv : Rep (frz s.heap W) p v) : wpAny (model prog w) A (call (.builtin "len") [v]) (Post W s r) E s := by
  cases q with
  | lst xs =>
    obtain ⟨l, vs, n, rfl, h1, h2, h3⟩ := rs_lst S e rv
    cases Option.some.inj h
    unfold SZ at h2
    refine PySem.Calls.call_len_list (isList_of h1) (by simp; lia) ?_
    rw [show (vs.toArray.size : Int) = (vs.length : Int) by simp, h3.length]
    exact post_int
  | tup xs =>
    have e2 := rs_tup e; subst e2
    cases Option.some.inj h
    obtain ⟨l, vs, n, rfl, h1, h2, h3⟩ := rep_tup.mp rv
    unfold SZ at h2
    refine P.len_tuple (items := vs.toArray) (n := n) h1.1 (by simp; lia) ?_
    rw [show (vs.toArray.size : Int) = (vs.length : Int) by simp, h3.length]
    exact post_int
  | str xs =>
    have e2 := rs_str e; subst e2
    cases Option.some.inj h
    obtain ⟨h2, t, rfl⟩ := rep_str.mp rv
    unfold SZ at h2
    refine P.len_str (by rw [Str.len_mk]; lia) ?_
    rw [Str.len_mk]
    exact post_int
  | _ => exact no h
theorem range_sound {args : List PV} {r : PV} {vs : List Value} (h : rangeV args = some r) (S : SR W s.heap μ) (R : Reps (frz s.heap W) args vs) : wpAny (model prog w) A (call (.type "range") vs) (Post W s r) E s := by
  cases args with
  | nil => exact no h
  | cons p args =>
    cases args with
    | nil =>
      obtain ⟨v, rfl, rv⟩ := reps_one R
      obtain ⟨b, rfl, h⟩ := int1_inv h
      obtain ⟨hb, h⟩ := opt_if h
      subst h
      obtain ⟨t, rfl⟩ := rep_int.mp rv
      refine call_range_1 (post_rng S (small_one (by lia) (by lia) (by lia) (by lia)) ?_)
      rw [rangeSize_one]; split <;> lia
    | cons q args =>
      cases args with
      | nil =>
        obtain ⟨v, u, rfl, rv, ru⟩ := reps_two R
        obtain ⟨a, b, rfl, rfl, h⟩ := int2_inv h
        obtain ⟨hb, h⟩ := opt_if h
        subst h
        obtain ⟨t, rfl⟩ := rep_int.mp rv
        obtain ⟨t', rfl⟩ := rep_int.mp ru
        refine call_range_2 (post_rng S (small_one (by lia) (by lia) (by lia) (by lia)) ?_)
        rw [rangeSize_one]; split <;> lia
      | cons z args =>
        cases args with
        | nil =>
          obtain ⟨v, u, x, rfl, rv, ru, rx⟩ := reps_three R
          obtain ⟨c, rfl, h⟩ := int1_inv h
          obtain ⟨a, b, rfl, rfl, h⟩ := int2_inv h
          obtain ⟨⟨_, _, rfl⟩, h3⟩ := opt_if h
          subst h3
          obtain ⟨t, rfl⟩ := rep_int.mp rv
          obtain ⟨t', rfl⟩ := rep_int.mp ru
          obtain ⟨t'', rfl⟩ := rep_int.mp rx
          refine call_range_3 (by decide) (post_rng S (small_down (by lia) (by lia) (by lia) (by lia)) ?_) (.inl (PyProof.noPylong_small (by decide)))
          rw [rangeSize_down]; split <;> lia
        | cons _ _ => exact no h

/-- the built-in functions, each with its call -/
theorem evCall_sound {f : Str} {args : List PV} {r : PV} {vs : List Value} (h : evCall μ f args = some r) (S : SR W s.heap μ) (R : Reps (frz s.heap W) args vs) (hh : A.handled = none) :
    ∃ fv, bootBuiltins f = some fv ∧ (∃ id, fv = .builtin id ∨ fv = .type id) ∧ wpAny (model prog w) A (call fv vs) (Post W s r) E s := by
  unfold evCall at h
  by_cases hf : f = "len"
  · rw [if_pos hf] at h; subst hf
    obtain ⟨p, rfl, h⟩ := arg1_inv h
    obtain ⟨v, rfl, rv⟩ := reps_one R
    exact ⟨_, boot_len, ⟨_, .inl rfl⟩, len_sound h rfl S rv⟩
  rw [if_neg hf] at h
  by_cases hf : f = "range"
  · rw [if_pos hf] at h; subst hf
    exact ⟨_, boot_range, ⟨_, .inr rfl⟩, range_sound h S R⟩
  rw [if_neg hf] at h
  by_cases hf : f = "list"
  · rw [if_pos hf] at h; subst hf
    obtain ⟨p, rfl, h⟩ := arg1_inv h
    obtain ⟨v, rfl, rv⟩ := reps_one R
    refine ⟨_, boot_list, ⟨_, .inr rfl⟩, ?_⟩
    cases p with
    | rng lo n st =>
      obtain ⟨hn, h⟩ := opt_if h
      subst h
      exact wpAny_mono (list_rng hh rv hn) (fun _ _ x => x.post S) fun _ _ x => x
    | _ => exact no h
  rw [if_neg hf] at h
  by_cases hf : f = "min"
  · rw [if_pos hf] at h; subst hf
    obtain ⟨p, q, rfl, h⟩ := arg2_inv h
    obtain ⟨v, u, rfl, rv, ru⟩ := reps_two R
    obtain ⟨a, b, rfl, rfl, h⟩ := int2_inv h
    cases Option.some.inj h
    obtain ⟨t, rfl⟩ := rep_int.mp rv
    obtain ⟨t', rfl⟩ := rep_int.mp ru
    refine ⟨_, boot_min, ⟨_, .inl rfl⟩, min_two_ints hh fun h' tk hk => ⟨⟨h', tk, rfl, hk⟩, ?_⟩⟩
    rw [rep_int]
    by_cases hc : b < a
    · rw [if_pos hc]; exact ⟨t', by congr 1; lia⟩
    · rw [if_neg hc]; exact ⟨t, by congr 1; lia⟩
  rw [if_neg hf] at h
  by_cases hf : f = "chr"
  · rw [if_pos hf] at h; subst hf
    obtain ⟨p, rfl, h⟩ := arg1_inv h
    obtain ⟨v, rfl, rv⟩ := reps_one R
    obtain ⟨a, rfl, h⟩ := int1_inv h
    obtain ⟨hc, h⟩ := opt_if h
    subst h
    obtain ⟨t, rfl⟩ := rep_int.mp rv
    exact ⟨_, boot_chr, ⟨_, .inl rfl⟩, P.chr_of_int (by rw [decide_eq_false (by lia), decide_eq_false (by lia)]; rfl) (post_str (x := [a.toNat]) (by simp [SZ]))⟩
  rw [if_neg hf] at h
  exact no h

theorem join_sound {sep y : List Nat} {xs : List PV} {v : Value} {t : Tok} {p : PV} (hj : joinStrs sep xs = some y) (hsz : y.length + sep.length ≤ SZ) (S : SR W s.heap μ) (e : rs μ p = .lst xs) (r : Rep (frz s.heap W) p v) :
    wpAny (model prog w) A (call (.builtin "str.join") [.str ⟨sep.toArray⟩ t, v]) (Post W s (.str y)) E s := by
  obtain ⟨l, vs, n, rfl, h1, h2, h3⟩ := rs_lst S e r
  obtain ⟨ys, k1, k2, k3⟩ := strsAre_of hj h3
  refine join_list (isList_of h1) (by simpa using k1) ?_ fun t' k => ?_
  · unfold SZ at hsz
    rw [Str.len_mk, List.map_map, List.length_map]
    have : (ys.map (Str.length ∘ fun c => (⟨c.toArray⟩ : Str))) = ys.map List.length := by
      apply List.map_congr_left; intro c _; exact Str.len_mk c
    rw [this]; lia
  · show Post W s (.str y) (.str (Builtin.Str.glued _ _) t') _
    rw [StrLaws.glued_eq_join, k2]
    exact post_str (by lia)
end
end Mine
end

section
open PySem PySem.W PyProof.Rows PySem.SeqAt
namespace Mine

theorem rs_lst2 {μ : Mu} {W : Addr → Prop} {h : Heap} (S : SR W h μ) {p : PV} {xs : List PV} {v : Value} (e : rs μ p = .lst xs) (r : Rep (frz h W) p v) :
    ∃ a vs n, v = .ref a ∧ h.get? a = some (lObj vs n) ∧ vs.length ≤ SZ ∧ Reps (frz h W) xs vs ∧ (¬ W a ∨ (μ a).isSome = true) := by
  cases p with
  | own a =>
    rw [rs] at e
    cases hm : μ a with
    | none => first | exact clash hm e | (rw [hm] at e; cases e)
    | some ys =>
      first | exact clash hm e | (rw [hm] at e; cases e)
      obtain ⟨vs, n, h1, h2, h3⟩ := S.ls a xs hm
      exact ⟨a, vs, n, r, h1, h2, h3, .inr (by rw [hm]; rfl)⟩
  | lst ys =>
    cases e
    rw [Rep] at r
    obtain ⟨a, vs, n, rfl, hg, hl, hr⟩ := r
    exact ⟨a, vs, n, rfl, hg.1, hl, hr, .inl hg.2⟩
  | _ => cases e

/-- an iterator over items, not yet begun -/
inductive Itr (prog : Program) (w : World) (A : Around) (W : Addr → Prop) (μ : Mu) (s s₂ : Shared) (items : List PV) (it : Value) : Prop
  | mk (I : Addr) (fp : List Addr) (n : Nat) (P : Nat → Value → Prop) (St : Nat → Heap → Prop) (e : it = .ref I) (hn : n = items.length) (walk : Walks prog w A I fp [I] n P St) (hst : St 0 s₂.heap) (hI : s.heap.get? I = none)
    (hfp : ∀ b ∈ fp, b = I ∨ ((∃ o, s.heap.get? b = some o) ∧ (¬ W b ∨ (μ b).isSome = true))) (hIfp : I ∈ fp)
    (hP : ∀ i u, P i u → ∃ q, items[i]? = some q ∧ Rep (frz s.heap W) q u)
    (hgo : ∀ (i : Nat) (s' : Shared) (tgt : Expr) (v : Value) (Q : Unit → Shared → Prop) (E : Value → Shared → Prop), St i s'.heap → Q () s' → wpAny (model prog w) A (letOwnedTupleGo tgt (.ref I) v) Q E s')
    (hex : ∀ (i : Nat) (h : Heap), St i h → ∃ o, h.get? I = some o) (keeps : Keeps s s₂)

section
variable {prog : Program} {w : World} {A : Around} {E : Value → Shared → Prop} {s : Shared} {W : Addr → Prop} {μ : Mu} {env : Env}

theorem letGo_any {target : Expr} {I : Addr} {o : Obj} {T : String} {xs : Array Value} {v : Value} {Q' : Unit → Shared → Prop} {s' : Shared} (ho : s'.heap.get? I = some o) (hc : o.cls = .type T) (hd : o.data = .fields xs)
    (hT : ["enumerate", "zip", "dict_itemiterator", "dict_reverseitemiterator", "odict_iterator", "itertools.zip_longest", "itertools.pairwise"].contains T = false) (h : Q' () s') :
    wpAny (model prog w) A (letOwnedTupleGo target (.ref I) v) Q' E s' := by
  unfold letOwnedTupleGo
  cases target <;> first
    | exact wpAny_pure h
    | (cases v <;> first
        | exact wpAny_pure h
        | (refine wpAny_bind (wpAny_load ho ?_)
           rw [hc, hd]
           simp only [hT, Bool.false_and, Bool.false_eq_true, if_false]
           exact wpAny_pure h))

theorem iter_lst {v : Value} {xs : List PV} (h : ∃ a vs n, v = .ref a ∧ s.heap.get? a = some (lObj vs n) ∧ vs.length ≤ SZ ∧ Reps (frz s.heap W) xs vs ∧ (¬ W a ∨ (μ a).isSome = true)) (hh : A.handled = none) :
    wpAny (model prog w) A (pyIter v) (fun it s₂ => Itr prog w A W μ s s₂ xs it) E s := by
  obtain ⟨l, vs, n, rfl, h1, h2, h3, h4⟩ := h
  have hlt : l < s.heap.objs.size := Heap.lt_size h1
  refine wpAny_pyIter_list (isList_of h1) ⟨s.heap.objs.size, [s.heap.objs.size, l], _, _, _, rfl, ?_, Walks.list hh s.heap.objs.size l (Nat.ne_of_lt hlt) vs.toArray, ⟨⟨_, Heap.get?_push_size _ rfl, rfl, rfl⟩, (isList_of h1).at fun o e => Heap.get?_push_of_some _ e⟩, fresh_none _, ?_, List.mem_cons_self, ?_, ?_, fun i h st => let ⟨o, ho, _⟩ := st.1; ⟨o, ho⟩, Keeps.push _ _⟩
  · simp [h3.length]
  · intro b hb
    rcases List.mem_cons.mp hb with rfl | hb
    · exact .inl rfl
    · rw [List.mem_singleton.mp hb]; exact .inr ⟨⟨_, h1⟩, h4⟩
  · intro i u hu
    exact h3.get' i u (by simpa using hu)
  · intro i s' tgt v Q E st hQ
    exact letGo_listiter st.1 hQ
theorem iter_tup {v : Value} {xs : List PV} (r : Rep (frz s.heap W) (.tup xs) v) (hh : A.handled = none) : wpAny (model prog w) A (pyIter v) (fun it s₂ => Itr prog w A W μ s s₂ xs it) E s := by
  obtain ⟨l, vs, n, rfl, h1, h2, h3⟩ := rep_tup.mp r
  have hlt : l < s.heap.objs.size := Heap.lt_size h1.1
  refine wpAny_pyIter_tuple (isTuple_of h1.1) ⟨s.heap.objs.size, [s.heap.objs.size, l], _, _, _, rfl, ?_, Walks.tuple hh s.heap.objs.size l (Nat.ne_of_lt hlt) vs.toArray, ⟨⟨_, Heap.get?_push_size _ rfl, rfl, rfl⟩, (isTuple_of h1.1).at fun o e => Heap.get?_push_of_some _ e⟩, fresh_none _, ?_, List.mem_cons_self, ?_, ?_, fun i h st => let ⟨o, ho, _⟩ := st.1; ⟨o, ho⟩, Keeps.push _ _⟩
  · simp [h3.length]
  · intro b hb
    rcases List.mem_cons.mp hb with rfl | hb
    · exact .inl rfl
    · rw [List.mem_singleton.mp hb]; exact .inr ⟨⟨_, h1.1⟩, .inl h1.2⟩
  · intro i u hu
    exact h3.get' i u (by simpa using hu)
  · intro i s' tgt v Q E st hQ
    exact letGo_tupleiter st.1 hQ
theorem iter_str {v : Value} {xs : List Nat} (r : Rep (frz s.heap W) (.str xs) v) (hh : A.handled = none) : wpAny (model prog w) A (pyIter v) (fun it s₂ => Itr prog w A W μ s s₂ (xs.map fun c => .str [c]) it) E s := by
  obtain ⟨h2, t, rfl⟩ := rep_str.mp r
  have item : ∀ i u, SignAt ⟨xs.toArray⟩ i u → ∃ q, (xs.map fun c => PV.str [c])[i]? = some q ∧ Rep (frz s.heap W) q u := by
    rintro i u ⟨c, tk, hc, rfl⟩
    have hc' : xs[i]? = some c := by simpa using hc
    exact ⟨.str [c], by simp [hc'], rep_str.mpr ⟨by simp [SZ], tk, rfl⟩⟩
  have hsz : ((⟨xs.toArray⟩ : Str).cps.size) = (xs.map fun c => PV.str [c]).length := by simp
  cases ha : (⟨xs.toArray⟩ : Str).cps.all (· < 128)
  · refine wpAny_pyIter_wide ha ⟨s.heap.objs.size, [s.heap.objs.size], _, _, _, rfl, hsz, Walks.strWide hh _ ⟨xs.toArray⟩ t, ⟨_, Heap.get?_push_size _ rfl, rfl, rfl⟩, fresh_none _, fun b hb => .inl (List.mem_singleton.mp hb), List.mem_cons_self, item, ?_, fun i h st => let ⟨o, ho, _⟩ := st; ⟨o, ho⟩, Keeps.push _ _⟩
    intro i s' tgt v Q E st hQ
    obtain ⟨o, ho, hc, hd⟩ := st
    exact letGo_any ho hc hd (by decide) hQ
  · refine wpAny_pyIter_ascii ha ⟨s.heap.objs.size, [s.heap.objs.size], _, _, _, rfl, hsz, Walks.strAscii hh _ ⟨xs.toArray⟩ t, ⟨_, Heap.get?_push_size _ rfl, rfl, rfl⟩, fresh_none _, fun b hb => .inl (List.mem_singleton.mp hb), List.mem_cons_self, item, ?_, fun i h st => let ⟨o, ho, _⟩ := st; ⟨o, ho⟩, Keeps.push _ _⟩
    intro i s' tgt v Q E st hQ
    obtain ⟨o, ho, hc, hd⟩ := st
    exact letGo_any ho hc hd (by decide) hQ
theorem iter_rng {v : Value} {lo : Int} {n : Nat} {st : Int} (r : Rep (frz s.heap W) (.rng lo n st) v) (hh : A.handled = none) : wpAny (model prog w) A (pyIter v) (fun it s₂ => Itr prog w A W μ s s₂ (intsFrom lo n st) it) E s := by
  obtain ⟨q, b, t, u, x, rfl, hg, h1, h2⟩ := rep_rng.mp r
  have hsz : n = (intsFrom lo n st).length := by simp [intsFrom]
  refine wpAny_pyIter_range hg.1 h1 ?_
  refine ⟨s.heap.objs.size, [s.heap.objs.size], n, _, _, rfl, hsz, (Walks.range hh s.heap.objs.size lo st n).bound, ?_, fresh_none _, fun b hb => .inl (List.mem_singleton.mp hb), List.mem_cons_self, ?_, ?_, fun i h st => ⟨_, st⟩, Keeps.push _ _⟩
  · show IsRangeIter _ _ _ _ _
    rw [h2]
    simpa using Heap.get?_push_size s.heap (o := { cls := .type "range_iterator", data := .fields #[rawInt lo, rawInt n, rawInt st] }) rfl
  · rintro i u ⟨hi, tk, rfl⟩
    exact ⟨.int (lo + (i : Int) * st), by simp [intsFrom, hi], rep_int.mpr ⟨tk, rfl⟩⟩
  · intro i s' tgt v Q E st hQ
    exact letGo_any st rfl rfl (by decide) hQ

theorem iter_sound {p : PV} {items : List PV} {v : Value} (h : iter μ p = some items) (S : SR W s.heap μ) (r : Rep (frz s.heap W) p v) (hh : A.handled = none) :
    wpAny (model prog w) A (pyIter v) (fun it s₂ => Itr prog w A W μ s s₂ items it) E s := by
  have gen : ∀ q, rs μ p = q → iterV q = some items → wpAny (model prog w) A (pyIter v) (fun it s₂ => Itr prog w A W μ s s₂ items it) E s := by
   intro q e h
   cases q with
   | lst xs => cases Option.some.inj h; exact iter_lst (rs_lst2 S e r) hh
   | tup xs => cases Option.some.inj h; have e2 := rs_tup e; subst e2; exact iter_tup r hh
   | str xs => cases Option.some.inj h; have e2 := rs_str e; subst e2; exact iter_str r hh
   | rng lo n st => cases Option.some.inj h; have e2 := rs_rng e; subst e2; exact iter_rng r hh
   | _ => exact no h
  exact gen _ rfl h
end
end Mine
end

section
open PySem PySem.W PyProof.Rows PySem.SeqAt
namespace Mine

/-- what the law's module holds at the call: the heap then, the two tables of names -/
structure Cx where
  h0 : Heap
  mg : Str → Option Value
  mb : Str → Option Value
  tk0 : Nat

structure CxOk (C : Cx) : Prop where
  g : C.h0.Ns mainGlobals C.mg
  b : C.h0.Ns builtinsNs C.mb
  lim : C.h0.NoLimit
  bi : ∀ x ∈ biNames, C.mg x = none ∧ C.mb x = bootBuiltins x

noncomputable def VarAt (h : Heap) (env : Env) (x : Str) (v : Value) : Prop :=
  (env.kindOf x = some .local ∧ ∃ m, h.Ns env.locals m ∧ m x = some v) ∨
  ((env.kindOf x = some .cell ∨ env.kindOf x = some .free) ∧ ∃ c, env.cells.lookup x = some c ∧ h.IsCell c (some v))

structure ER (C : Cx) (W : Addr → Prop) (env : Env) (s : Shared) (ρ : Rho) (μ : Mu) : Prop where
  kind : env.scope.kind = .function
  gl : env.globals = mainGlobals
  bl : env.builtins = builtinsNs
  base : ∀ b o, C.h0.get? b = some o → s.heap.get? b = some o
  wb : ∀ a, W a → C.h0.get? a = none
  sr : SR W s.heap μ
  vars : ∀ x p, ρ x = some p → ∃ v, VarAt s.heap env x v ∧ Rep (frz s.heap W) p v
  tk : C.tk0 ≤ s.toks
  has : ∀ x, env.kindOf x = some .cell ∨ env.kindOf x = some .free → ∃ c cv, env.cells.lookup x = some c ∧ s.heap.IsCell c cv
  apart : ∀ x y c, env.cells.lookup x = some c → env.cells.lookup y = some c → x = y
  cel : ∀ x c, env.cells.lookup x = some c → ∃ cv, s.heap.IsCell c cv

theorem VarAt.keep {h h' : Heap} {env : Env} {x : Str} {v : Value} (r : VarAt h env x v) (hk : ∀ b o, h.get? b = some o → h'.get? b = some o) : VarAt h' env x v := by
  rcases r with ⟨h1, m, hn, hm⟩ | ⟨h1, c, hc, hi⟩
  · exact .inl ⟨h1, m, hn.keeps hk, hm⟩
  · exact .inr ⟨h1, c, hc, hi.keeps hk⟩

theorem ER.keeps {C : Cx} {W : Addr → Prop} {env : Env} {s s' : Shared} {ρ : Rho} {μ : Mu} (r : ER C W env s ρ μ) (k : Keeps s s') (ht : s.toks ≤ s'.toks) : ER C W env s' ρ μ where
  kind := r.kind
  gl := r.gl
  bl := r.bl
  base := fun b o e => Keeps.k k b o (r.base b o e)
  wb := r.wb
  sr := r.sr.keep (Keeps.k k)
  vars := fun x p h => let ⟨v, h1, h2⟩ := r.vars x p h; ⟨v, h1.keep (Keeps.k k), h2.keep (Keeps.k k)⟩
  tk := Nat.le_trans r.tk ht
  has := fun x h => let ⟨c, cv, h1, h2⟩ := r.has x h; ⟨c, cv, h1, h2.keeps (Keeps.k k)⟩
  apart := r.apart
  cel := fun x c h => let ⟨cv, h2⟩ := r.cel x c h; ⟨cv, h2.keeps (Keeps.k k)⟩

section
variable {prog : Program} {w : World} {A : Around} {E : Value → Shared → Prop} {s : Shared} {W : Addr → Prop} {μ : Mu} {ρ : Rho} {env : Env} {C : Cx}

theorem name_sound {x : Str} {p : PV} {pos : Pos} (r : ER C W env s ρ μ) (h : ρ x = some p) (hx : (x == ("__debug__" : Str) || x == ("__classdict__" : Str)) = false) :
    wpAny (model prog w) A (eval (.Name x pos) env) (Post W s p) E s := by
  obtain ⟨h1, h2⟩ := Bool.or_eq_false_iff.mp hx
  obtain ⟨v, hv, rv⟩ := r.vars x p h
  refine wpAny_Name ?_ h1
  rcases hv with ⟨hk, m, hn, hm⟩ | ⟨hk | hk, c, hc, hi⟩
  · exact wpAny_loadName_local r.kind hk hn hm ⟨Keeps.rfl', rv⟩
  · exact wpAny_loadName_cell r.kind hk hc hi ⟨Keeps.rfl', rv⟩
  · exact wpAny_loadName_free r.kind hk hc hi ⟨Keeps.rfl', rv⟩ h2

/-- where a name is kept -/
noncomputable def slotOf (env : Env) (x : Str) : Addr := match env.kindOf x with
  | some .local => env.locals
  | _ => (env.cells.lookup x).getD env.locals

theorem ns_not_list {h : Heap} {a : Addr} {m : Str → Option Value} {vs : List Value} {n : Nat} (hn : h.Ns a m) (hl : h.get? a = some (lObj vs n)) : False := by
  obtain ⟨o, es, ep, ho, hd, _⟩ := hn
  first | exact clash ho hl | (rw [ho] at hl; cases hl); cases hd
theorem cell_not_list {h : Heap} {a : Addr} {v : Option Value} {vs : List Value} {n : Nat} (hn : h.IsCell a v) (hl : h.get? a = some (lObj vs n)) : False := by
  obtain ⟨o, ho, hd⟩ := hn
  first | exact clash ho hl | (rw [ho] at hl; cases hl); cases hd
theorem cell_not_ns {h : Heap} {a : Addr} {v : Option Value} {m : Str → Option Value} (hn : h.IsCell a v) (hl : h.Ns a m) : False := by
  obtain ⟨o, ho, hd⟩ := hn
  obtain ⟨o', es, ep, ho', hd', _⟩ := hl
  first | exact clash ho ho' | (rw [ho] at ho'; cases ho'); first | exact clash hd hd' | (rw [hd] at hd'; cases hd')

theorem frz_same {h h' : Heap} {W : Addr → Prop} {a : Addr} (hw : W a) (hs : Heap.SameBut a h h') : ∀ b o, frz h W b o → frz h' W b o :=
  fun b o x => ⟨hs.extBut b o (fun e => x.2 (e ▸ hw)) x.1, x.2⟩

theorem store_sound {x : Str} {p : PV} {v : Value} (r : ER C W env s ρ μ) (hns : ∃ m, s.heap.Ns env.locals m) (hk : env.kindOf x = some .local ∨ env.kindOf x = some .cell) (hw : W (slotOf env x)) (rv : Rep (frz s.heap W) p v) :
    wpAny (model prog w) A (storeName env x v) (fun _ s' => (∃ h' tk, s' = { s with heap := h', toks := tk } ∧ Heap.SameBut (slotOf env x) s.heap h' ∧ s.toks ≤ tk) ∧ ER C W env s' (upd ρ x p) μ ∧ (∃ m, s'.heap.Ns env.locals m)) E s := by
  obtain ⟨m0, hns⟩ := hns
  rcases hk with hk | hk
  · have hsl : slotOf env x = env.locals := by simp [slotOf, hk]
    rw [hsl] at hw ⊢
    refine wpAny_storeName_local hk hns (fun h' hn' hs' => ⟨⟨h', _, rfl, hs', Nat.le_succ _⟩, ?_, _, hn'⟩) (by rw [r.kind]; rfl)
    have hf := frz_same hw hs'
    refine ⟨r.kind, r.gl, r.bl, fun b o e => hs'.extBut b o (fun eb => ?_) (r.base b o e), r.wb, ⟨fun a ha => ?_, fun a xs hx => ?_⟩, fun y q hy => ?_, Nat.le_succ_of_le r.tk, fun y hy => ?_, r.apart, fun y c hc => ?_⟩
    · have := r.wb _ hw; rw [← eb, e] at this; cases this
    · by_cases ea : a = env.locals
      · subst ea; obtain ⟨o, _, _, ho, _⟩ := hn'; exact ⟨o, ho⟩
      · obtain ⟨o, ho⟩ := r.sr.wl a ha; exact ⟨o, hs'.extBut a o ea ho⟩
    · obtain ⟨vs, n, h1, h2, h3⟩ := r.sr.ls a xs hx
      exact ⟨vs, n, hs'.extBut _ _ (fun ea => ns_not_list hns (ea ▸ h1)) h1, h2, Reps.mono hf _ _ h3⟩
    · unfold upd at hy
      by_cases eyx : y = x
      · subst eyx
        simp at hy; subst hy
        exact ⟨v, .inl ⟨hk, _, hn', by simp⟩, Rep.mono hf _ _ rv⟩
      · rw [if_neg eyx] at hy
        obtain ⟨u, hu, ru⟩ := r.vars y q hy
        refine ⟨u, ?_, Rep.mono hf _ _ ru⟩
        rcases hu with ⟨k1, m1, hn1, hm1⟩ | ⟨k1, c, hc, hi⟩
        · refine .inl ⟨k1, _, hn', ?_⟩
          rw [if_neg eyx]
          obtain ⟨o, es, ep, ho, hd, _, hf1⟩ := hn1
          obtain ⟨o', es', ep', ho', hd', _, hf2⟩ := hns
          first | exact clash ho ho' | (rw [ho] at ho'; cases ho'); first | exact clash hd hd' | (rw [hd] at hd'; cases hd')
          rw [← hf2 y, hf1 y]; exact hm1
        · exact .inr ⟨k1, c, hc, hi.sameBut hs' fun ec => cell_not_ns hi (ec ▸ hns)⟩
    · obtain ⟨c, cv, h1, h2⟩ := r.has y hy
      exact ⟨c, cv, h1, h2.sameBut hs' fun ec => cell_not_ns h2 (ec ▸ hns)⟩
    · obtain ⟨cv, h2⟩ := r.cel y c hc
      exact ⟨cv, h2.sameBut hs' fun ec => cell_not_ns h2 (ec ▸ hns)⟩
  · obtain ⟨c, cv, hc, hcv⟩ := r.has x (.inl hk)
    have hsl : slotOf env x = c := by simp [slotOf, hk, hc]
    rw [hsl] at hw ⊢
    refine wpAny_storeName_cell r.kind hk hc hcv fun h' hc' hs' => ⟨⟨h', _, rfl, hs', Nat.le_refl _⟩, ?_, m0, hns.sameBut hs' fun e => cell_not_ns hcv (e ▸ hns)⟩
    have hf := frz_same hw hs'
    refine ⟨r.kind, r.gl, r.bl, fun b o e => hs'.extBut b o (fun eb => ?_) (r.base b o e), r.wb, ⟨fun a ha => ?_, fun a xs hx => ?_⟩, fun y q hy => ?_, r.tk, fun y hy => ?_, r.apart, fun y c1 hc1 => ?_⟩
    · have := r.wb _ hw; rw [← eb, e] at this; cases this
    · by_cases ea : a = c
      · subst ea; obtain ⟨o, ho, _⟩ := hc'; exact ⟨o, ho⟩
      · obtain ⟨o, ho⟩ := r.sr.wl a ha; exact ⟨o, hs'.extBut a o ea ho⟩
    · obtain ⟨vs, n, h1, h2, h3⟩ := r.sr.ls a xs hx
      exact ⟨vs, n, hs'.extBut _ _ (fun ea => cell_not_list hcv (ea ▸ h1)) h1, h2, Reps.mono hf _ _ h3⟩
    · unfold upd at hy
      by_cases eyx : y = x
      · subst eyx
        simp at hy; subst hy
        exact ⟨v, .inr ⟨.inl hk, c, hc, hc'⟩, Rep.mono hf _ _ rv⟩
      · rw [if_neg eyx] at hy
        obtain ⟨u, hu, ru⟩ := r.vars y q hy
        refine ⟨u, ?_, Rep.mono hf _ _ ru⟩
        rcases hu with ⟨k1, m1, hn1, hm1⟩ | ⟨k1, c1, hc1, hi⟩
        · exact .inl ⟨k1, m1, hn1.sameBut hs' (fun e => cell_not_ns hcv (e ▸ hn1)), hm1⟩
        · exact .inr ⟨k1, c1, hc1, hi.sameBut hs' fun ec => eyx (r.apart y x c1 hc1 (ec ▸ hc))⟩
    · by_cases eyx : y = x
      · subst eyx; exact ⟨c, _, hc, hc'⟩
      · obtain ⟨c1, cv1, h1, h2⟩ := r.has y hy
        exact ⟨c1, cv1, h1, h2.sameBut hs' fun ec => eyx (r.apart y x c1 h1 (ec ▸ hc))⟩
    · by_cases ec : c1 = c
      · subst ec; exact ⟨_, hc'⟩
      · obtain ⟨cv1, h2⟩ := r.cel y c1 hc1
        exact ⟨cv1, h2.sameBut hs' ec⟩
end
end Mine
end

section
open PySem PySem.W PyProof.Rows PySem.SeqAt
namespace Mine

/-- the state goes on: all is kept but what M tells -/
noncomputable def KB (M : Addr → Prop) (s s' : Shared) : Prop :=
  (∃ h' tk, s' = { s with heap := h', toks := tk }) ∧ (∀ b o, ¬ M b → s.heap.get? b = some o → s'.heap.get? b = some o) ∧ s.toks ≤ s'.toks

theorem KB.rfl' {M : Addr → Prop} {s : Shared} : KB M s s := ⟨⟨_, _, rfl⟩, fun _ _ _ e => e, Nat.le_refl _⟩
theorem KB.tr {M : Addr → Prop} {a b c : Shared} (x : KB M a b) (y : KB M b c) : KB M a c := by
  obtain ⟨⟨h1, t1, rfl⟩, k1, l1⟩ := x
  obtain ⟨⟨h2, t2, rfl⟩, k2, l2⟩ := y
  exact ⟨⟨h2, t2, rfl⟩, fun b o hb e => k2 b o hb (k1 b o hb e), Nat.le_trans l1 l2⟩
theorem KB.of_keeps {M : Addr → Prop} {s s' : Shared} (k : Keeps s s') (ht : s.toks ≤ s'.toks) : KB M s s' := by
  obtain ⟨h1, t1, rfl, k1⟩ := k
  exact ⟨⟨h1, t1, rfl⟩, fun b o _ e => k1 b o e, ht⟩
theorem KB.mono {M M' : Addr → Prop} {s s' : Shared} (x : KB M s s') (h : ∀ b, M b → M' b) : KB M' s s' :=
  ⟨x.1, fun b o hb e => x.2.1 b o (fun hm => hb (h b hm)) e, x.2.2⟩
/-- what M tells is not in the first state: then all is kept -/
theorem KB.keeps {M : Addr → Prop} {s s' : Shared} (x : KB M s s') (h : ∀ b, M b → s.heap.get? b = none) : Keeps s s' := by
  obtain ⟨⟨h1, t1, rfl⟩, k1, _⟩ := x
  exact ⟨h1, t1, rfl, fun b o e => k1 b o (fun hm => by rw [h b hm] at e; cases e) e⟩

structure Room (lv : Nat) (A : Around) : Prop where
  hd : A.handled = none
  dp : A.depth + lv + 1 ≤ 900
  un : A.units + 4 * lv + 100 ≤ 9000
theorem Room.hu {lv : Nat} {A : Around} (r : Room lv A) : A.units + 10 < cLine := by have := r.un; show _ < 9900; lia

section
variable {prog : Program} {w : World} {A : Around} {E : Value → Shared → Prop} {s : Shared} {W M : Addr → Prop} {μ : Mu} {ρ ρ' : Rho} {env : Env} {C : Cx}

theorem store_KB {x : Str} {p : PV} {v : Value} (r : ER C W env s ρ μ) (hns : ∃ m, s.heap.Ns env.locals m) (hk : env.kindOf x = some .local ∨ env.kindOf x = some .cell) (hw : W (slotOf env x)) (hm : M (slotOf env x)) (rv : Rep (frz s.heap W) p v) :
    wpAny (model prog w) A (storeName env x v) (fun _ s' => KB M s s' ∧ ER C W env s' (upd ρ x p) μ ∧ (∃ m, s'.heap.Ns env.locals m)) E s :=
  wpAny_mono (store_sound r hns hk hw rv) (fun _ s' h => by
    obtain ⟨⟨h', tk, rfl, hs, ht⟩, h2⟩ := h
    exact ⟨⟨⟨h', tk, rfl⟩, fun b o hb e => hs.extBut b o (fun eb => hb (eb ▸ hm)) e, ht⟩, h2⟩) fun _ _ e => e

theorem assignNames_sound : ∀ (es : List Expr) (xs : List Str) (ps : List PV) (vs : List Value) (ρ ρ' : Rho) (s : Shared), namesOf es = some xs →
    updMany ρ xs ps = some ρ' → ER C W env s ρ μ → (∃ m, s.heap.Ns env.locals m) → (∀ x ∈ xs, (env.kindOf x = some .local ∨ env.kindOf x = some .cell) ∧ W (slotOf env x) ∧ M (slotOf env x)) → Reps (frz s.heap W) ps vs → (∀ b, M b → W b) →
    wpAny (model prog w) A (assignInOrder ((assignEach es env).map (·.2)) vs) (fun _ s' => KB M s s' ∧ ER C W env s' ρ' μ ∧ (∃ m, s'.heap.Ns env.locals m)) E s
  | [], xs, ps, vs, ρ, ρ', s, hx, hu, r, hns, _, rp, _ => by
    simp [namesOf] at hx; subst hx
    cases ps with
    | nil =>
      rw [Reps] at rp; subst rp
      simp [updMany] at hu; subst hu
      exact wpAny_pure ⟨KB.rfl', r, hns⟩
    | cons p ps => simp [updMany] at hu
  | e :: es, xs, ps, vs, ρ, ρ', s, hx, hu, r, hns, hok, rp, hMW => by
    cases e with
    | Name x pos =>
      cases hys : namesOf es with
      | none => simp [namesOf, nameOf1, hys] at hx
      | some ys =>
      simp [namesOf, nameOf1, hys] at hx
      subst hx
      cases ps with
      | nil => simp [updMany] at hu
      | cons p ps =>
        rw [Reps] at rp
        obtain ⟨v, vs', rfl, rv, rr⟩ := rp
        simp only [updMany] at hu
        obtain ⟨k1, k2, k3⟩ := hok x List.mem_cons_self
        show wpAny _ _ (holding vs' (assign (.Name x pos) env v) >>= fun _ => assignInOrder ((assignEach es env).map (·.2)) vs') _ _ _
        refine wpAny_bind (wpAny_holding (wpAny_assign_Name (wpAny_mono (store_KB r hns k1 k2 k3 rv) (fun _ s₁ h₁ => ?_) fun _ _ e => e)))
        obtain ⟨kb, r1, n1⟩ := h₁
        have rr' : Reps (frz s₁.heap W) ps vs' := Reps.mono (fun b o x => ⟨kb.2.1 b o (fun hm => x.2 (hMW b hm)) x.1, x.2⟩) _ _ rr
        refine wpAny_mono (assignNames_sound es ys ps vs' _ ρ' s₁ hys hu r1 n1 (fun y hy => hok y (List.mem_cons_of_mem _ hy)) rr' hMW) (fun _ s₂ h₂ => ⟨kb.tr h₂.1, h₂.2⟩) fun _ _ e => e
    | _ => simp [namesOf, nameOf1] at hx

theorem names_star (env : Env) : ∀ (es : List Expr) (xs : List Str), namesOf es = some xs → (assignEach es env).findIdx? (·.1) = none ∧ (assignEach es env).length = xs.length
  | [], xs, h => by simp [namesOf] at h; subst h; exact ⟨rfl, rfl⟩
  | e :: es, xs, h => by
    cases e with
    | Name x pos =>
      cases hys : namesOf es with
      | none => simp [namesOf, nameOf1, hys] at h
      | some ys =>
      simp [namesOf, nameOf1, hys] at h
      subst h
      obtain ⟨h1, h2⟩ := names_star env es ys hys
      refine ⟨?_, ?_⟩
      · show List.findIdx? _ ((false, assign (.Name x pos) env) :: assignEach es env) = none
        rw [List.findIdx?_cons]; simp [h1]
      · show ((false, assign (.Name x pos) env) :: assignEach es env).length = _
        simp [h2]
    | _ => simp [namesOf, nameOf1] at h

theorem updMany_len : ∀ (ρ ρ' : Rho) (xs : List Str) (ps : List PV), updMany ρ xs ps = some ρ' → xs.length = ps.length
  | ρ, ρ', [], [], _ => rfl
  | ρ, ρ', x :: xs, p :: ps, h => by simp only [updMany] at h; simp [updMany_len _ _ _ _ h]
  | ρ, ρ', [], _ :: _, h => by simp [updMany] at h
  | ρ, ρ', _ :: _, [], h => by simp [updMany] at h

theorem assign_sound {tgt : Expr} {q : PV} {v : Value} (hh : A.handled = none) (hb : bindT ρ (trTgt tgt) q = some ρ') (r : ER C W env s ρ μ) (hns : ∃ m, s.heap.Ns env.locals m)
    (hok : ∀ x ∈ tgtNames (trTgt tgt), (env.kindOf x = some .local ∨ env.kindOf x = some .cell) ∧ W (slotOf env x) ∧ M (slotOf env x)) (hMW : ∀ b, M b → W b) (rv : Rep (frz s.heap W) q v) :
    wpAny (model prog w) A (assign tgt env v) (fun _ s' => KB M s s' ∧ ER C W env s' ρ' μ ∧ (∃ m, s'.heap.Ns env.locals m)) E s := by
  cases tgt with
  | Name x pos =>
    simp only [trTgt, bindT] at hb
    cases hb
    obtain ⟨k1, k2, k3⟩ := hok x (by simp [trTgt, tgtNames])
    exact wpAny_assign_Name (store_KB r hns k1 k2 k3 rv)
  | Tuple es k pos =>
    cases hm : namesOf es with
    | none => simp [trTgt, hm, bindT] at hb
    | some xs =>
      simp only [trTgt, hm] at hb hok
      cases q with
      | tup ps =>
        simp only [bindT] at hb
        obtain ⟨a, vs, n, rfl, hg, _, hr⟩ := rep_tup.mp rv
        obtain ⟨st1, st2⟩ := names_star env es xs hm
        refine wpAny_assign_Tuple hh (isTuple_of hg.1) (by rw [st2]; simp [hr.length, updMany_len _ _ _ _ hb]) st1 fun h' he => ?_
        have hk : ∀ b o, s.heap.get? b = some o → h'.get? b = some o := fun b o e => he b o (Nat.ne_of_lt (Heap.lt_size e)) e
        have K : Keeps s { s with heap := h' } := ⟨h', s.toks, rfl, hk⟩
        have r1 := r.keeps K (Nat.le_refl _)
        obtain ⟨m, hn⟩ := hns
        refine wpAny_mono (assignNames_sound es xs ps vs ρ ρ' { s with heap := h' } hm hb r1 ⟨m, hn.keeps hk⟩ hok (hr.keep hk) hMW) (fun _ s₂ h₂ => ⟨(KB.of_keeps K (Nat.le_refl _)).tr h₂.1, h₂.2⟩) fun _ _ e => e
      | _ => simp [bindT] at hb
  | _ => simp [trTgt, bindT] at hb
end
end Mine
end

section
open PySem PySem.W PyProof.Rows PySem.SeqAt
namespace Mine

noncomputable abbrev testsOf (ifs : List Expr) (env : Env) : Sem Bool :=
  forIn ifs true fun c r => if r = true then do let ok ← isTrue c env (eval c env); pure (ForInStep.yield ok) else pure (ForInStep.yield r)

noncomputable abbrev turnTree (e : Expr) (d : Nat) (g : Comprehension) (it acc : Value) (env : Env) (STEP : Sem Fin) : Sem Fin :=
  standAt g.iter.pos >>= fun _ => pyNext it >>= fun r => match r with
    | none => pure (.done .next)
    | some v => letOwnedTupleGo g.target it v >>= fun _ => assign g.target env v >>= fun _ => testsOf g.ifs env >>= fun ok =>
        if ok = true then STEP else again (.compLoop e d it acc env)

noncomputable abbrev emitTree (elt : Expr) (acc : Value) (env : Env) (c : Code) : Sem Fin := (eval elt env >>= fun x => call (.builtin "list.append") [acc, x] >>= fun _ => pure ()) >>= fun _ => again c

theorem turn_one (elt t i : Expr) (fs : List Expr) (sc : Scope) (pos : Pos) (it acc : Value) (env : Env) :
    compTurn (.ListComp elt [⟨t, i, fs, 0⟩] sc pos) 0 it acc env = turnTree (.ListComp elt [⟨t, i, fs, 0⟩] sc pos) 0 ⟨t, i, fs, 0⟩ it acc env (emitTree elt acc env (.compLoop (.ListComp elt [⟨t, i, fs, 0⟩] sc pos) 0 it acc env)) := by rfl

noncomputable abbrev innerTree (e : Expr) (i2 : Expr) (acc : Value) (env : Env) (c : Code) : Sem Fin :=
  eval i2 env >>= fun x => standAt i2.pos >>= fun _ => foldedSetIterable i2 env x >>= fun x => holding [x] (pyIter x) >>= fun it2 => runOwn (.compStart e 1 it2 acc env) env >>= fun _ => again c

theorem turn_two0 (elt t i t2 i2 : Expr) (fs fs2 : List Expr) (sc : Scope) (pos : Pos) (it acc : Value) (env : Env) :
    compTurn (.ListComp elt [⟨t, i, fs, 0⟩, ⟨t2, i2, fs2, 0⟩] sc pos) 0 it acc env =
      turnTree (.ListComp elt [⟨t, i, fs, 0⟩, ⟨t2, i2, fs2, 0⟩] sc pos) 0 ⟨t, i, fs, 0⟩ it acc env (innerTree (.ListComp elt [⟨t, i, fs, 0⟩, ⟨t2, i2, fs2, 0⟩] sc pos) i2 acc env (.compLoop (.ListComp elt [⟨t, i, fs, 0⟩, ⟨t2, i2, fs2, 0⟩] sc pos) 0 it acc env)) := by rfl
theorem turn_two1 (elt t i t2 i2 : Expr) (fs fs2 : List Expr) (sc : Scope) (pos : Pos) (it acc : Value) (env : Env) :
    compTurn (.ListComp elt [⟨t, i, fs, 0⟩, ⟨t2, i2, fs2, 0⟩] sc pos) 1 it acc env =
      turnTree (.ListComp elt [⟨t, i, fs, 0⟩, ⟨t2, i2, fs2, 0⟩] sc pos) 1 ⟨t2, i2, fs2, 0⟩ it acc env (emitTree elt acc env (.compLoop (.ListComp elt [⟨t, i, fs, 0⟩, ⟨t2, i2, fs2, 0⟩] sc pos) 1 it acc env)) := by rfl

section
variable {prog : Program} {w : World} {A : Around} {E : Value → Shared → Prop} {R : Result → Shared → Prop} {s : Shared}

theorem compLoop_any {elt : Expr} {gens : List Comprehension} {sc : Scope} {pos : Pos} {d : Nat} {g : Comprehension} {it acc : Value} {env : Env} {STEP : Sem Fin}
    (heq : compTurn (.ListComp elt gens sc pos) d it acc env = turnTree (.ListComp elt gens sc pos) d g it acc env STEP) (I : Nat → Shared → Prop)
    (turn : ∀ n s E', I n s → wpAny (model prog w) A (pyNext it) (fun r s₁ => match r with
      | none => R (.ok .next) s₁
      | some v => wpAny (model prog w) A (letOwnedTupleGo g.target it v) (fun _ s₁' => wpAny (model prog w) A (assign g.target env v) (fun _ s₂ =>
          wpAny (model prog w) A (testsOf g.ifs env) (fun ok s₃ =>
            if ok = true then wpAny (model prog w) A STEP (fun fin s₅ => fin = .again (.compLoop (.ListComp elt gens sc pos) d it acc env) ∧ ∃ m, m < n ∧ I m s₅) E' s₃
            else ∃ m, m < n ∧ I m s₃) E' s₂) E' s₁') E' s₁) E' s)
    (n : Nat) (h : I n s) :
    codeAny (model prog w) A (.compLoop (.ListComp elt gens sc pos) d it acc env) R s := by
  refine codeAny_loop rfl I (fun n s hI => ?_) n h
  show wpAny _ A ((compTurn (.ListComp elt gens sc pos) d it acc env).onRaise (fun x => do noteFrame x env; theTreesLotGoes x)) _ _ s
  refine wpAny_noted ?_
  rw [heq]
  refine wpAny_bind (wpAny_standAt (wpAny_bind (wpAny_mono (turn n s _ hI) (fun r s₁ h₁ => ?_) fun _ _ h' => h')))
  cases r with
  | none => exact wpAny_pure h₁
  | some v =>
    refine wpAny_bind (wpAny_mono h₁ (fun _ s₁' h₁' => ?_) fun _ _ h' => h')
    refine wpAny_bind (wpAny_mono h₁' (fun _ s₂ h₂ => wpAny_bind (wpAny_mono h₂ (fun ok s₃ h₃ => ?_) fun _ _ h' => h')) fun _ _ h' => h')
    cases ok with
    | false => exact wpAny_pure ⟨rfl, h₃⟩
    | true => exact wpAny_mono h₃ (fun fin s₅ h₅ => by obtain ⟨rfl, h₅⟩ := h₅; exact ⟨rfl, h₅⟩) fun _ _ h' => h'

theorem compStart_any {elt : Expr} {gens : List Comprehension} {sc : Scope} {pos : Pos} {d : Nat} {g : Comprehension} {it acc : Value} {env : Env} (hg : gens[d]? = some g) (ha : g.is_async = 0)
    (h0 : codeAny (model prog w) A (.compLoop (.ListComp elt gens sc pos) d it acc env) R s)
    (h : ∀ E', wpAny (model prog w) A (pyIter it) (fun it' s' => it' = it ∧ s' = s) E' s) :
    codeAny (model prog w) A (.compStart (.ListComp elt gens sc pos) d it acc env) R s := by
  refine codeAny_of_tree ?_
  show wpAny _ _ ((compStart (.ListComp elt gens sc pos) d it acc env).onRaise (fun x => do noteFrame x env; standAt theWindowsPlace)) _ _ s
  refine wpAny_notedAt ?_
  unfold compStart
  rw [show clausesOf (.ListComp elt gens sc pos) = gens from rfl]
  simp only [hg, ha, Option.elim_some, bne_self_eq_false, Bool.false_eq_true, if_false]
  refine wpAny_bind (wpAny_askSetting (wpAny_ite ?_))
  split
  · exact wpAny_pure (And.intro rfl h0)
  · refine wpAny_bind (wpAny_rule ?_)
    refine wpAny_bind (wpAny_standAt (wpAny_bind (wpAny_mono (h _) (fun it' s' h' => ?_) fun _ _ x => x)))
    obtain ⟨rfl, rfl⟩ := h'
    exact wpAny_pure (And.intro rfl h0)
end
end Mine
end

section
open PySem PySem.W PyProof.Rows PySem.SeqAt
namespace Mine

structure CI (C : Cx) (W : Addr → Prop) (cenv : Env) (D : Addr) (ρ : Rho) (μ : Mu) (acc : List PV) (s : Shared) : Prop where
  er : ER C W cenv s ρ μ
  ns : ∃ m, s.heap.Ns cenv.locals m
  d : ∃ vs n, s.heap.get? D = some (lObj vs n) ∧ Reps (frz s.heap W) acc vs

theorem ER.weaken {C : Cx} {W : Addr → Prop} {env : Env} {s : Shared} {ρ ρ' : Rho} {μ : Mu} (r : ER C W env s ρ' μ) (h : ∀ x p, ρ x = some p → ρ' x = some p) : ER C W env s ρ μ :=
  { r with vars := fun x p hx => r.vars x p (h x p hx) }

/-- fewer addresses may be written -/
theorem ER.shrink {C : Cx} {W W' : Addr → Prop} {env : Env} {s : Shared} {ρ : Rho} {μ : Mu} (r : ER C W' env s ρ μ) (h : ∀ a, W a → W' a) : ER C W env s ρ μ where
  kind := r.kind
  gl := r.gl
  bl := r.bl
  base := r.base
  wb := fun a ha => r.wb a (h a ha)
  sr := ⟨fun a ha => r.sr.wl a (h a ha), fun a xs hx => let ⟨vs, n, h1, h2, h3⟩ := r.sr.ls a xs hx; ⟨vs, n, h1, h2, Reps.mono (fun b o x => ⟨x.1, fun hw => x.2 (h b hw)⟩) _ _ h3⟩⟩
  vars := fun x p hx => let ⟨v, h1, h2⟩ := r.vars x p hx; ⟨v, h1, Rep.mono (fun b o x => ⟨x.1, fun hw => x.2 (h b hw)⟩) _ _ h2⟩
  tk := r.tk
  has := r.has
  apart := r.apart
  cel := r.cel

/-- what is new may be written -/
theorem ER.extend {C : Cx} {W W' : Addr → Prop} {env : Env} {s s' : Shared} {ρ : Rho} {μ : Mu} (r : ER C W env s ρ μ) (k : Keeps s s') (ht : s.toks ≤ s'.toks)
    (h : ∀ a, W' a → W a ∨ (s.heap.get? a = none ∧ ∃ o, s'.heap.get? a = some o)) : ER C W' env s' ρ μ := by
  have hf : ∀ a o, frz s.heap W a o → frz s'.heap W' a o := fun a o x => ⟨Keeps.k k a o x.1, fun hw => by
    rcases h a hw with h1 | ⟨h1, _⟩
    · exact x.2 h1
    · first | exact clash x.1 h1 | (rw [x.1] at h1; cases h1)⟩
  have r' := r.keeps k ht
  refine ⟨r.kind, r.gl, r.bl, r'.base, fun a ha => ?_, ⟨fun a ha => ?_, fun a xs hx => ?_⟩, fun x p hx => ?_, r'.tk, r'.has, r.apart, r'.cel⟩
  · rcases h a ha with h1 | ⟨h1, _⟩
    · exact r.wb a h1
    · cases e : C.h0.get? a with
      | none => rfl
      | some o => rw [r.base a o e] at h1; cases h1
  · rcases h a ha with h1 | ⟨_, h1⟩
    · obtain ⟨o, ho⟩ := r.sr.wl a h1; exact ⟨o, Keeps.k k a o ho⟩
    · exact h1
  · obtain ⟨vs, n, h1, h2, h3⟩ := r.sr.ls a xs hx
    exact ⟨vs, n, Keeps.k k _ _ h1, h2, Reps.mono hf _ _ h3⟩
  · obtain ⟨v, h1, h2⟩ := r.vars x p hx
    exact ⟨v, h1.keep (Keeps.k k), Rep.mono hf _ _ h2⟩

inductive Run {α β : Type} (R : α → List β → Prop) : List α → List β → Prop
  | nil : Run R [] []
  | cons {q qs a r} : R q a → Run R qs r → Run R (q :: qs) (a ++ r)

theorem compRun_run {f : PV → Option (List PV)} {R : PV → List PV → Prop} (hf : ∀ q a, f q = some a → R q a) : ∀ {qs ys : List PV}, compRun f qs = some ys → Run R qs ys
  | [], ys, h => by simp [compRun] at h; subst h; exact .nil
  | q :: qs, ys, h => by
    rw [compRun] at h
    split at h
    · rename_i a r e1 e2
      cases h
      exact .cons (hf q a e1) (compRun_run hf e2)
    · cases h

section
variable {prog : Program} {w : World} {A : Around} {E : Value → Shared → Prop} {R₀ : Result → Shared → Prop} {s : Shared} {W M : Addr → Prop} {μ : Mu} {ρ : Rho} {cenv : Env} {C : Cx}

/-- one turn of a comprehension's loop puts a behind acc -/
noncomputable def TurnOk (prog : Program) (w : World) (A : Around) (C : Cx) (W M : Addr → Prop) (cenv : Env) (D : Addr) (ρ : Rho) (μ : Mu) (g : Comprehension) (STEP : Sem Fin) (c : Code) (q : PV) (a : List PV) : Prop :=
  ∀ (s : Shared) (v : Value) (acc : List PV) (E' : Value → Shared → Prop), CI C W cenv D ρ μ acc s → Rep (frz s.heap W) q v → acc.length + a.length ≤ SZ →
    wpAny (model prog w) A (assign g.target cenv v) (fun _ s₂ => wpAny (model prog w) A (testsOf g.ifs cenv) (fun ok s₃ =>
      if ok = true then wpAny (model prog w) A STEP (fun fin s₅ => fin = .again c ∧ CI C W cenv D ρ μ (acc ++ a) s₅ ∧ KB M s s₅) E' s₃
      else CI C W cenv D ρ μ (acc ++ a) s₃ ∧ KB M s s₃) E' s₂) E' s


theorem ci_step {W' : Addr → Prop} {D I : Addr} {acc : List PV} {h' : Heap} {tk : Nat} (ci : CI C W cenv D ρ μ acc s) (hk : ∀ b o, b ≠ I → s.heap.get? b = some o → h'.get? b = some o) (htk : s.toks ≤ tk)
    (hWI : W I) (hDI : D ≠ I) (hLI : cenv.locals ≠ I) (hcell : ∀ x c, cenv.cells.lookup x = some c → c ≠ I) (hμI : μ I = none)
    (hW' : ∀ a, W' a → W a ∧ (a = I → ∃ o, h'.get? I = some o)) : CI C W' cenv D ρ μ acc { s with heap := h', toks := tk } := by
  have hf : ∀ a o, frz s.heap W a o → frz h' W' a o := fun a o x => ⟨hk a o (fun e => x.2 (e ▸ hWI)) x.1, fun hw => x.2 (hW' a hw).1⟩
  obtain ⟨er, ⟨m, hm⟩, vs, k, hd, hr⟩ := ci
  have hns' : h'.Ns cenv.locals m := hm.at' fun o e => hk _ o hLI e
  refine ⟨⟨er.kind, er.gl, er.bl, fun b o e => hk b o (fun eb => ?_) (er.base b o e), fun a ha => er.wb a (hW' a ha).1, ⟨fun a ha => ?_, fun a xs hx => ?_⟩, fun x p hx => ?_, Nat.le_trans er.tk htk, fun x hx => ?_, er.apart, fun x c hc => ?_⟩, ⟨m, hns'⟩, vs, k, hk _ _ hDI hd, Reps.mono hf _ _ hr⟩
  · have := er.wb I hWI; rw [← eb, e] at this; cases this
  · by_cases ea : a = I
    · subst ea; exact (hW' a ha).2 rfl
    · obtain ⟨o, ho⟩ := er.sr.wl a (hW' a ha).1; exact ⟨o, hk a o ea ho⟩
  · obtain ⟨us, j, h1, h2, h3⟩ := er.sr.ls a xs hx
    exact ⟨us, j, hk _ _ (fun ea => by rw [ea, hμI] at hx; cases hx) h1, h2, Reps.mono hf _ _ h3⟩
  · obtain ⟨v, h1, h2⟩ := er.vars x p hx
    refine ⟨v, ?_, Rep.mono hf _ _ h2⟩
    rcases h1 with ⟨k1, m1, hn1, hm1⟩ | ⟨k1, c, hc, hi⟩
    · exact .inl ⟨k1, m1, hn1.at' fun o e => hk _ o hLI e, hm1⟩
    · obtain ⟨o, ho, hd'⟩ := hi
      exact .inr ⟨k1, c, hc, o, hk _ _ (hcell x c hc) ho, hd'⟩
  · obtain ⟨c, cv, h1, o, ho, hd'⟩ := er.has x hx
    exact ⟨c, cv, h1, o, hk _ _ (hcell x c h1) ho, hd'⟩
  · obtain ⟨cv, o, ho, hd'⟩ := er.cel x c hc
    exact ⟨cv, o, hk _ _ (hcell x c hc) ho, hd'⟩

theorem level_sound {elt : Expr} {gens : List Comprehension} {sc : Scope} {pos : Pos} {d : Nat} {g : Comprehension} {D I : Addr} {fp : List Addr} {n : Nat} {P : Nat → Value → Prop} {St : Nat → Heap → Prop} {STEP : Sem Fin} {gr : Gr}
    {items ys acc : List PV} {W' : Addr → Prop}
    (heq : compTurn (.ListComp elt gens sc pos) d (.ref I) (.ref D) cenv = turnTree (.ListComp elt gens sc pos) d g (.ref I) (.ref D) cenv STEP)
    (hn : n = items.length) (Wk : Walks prog w A I fp [I] n P St) (hP : ∀ i u, P i u → ∃ q, items[i]? = some q ∧ Rep gr q u)
    (hgo : ∀ (i : Nat) (s' : Shared) (tgt : Expr) (v : Value) (Q : Unit → Shared → Prop) (E : Value → Shared → Prop), St i s'.heap → Q () s' → wpAny (model prog w) A (letOwnedTupleGo tgt (.ref I) v) Q E s')
    (hex : ∀ (i : Nat) (h : Heap), St i h → ∃ o, h.get? I = some o)
    (hWI : W I) (hMW : ∀ b, M b → W b) (hDI : D ≠ I) (hLI : cenv.locals ≠ I) (hfp : ∀ b ∈ fp, ¬ M b) (hcell : ∀ x c, cenv.cells.lookup x = some c → c ≠ I) (hμI : μ I = none)
    (hgr : ∀ a o, gr a o → s.heap.get? a = some o ∧ ¬ W a) (hW' : ∀ a, W' a → W a ∧ a ≠ I)
    (hrun : Run (TurnOk prog w A C W M cenv D ρ μ g STEP (.compLoop (.ListComp elt gens sc pos) d (.ref I) (.ref D) cenv)) items ys)
    (hst : St 0 s.heap) (hci : CI C W cenv D ρ μ acc s) (hsz : acc.length + ys.length ≤ SZ)
    (hR : ∀ s', CI C W' cenv D ρ μ (acc ++ ys) s' → KB (fun b => M b ∨ b = I) s s' → R₀ (.ok .next) s') :
    codeAny (model prog w) A (.compLoop (.ListComp elt gens sc pos) d (.ref I) (.ref D) cenv) R₀ s := by
  refine compLoop_any heq
    (fun k s' => ∃ done rest ys1 ys2, items = done ++ rest ∧ k = rest.length + 1 ∧ ys = ys1 ++ ys2 ∧ Run (TurnOk prog w A C W M cenv D ρ μ g STEP (.compLoop (.ListComp elt gens sc pos) d (.ref I) (.ref D) cenv)) rest ys2 ∧
      CI C W cenv D ρ μ (acc ++ ys1) s' ∧ St done.length s'.heap ∧ KB (fun b => M b ∨ b = I) s s')
    (fun k s' E' hI => ?_) (items.length + 1) ⟨[], items, [], ys, rfl, rfl, rfl, hrun, by simpa using hci, hst, KB.rfl'⟩
  obtain ⟨done, rest, ys1, ys2, rfl, rfl, rfl, hrun', ci, hst', kb⟩ := hI
  cases hrun' with
  | nil =>
    refine wpAny_with_toks (n := s'.toks) (Nat.le_refl _) (Wk.done s' _ _ (by rw [hn]; simpa using hst') fun h' tk hk htk => ?_)
    have hk' : ∀ b o, b ≠ I → s'.heap.get? b = some o → h'.get? b = some o := fun b o hb e => hk b o (by simpa using hb) e
    have ci' : CI C W' cenv D ρ μ (acc ++ ys1) { s' with heap := h', toks := tk } := ci_step ci hk' htk hWI hDI hLI hcell hμI fun a ha => ⟨(hW' a ha).1, fun e => absurd e (hW' a ha).2⟩
    exact hR _ (by simpa using ci') (kb.tr ⟨⟨h', tk, rfl⟩, fun b o hb e => hk' b o (fun hm => hb (.inr hm)) e, htk⟩)
  | @cons q qs a r hq hrest =>
    have hlt : done.length < n := by rw [hn]; simp
    refine wpAny_with_toks (n := s'.toks) (Nat.le_refl _) (Wk.item done.length s' _ _ hlt hst' fun v h' tk hPv hst₁ hk htk => ?_)
    have hk' : ∀ b o, b ≠ I → s'.heap.get? b = some o → h'.get? b = some o := fun b o hb e => hk b o (by simpa using hb) e
    have ci' : CI C W cenv D ρ μ (acc ++ ys1) { s' with heap := h', toks := tk } := ci_step ci hk' htk hWI hDI hLI hcell hμI fun a ha => ⟨ha, fun _ => hex _ _ hst₁⟩
    have kb1 : KB (fun b => M b ∨ b = I) s { s' with heap := h', toks := tk } := kb.tr ⟨⟨h', tk, rfl⟩, fun b o hb e => hk' b o (fun hm => hb (.inr hm)) e, htk⟩
    obtain ⟨q', hq', rq⟩ := hP _ _ hPv
    have : q' = q := by simpa using hq'.symm
    subst this
    have rq' : Rep (frz h' W) q' v := Rep.mono (fun a o x => ⟨kb1.2.1 a o (fun hm => (hgr a o x).2 (hm.elim (hMW a) fun e => e ▸ hWI)) (hgr a o x).1, (hgr a o x).2⟩) _ _ rq
    refine hgo _ _ _ _ _ _ hst₁ ?_
    have hsz' : (acc ++ ys1).length + a.length ≤ SZ := by simp at hsz ⊢; lia
    have fin : ∀ s₅ : Shared, CI C W cenv D ρ μ (acc ++ ys1 ++ a) s₅ → KB M { s' with heap := h', toks := tk } s₅ →
        ∃ m, m < (q' :: qs).length + 1 ∧ ∃ done' rest ys1' ys2', done ++ q' :: qs = done' ++ rest ∧ m = rest.length + 1 ∧ ys1 ++ (a ++ r) = ys1' ++ ys2' ∧
          Run (TurnOk prog w A C W M cenv D ρ μ g STEP (.compLoop (.ListComp elt gens sc pos) d (.ref I) (.ref D) cenv)) rest ys2' ∧ CI C W cenv D ρ μ (acc ++ ys1') s₅ ∧ St done'.length s₅.heap ∧ KB (fun b => M b ∨ b = I) s s₅ := by
      intro s₅ c5 k5
      refine ⟨qs.length + 1, by simp, done ++ [q'], qs, ys1 ++ a, r, by simp, rfl, by simp, hrest, by simpa using c5, ?_, kb1.tr (k5.mono fun b hb => .inl hb)⟩
      have := Wk.frame _ _ s₅.heap hst₁ fun b hb o e => k5.2.1 b o (hfp b hb) e
      simpa using this
    refine wpAny_mono (hq { s' with heap := h', toks := tk } v (acc ++ ys1) _ ci' rq' hsz') (fun _ s₂ h₂ => wpAny_mono h₂ (fun ok s₃ h₃ => ?_) fun _ _ e => e) fun _ _ e => e
    cases ok with
    | true => exact wpAny_mono h₃ (fun f s₅ h₅ => ⟨h₅.1, fin s₅ h₅.2.1 h₅.2.2⟩) fun _ _ e => e
    | false => exact fin s₃ h₃.1 h₃.2
end
end Mine
end

section
open PySem PySem.W PyProof.Rows PySem.SeqAt
namespace Mine

noncomputable def SE (prog : Program) (w : World) (C : Cx) (lv : Nat) (μ : Mu) (Γ : Names) (e : Expr) (ρ : Rho) (p : PV) : Prop :=
  ∀ (A : Around) (E : Value → Shared → Prop) (W : Addr → Prop) (env : Env) (s : Shared), Room lv A → env.scope.names = Γ → ER C W env s ρ μ → wpAny (model prog w) A (eval e env) (Post W s p) E s

noncomputable def ST (prog : Program) (w : World) (C : Cx) (lv : Nat) (μ : Mu) (Γ : Names) (e : Expr) (ρ : Rho) (b : Bool) : Prop :=
  ∀ (A : Around) (E : Value → Shared → Prop) (W : Addr → Prop) (env : Env) (s : Shared), Room lv A → env.scope.names = Γ → ER C W env s ρ μ → wpAny (model prog w) A (isTrue e env (eval e env)) (fun r s' => r = b ∧ Keeps s s') E s

noncomputable def STs (prog : Program) (w : World) (C : Cx) (lv : Nat) (μ : Mu) (Γ : Names) (ifs : List Expr) (ρ : Rho) (b : Bool) : Prop :=
  ∀ (A : Around) (E : Value → Shared → Prop) (W : Addr → Prop) (env : Env) (s : Shared), Room lv A → env.scope.names = Γ → ER C W env s ρ μ → wpAny (model prog w) A (testsOf ifs env) (fun r s' => r = b ∧ Keeps s s') E s

theorem upd_le {ρ : Rho} {x : Str} {p : PV} (h : ρ x = none) : ∀ y q, ρ y = some q → upd ρ x p y = some q := by
  intro y q hy
  unfold upd
  split
  · rename_i e; subst e; first | exact clash h hy | (rw [h] at hy; cases hy)
  · exact hy
theorem updMany_le : ∀ (xs : List Str) (ps : List PV) (ρ ρ' : Rho), updMany ρ xs ps = some ρ' → (∀ x ∈ xs, ρ x = none) → ∀ y q, ρ y = some q → ρ' y = some q
  | [], [], ρ, ρ', h, _, y, q, hy => by simp [updMany] at h; subst h; exact hy
  | x :: xs, p :: ps, ρ, ρ', h, hn, y, q, hy => by
    simp only [updMany] at h
    have key : ∀ (xs : List Str) (ps : List PV) (ρ₁ ρ' : Rho), updMany ρ₁ xs ps = some ρ' → (∀ x ∈ xs, ρ x = none) → ρ₁ y = some q → ρ' y = some q := by
      intro xs
      induction xs with
      | nil => intro ps ρ₁ ρ' h _ hy; cases ps <;> simp [updMany] at h; subst h; exact hy
      | cons z zs ih =>
        intro ps ρ₁ ρ' h hn hy1
        cases ps with
        | nil => simp [updMany] at h
        | cons p ps =>
          simp only [updMany] at h
          refine ih ps _ ρ' h (fun x hx => hn x (List.mem_cons_of_mem _ hx)) ?_
          unfold upd
          rw [if_neg]
          · exact hy1
          · rintro rfl; rw [hn y List.mem_cons_self] at hy; cases hy
    exact key xs ps _ ρ' h (fun x hx => hn x (List.mem_cons_of_mem _ hx)) (upd_le (hn x List.mem_cons_self) y q hy)
  | [], _ :: _, ρ, ρ', h, _, _, _, _ => by simp [updMany] at h
  | _ :: _, [], ρ, ρ', h, _, _, _, _ => by simp [updMany] at h
theorem bindT_le {ρ ρ' : Rho} {t : MTgt} {q : PV} (h : bindT ρ t q = some ρ') (hn : ∀ x ∈ tgtNames t, ρ x = none) : ∀ y p, ρ y = some p → ρ' y = some p := by
  cases t with
  | one x => simp only [bindT] at h; cases h; exact upd_le (hn x (by simp [tgtNames]))
  | many xs =>
    cases q with
    | tup ps => simp only [bindT] at h; exact updMany_le xs ps ρ ρ' h hn
    | _ => simp [bindT] at h
  | bad => simp [bindT] at h

section
variable {prog : Program} {w : World} {A : Around} {E : Value → Shared → Prop} {s : Shared} {W M : Addr → Prop} {μ : Mu} {ρ ρ' : Rho} {cenv env : Env} {C : Cx} {lv : Nat}

theorem er_change {a : Addr} {h' : Heap} {tk : Nat} (er : ER C W env s ρ μ) (hk : ∀ b o, b ≠ a → s.heap.get? b = some o → h'.get? b = some o) (htk : s.toks ≤ tk) (hw : W a) (hl : env.locals ≠ a)
    (hcell : ∀ x c, env.cells.lookup x = some c → c ≠ a) (hμ : μ a = none) (hex : ∃ o, h'.get? a = some o) : ER C W env { s with heap := h', toks := tk } ρ μ := by
  have hf : ∀ b o, frz s.heap W b o → frz h' W b o := fun b o x => ⟨hk b o (fun e => x.2 (e ▸ hw)) x.1, x.2⟩
  refine ⟨er.kind, er.gl, er.bl, fun b o e => hk b o (fun eb => ?_) (er.base b o e), er.wb, ⟨fun b hb => ?_, fun b xs hx => ?_⟩, fun x p hx => ?_, Nat.le_trans er.tk htk, fun x hx => ?_, er.apart, fun x c hc => ?_⟩
  · have := er.wb a hw; rw [← eb, e] at this; cases this
  · by_cases ea : b = a
    · subst ea; exact hex
    · obtain ⟨o, ho⟩ := er.sr.wl b hb; exact ⟨o, hk b o ea ho⟩
  · obtain ⟨us, j, h1, h2, h3⟩ := er.sr.ls b xs hx
    exact ⟨us, j, hk _ _ (fun ea => by rw [ea, hμ] at hx; cases hx) h1, h2, Reps.mono hf _ _ h3⟩
  · obtain ⟨v, h1, h2⟩ := er.vars x p hx
    refine ⟨v, ?_, Rep.mono hf _ _ h2⟩
    rcases h1 with ⟨k1, m1, hn1, hm1⟩ | ⟨k1, c, hc, hi⟩
    · exact .inl ⟨k1, m1, hn1.at' fun o e => hk _ o hl e, hm1⟩
    · obtain ⟨o, ho, hd'⟩ := hi
      exact .inr ⟨k1, c, hc, o, hk _ _ (hcell x c hc) ho, hd'⟩
  · obtain ⟨c, cv, h1, o, ho, hd'⟩ := er.has x hx
    exact ⟨c, cv, h1, o, hk _ _ (hcell x c h1) ho, hd'⟩
  · obtain ⟨cv, o, ho, hd'⟩ := er.cel x c hc
    exact ⟨cv, o, hk _ _ (hcell x c hc) ho, hd'⟩

/-- the names of a target: own names, unbound so far -/
structure TgtOk (env : Env) (W M : Addr → Prop) (ρ : Rho) (t : MTgt) : Prop where
  kind : ∀ x ∈ tgtNames t, env.kindOf x = some .local ∨ env.kindOf x = some .cell
  w : ∀ x ∈ tgtNames t, M (slotOf env x)
  none : ∀ x ∈ tgtNames t, ρ x = none

theorem slot_not_list {D : Addr} {x : Str} {vs : List Value} {n : Nat} (er : ER C W env s ρ μ) (hns : ∃ m, s.heap.Ns env.locals m) (hk : env.kindOf x = some .local ∨ env.kindOf x = some .cell) (hd : s.heap.get? D = some (lObj vs n)) : D ≠ slotOf env x := by
  obtain ⟨m, hm⟩ := hns
  rintro rfl
  rcases hk with hk | hk
  · have hsl : slotOf env x = env.locals := by simp [slotOf, hk]
    rw [hsl] at hd; exact ns_not_list hm hd
  · obtain ⟨c, cv, hc, hcv⟩ := er.has x (.inl hk)
    have hsl : slotOf env x = c := by simp [slotOf, hk, hc]
    rw [hsl] at hd; exact cell_not_list hcv hd

/-- the head of a turn: the item is bound, the accumulator stands -/
theorem turn_head {tgt : Expr} {q : PV} {v : Value} {D : Addr} {acc : List PV} (hr : Room lv A) (hb : bindT ρ (trTgt tgt) q = some ρ') (ht : TgtOk cenv W M ρ (trTgt tgt)) (hMW : ∀ b, M b → W b)
    (ci : CI C W cenv D ρ μ acc s) (rq : Rep (frz s.heap W) q v) :
    wpAny (model prog w) A (assign tgt cenv v) (fun _ s₂ => CI C W cenv D ρ' μ acc s₂ ∧ KB M s s₂) E s := by
  obtain ⟨er, hns, vs, n, hd, hr'⟩ := ci
  refine wpAny_mono (assign_sound (M := fun b => ∃ x ∈ tgtNames (trTgt tgt), b = slotOf cenv x) hr.hd hb er hns (fun x hx => ⟨ht.kind x hx, hMW _ (ht.w x hx), x, hx, rfl⟩) (fun b ⟨x, hx, e⟩ => e ▸ hMW _ (ht.w x hx)) rq) (fun _ s₂ h₂ => ?_) fun _ _ e => e
  obtain ⟨kb, er2, ns2⟩ := h₂
  have hf : ∀ a o, frz s.heap W a o → frz s₂.heap W a o := fun a o x => ⟨kb.2.1 a o (fun ⟨y, hy, e⟩ => x.2 (e ▸ hMW _ (ht.w y hy))) x.1, x.2⟩
  exact ⟨⟨er2, ns2, vs, n, kb.2.1 D _ (fun ⟨y, hy, e⟩ => slot_not_list er hns (ht.kind y hy) hd e) hd, Reps.mono hf _ _ hr'⟩, kb.mono fun b ⟨x, hx, e⟩ => e ▸ ht.w x hx⟩

theorem CI.keeps {D : Addr} {acc : List PV} {s' : Shared} (ci : CI C W cenv D ρ μ acc s) (k : Keeps s s') (ht : s.toks ≤ s'.toks) : CI C W cenv D ρ μ acc s' := by
  obtain ⟨er, ⟨m, hm⟩, vs, n, hd, hr'⟩ := ci
  exact ⟨er.keeps k ht, ⟨m, hm.keeps (Keeps.k k)⟩, vs, n, Keeps.k k _ _ hd, hr'.keep (Keeps.k k)⟩
theorem CI.weaken {D : Addr} {acc : List PV} (ci : CI C W cenv D ρ' μ acc s) (h : ∀ x p, ρ x = some p → ρ' x = some p) : CI C W cenv D ρ μ acc s :=
  ⟨ci.er.weaken h, ci.ns, ci.d⟩

theorem tests_ci {Γ : Names} {ifs : List Expr} {b : Bool} {D : Addr} {acc : List PV} {Q : Bool → Shared → Prop} (hr : Room lv A) (hΓ : cenv.scope.names = Γ) (ht : STs prog w C lv μ Γ ifs ρ b) (ci : CI C W cenv D ρ μ acc s)
    (h : ∀ s₃, CI C W cenv D ρ μ acc s₃ → KB M s s₃ → Q b s₃) : wpAny (model prog w) A (testsOf ifs cenv) Q E s :=
  wpAny_with_toks (n := s.toks) (Nat.le_refl _) (wpAny_mono (ht A _ W cenv s hr hΓ ci.er) (fun ok s₃ h₃ htk => by
    obtain ⟨rfl, k⟩ := h₃
    exact h s₃ (ci.keeps k htk) (KB.of_keeps k htk)) fun _ _ e => e)

theorem turn_emit {Γ : Names} {g : Comprehension} {elt : Expr} {D : Addr} {c : Code} {q : PV} {a : List PV} {b : Bool} (hr : Room lv A) (hΓ : cenv.scope.names = Γ) (hb : bindT ρ (trTgt g.target) q = some ρ') (ht : TgtOk cenv W M ρ (trTgt g.target))
    (hMW : ∀ b, M b → W b) (hMD : M D) (hDL : cenv.locals ≠ D) (hDc : ∀ x c, cenv.cells.lookup x = some c → c ≠ D) (hμD : μ D = none)
    (htests : STs prog w C lv μ Γ g.ifs ρ' b) (helt : b = true → ∃ y, SE prog w C lv μ Γ elt ρ' y ∧ a = [y]) (hnil : b = false → a = []) :
    TurnOk prog w A C W M cenv D ρ μ g (emitTree elt (.ref D) cenv c) c q a := by
  intro s v acc E' ci rq hsz
  refine wpAny_mono (turn_head hr hb ht hMW ci rq) (fun _ s₂ h₂ => ?_) fun _ _ e => e
  obtain ⟨ci2, kb2⟩ := h₂
  refine tests_ci (M := M) hr hΓ htests ci2 fun s₃ ci3 kb3 => ?_
  have le := bindT_le hb ht.none
  cases hbb : b with
  | false =>
    rw [hnil hbb]
    simp only [Bool.false_eq_true, if_false, List.append_nil]
    exact ⟨ci3.weaken le, kb2.tr kb3⟩
  | true =>
    obtain ⟨y, hy, rfl⟩ := helt hbb
    simp only [if_true]
    refine wpAny_bind (wpAny_bind ?_)
    refine wpAny_with_toks (n := s₃.toks) (Nat.le_refl _) (wpAny_mono (hy A _ W cenv s₃ hr hΓ ci3.er) (fun x s₄ h₄ htk4 => ?_) fun _ _ e _ => e)
    obtain ⟨k4, ry⟩ := h₄
    have ci4 := ci3.keeps k4 htk4
    obtain ⟨er4, ⟨m4, hm4⟩, vs, n, hd, hrr⟩ := ci4
    have hl := hrr.length
    refine wpAny_bind (wpAny_list_append_plain (items := vs.toArray) ⟨n, hd⟩ (fun h' hp hs' => ?_) (by simp [SZ_eq] at hsz ⊢; lia))
    refine wpAny_pure (wpAny_pure ⟨rfl, ?_, ?_⟩)
    · have er5 := er_change (a := D) (h' := h') (tk := s₄.toks) er4 (fun b o hb e => hs'.extBut b o hb e) (Nat.le_refl _) (hMW _ hMD) hDL hDc hμD (by obtain ⟨k, e⟩ := hp; exact ⟨_, e⟩)
      obtain ⟨k, hp⟩ := hp
      refine ⟨er5.weaken le, ⟨m4, hm4.sameBut hs' hDL⟩, vs ++ [x], k, by rw [hp]; simp [lObj], ?_⟩
      have hf : ∀ a o, frz s₄.heap W a o → frz h' W a o := fun a o z => ⟨hs'.extBut a o (fun e => z.2 (e ▸ hMW _ hMD)) z.1, z.2⟩
      exact (Reps.mono hf _ _ hrr).append (Reps.cons (Rep.mono hf _ _ ry) Reps.nil)
    · refine kb2.tr (kb3.tr ((KB.of_keeps k4 htk4).tr ⟨⟨h', _, rfl⟩, fun b o hb e => hs'.extBut b o (fun eb => hb (eb ▸ hMD)) e, Nat.le_refl _⟩))
end
end Mine
end

section
open PySem PySem.W PyProof.Rows PySem.SeqAt
namespace Mine

section
variable {prog : Program} {w : World} {A : Around} {E : Value → Shared → Prop} {s : Shared} {W M : Addr → Prop} {μ : Mu} {ρ ρ' : Rho} {cenv env : Env} {C : Cx} {lv : Nat}

theorem CI.extend {D : Addr} {acc : List PV} {s' : Shared} {W' : Addr → Prop} (ci : CI C W cenv D ρ μ acc s) (k : Keeps s s') (ht : s.toks ≤ s'.toks)
    (h : ∀ a, W' a → W a ∨ (s.heap.get? a = none ∧ ∃ o, s'.heap.get? a = some o)) : CI C W' cenv D ρ μ acc s' := by
  obtain ⟨er, ⟨m, hm⟩, vs, n, hd, hr'⟩ := ci
  refine ⟨er.extend k ht h, ⟨m, hm.keeps (Keeps.k k)⟩, vs, n, Keeps.k k _ _ hd, Reps.mono (fun a o x => ⟨Keeps.k k a o x.1, fun hw => ?_⟩) _ _ hr'⟩
  rcases h a hw with h1 | ⟨h1, _⟩
  · exact x.2 h1
  · first | exact clash x.1 h1 | (rw [x.1] at h1; cases h1)

theorem turn_inner {Γ : Names} {elt t i t2 i2 : Expr} {fs fs2 : List Expr} {sc : Scope} {pos : Pos} {D : Addr} {c : Code} {q p2 : PV} {a items2 : List PV} {b : Bool} (hr : Room lv A) (hΓ : cenv.scope.names = Γ)
    (hb : bindT ρ (trTgt t) q = some ρ') (ht : TgtOk cenv W M ρ (trTgt t))
    (hMW : ∀ b, M b → W b) (hMD : M D) (hMμ : ∀ b, M b → μ b = none)
    (htests : STs prog w C lv μ Γ fs ρ' b) (hnil : b = false → a = [])
    (hin : b = true → SE prog w C lv μ Γ i2 ρ' p2 ∧ iter μ p2 = some items2 ∧ (∀ e x, foldedSetIterable i2 e x = pure x) ∧
      ∀ (W2 : Addr → Prop) (c2 : Code), (∀ b, M b → W2 b) → (cenv.locals ≠ D) → (∀ x c, cenv.cells.lookup x = some c → c ≠ D) → Run (TurnOk prog w A C W2 M cenv D ρ' μ ⟨t2, i2, fs2, 0⟩ (emitTree elt (.ref D) cenv c2) c2) items2 a)
    (hDL : cenv.locals ≠ D) (hDc : ∀ x c, cenv.cells.lookup x = some c → c ≠ D) :
    TurnOk prog w A C W M cenv D ρ μ ⟨t, i, fs, 0⟩ (innerTree (.ListComp elt [⟨t, i, fs, 0⟩, ⟨t2, i2, fs2, 0⟩] sc pos) i2 (.ref D) cenv c) c q a := by
  intro s v acc E' ci rq hsz
  refine wpAny_mono (turn_head hr hb ht hMW ci rq) (fun _ s₂ h₂ => ?_) fun _ _ e => e
  obtain ⟨ci2, kb2⟩ := h₂
  refine tests_ci (M := M) hr hΓ htests ci2 fun s₃ ci3 kb3 => ?_
  have le := bindT_le hb ht.none
  cases hbb : b with
  | false =>
    rw [hnil hbb]
    simp only [Bool.false_eq_true, if_false, List.append_nil]
    exact ⟨ci3.weaken le, kb2.tr kb3⟩
  | true =>
    obtain ⟨hse, hit, hfold, hrun⟩ := hin hbb
    simp only [if_true]
    refine wpAny_bind (wpAny_with_toks (n := s₃.toks) (Nat.le_refl _) (wpAny_mono (hse A _ W cenv s₃ hr hΓ ci3.er) (fun x s₄ h₄ htk4 => ?_) fun _ _ e _ => e))
    obtain ⟨k4, rx⟩ := h₄
    have ci4 := ci3.keeps k4 htk4
    refine wpAny_bind (wpAny_standAt (wpAny_bind (wpAny_of_eq (hfold cenv x) (wpAny_bind (wpAny_holding ?_)))))
    refine wpAny_with_toks (n := s₄.toks) (Nat.le_refl _) (wpAny_mono (iter_sound hit ci4.er.sr rx hr.hd) (fun it s₅ h₅ htk5 => ?_) fun _ _ e _ => e)
    obtain ⟨I, fp, n, P, St, rfl, hn, Wk, hst, hI, hfp, hIfp, hP, hgo, hex, k5⟩ := h₅
    have ci5 : CI C (fun b => W b ∨ b = I) cenv D ρ' μ acc s₅ := ci4.extend k5 htk5 fun a ha => by
      rcases ha with ha | rfl
      · exact .inl ha
      · exact .inr ⟨hI, hex _ _ hst⟩
    have neI : ∀ b o, s₄.heap.get? b = some o → b ≠ I := fun b o e eb => by rw [eb, hI] at e; cases e
    obtain ⟨m4, hm4⟩ := ci4.ns
    obtain ⟨vs4, n4, hd4, _⟩ := ci4.d
    have hLI : cenv.locals ≠ I := by obtain ⟨o, _, _, ho, _⟩ := hm4; exact neI _ o ho
    have hDI : D ≠ I := neI _ _ hd4
    refine wpAny_bind (wpAny_runOwn (h := none) ?_)
    have key : codeAny (model prog w) A (.compLoop (.ListComp elt [⟨t, i, fs, 0⟩, ⟨t2, i2, fs2, 0⟩] sc pos) 1 (.ref I) (.ref D) cenv)
        (fun r s' => match r with
          | .ok f => wpAny (model prog w) A (again c) (fun fin s₅ => fin = .again c ∧ CI C W cenv D ρ μ (acc ++ a) s₅ ∧ KB M s s₅) E' s'
          | .error e => cameBackBy (model prog w) A cenv E' e s') s₅ := by
      refine level_sound (M := M) (W' := W) (gr := frz s₄.heap W) (turn_two1 elt t i t2 i2 fs fs2 sc pos (.ref I) (.ref D) cenv) hn Wk hP hgo hex (.inr rfl) (fun b hb => .inl (hMW b hb)) hDI hLI ?_ ?_ ?_ ?_ ?_ (hrun _ _ (fun b hb => .inl (hMW b hb)) hDL hDc) hst ci5 hsz ?_
      · intro b hb hm
        rcases hfp b hb with rfl | ⟨_, h1 | h1⟩
        · have hw := hMW b hm
          obtain ⟨o, ho⟩ := ci4.er.sr.wl b hw
          exact neI b o ho rfl
        · exact h1 (hMW b hm)
        · rw [hMμ b hm] at h1; cases h1
      · intro x cc hc
        obtain ⟨cv, o, ho, _⟩ := ci4.er.cel x cc hc
        exact neI _ o ho
      · cases hm : μ I with
        | none => rfl
        | some xs => obtain ⟨vs, n, h1, _⟩ := ci4.er.sr.ls I xs hm; exact absurd rfl (neI I _ h1)
      · intro a o x
        exact ⟨Keeps.k k5 a o x.1, fun hw => hw.elim x.2 fun e => neI a o x.1 e⟩
      · intro a ha
        obtain ⟨o, ho⟩ := ci4.er.sr.wl a ha
        exact ⟨.inl ha, neI a o ho⟩
      · intro s' ci' kb'
        refine wpAny_pure ⟨rfl, ci'.weaken le, ?_⟩
        have kb4 : KB M s s₄ := kb2.tr (kb3.tr (KB.of_keeps k4 htk4))
        have kbx := (kb4.mono (fun b hb => (.inl hb : M b ∨ b = I))).tr ((KB.of_keeps k5 htk5).tr kb')
        exact ⟨kbx.1, fun b o hb e => kb'.2.1 b o (fun h => h.elim hb (neI b o (kb4.2.1 b o hb e))) (Keeps.k k5 b o (kb4.2.1 b o hb e)), kbx.2.2⟩
    exact compStart_any (g := ⟨t2, i2, fs2, 0⟩) rfl rfl key fun E'' => Wk.self 0 s₅ _ _ hst ⟨rfl, rfl⟩
end
end Mine
end

section
open PySem PySem.W PyProof.Rows PySem.SeqAt
namespace Mine

theorem relab_lookup (Γ : Names) : ∀ (ns : Names) (x : Str), (relab ns Γ).lookup x = (ns.lookup x).map fun k => if k == .free && Γ.lookup x == some .cell then .cell else k
  | [], x => rfl
  | (n, k) :: r, x => by
    have ih := relab_lookup Γ r x
    have e : relab ((n, k) :: r) Γ = (n, if k == .free && Γ.lookup n == some .cell then NameKind.cell else k) :: relab r Γ := by
      simp only [relab, List.map_cons]; split <;> rfl
    rw [e, List.lookup_cons, List.lookup_cons]
    cases hx : x == n with
    | true => have := beq_iff_eq.mp hx; subst this; rfl
    | false => exact ih

theorem relabel_names {sc : Scope} {env : Env} (hk : env.scope.kind = .function) : (relabel sc env).names = relab sc.names env.scope.names := by
  have : (env.scope.kind == ScopeKind.function) = true := by rw [hk]; rfl
  simp only [relabel, relab, this, Bool.and_true]
  rfl

/-- every free name has its cell -/
theorem closure_go (env : Env) : ∀ (ns : Names) (acc : List (Str × Addr)), (∀ x ∈ ns, x.2 = .free → ∃ c, env.cells.lookup x.1 = some c) →
    ∃ cl, (forIn (m := Sem) ns acc fun x r => if (x.2 == .free) = true then (do let a ← cellOf env x.1; pure (ForInStep.yield ((x.1, a) :: r))) else pure (ForInStep.yield r)) = pure cl ∧
      (∀ x, (x, NameKind.free) ∈ ns → cl.lookup x = env.cells.lookup x) ∧ (∀ x, (x, NameKind.free) ∉ ns → cl.lookup x = acc.lookup x)
  | [], acc, _ => ⟨acc, rfl, fun x h => (nomatch h), fun x _ => rfl⟩
  | (n, k) :: r, acc, h => by
    rw [List.forIn_cons]
    cases hk : k == NameKind.free with
    | false =>
      have hne : ∀ x, (x, NameKind.free) ∈ (n, k) :: r → (x, NameKind.free) ∈ r := by
        intro x hx
        rcases List.mem_cons.mp hx with e | hx
        · cases e; cases hk
        · exact hx
      obtain ⟨cl, h1, h2, h3⟩ := closure_go env r acc fun x hx => h x (List.mem_cons_of_mem _ hx)
      refine ⟨cl, ?_, fun x hx => h2 x (hne x hx), fun x hx => h3 x fun hx' => hx (List.mem_cons_of_mem _ hx')⟩
      simpa [hk] using h1
    | true =>
      have hk' : k = .free := by cases k <;> first | rfl | cases hk
      subst hk'
      obtain ⟨c, hc⟩ := h (n, .free) List.mem_cons_self rfl
      obtain ⟨cl, h1, h2, h3⟩ := closure_go env r ((n, c) :: acc) fun x hx => h x (List.mem_cons_of_mem _ hx)
      refine ⟨cl, ?_, fun x hx => ?_, fun x hx => ?_⟩
      · simp only [beq_self_eq_true, if_true, cellOf, hc]; exact h1
      · by_cases hr : (x, NameKind.free) ∈ r
        · exact h2 x hr
        · have e : x = n := by rcases List.mem_cons.mp hx with e | hx
                               · cases e; rfl
                               · exact absurd hx hr
          subst e
          rw [h3 x hr, List.lookup_cons]; simp [hc]
      · rw [h3 x fun hx' => hx (List.mem_cons_of_mem _ hx'), List.lookup_cons]
        have : (x == n) = false := by
          cases e : x == n with
          | false => rfl
          | true => rw [beq_iff_eq.mp e] at hx; exact absurd List.mem_cons_self hx
        rw [this]

theorem closure_sound {sc : Scope} {env : Env} (h : ∀ x ∈ sc.names, x.2 = .free → ∃ c, env.cells.lookup x.1 = some c) :
    ∃ cl, closureFor sc env = pure cl ∧ (∀ x, (x, NameKind.free) ∈ sc.names → cl.lookup x = env.cells.lookup x) ∧ (∀ x, (x, NameKind.free) ∉ sc.names → cl.lookup x = none) := by
  obtain ⟨cl, h1, h2, h3⟩ := closure_go env sc.names [] h
  refine ⟨cl, ?_, h2, h3⟩
  unfold closureFor
  have : (forIn (m := Sem) sc.names ([] : List (Str × Addr)) fun x r => match x with
      | (name, kind) => if (kind == .free) = true then (do let a ← cellOf env name; pure (ForInStep.yield ((name, a) :: r))) else pure (ForInStep.yield r)) = pure cl := h1
  simp only [this]
  rfl

structure CO (h : Heap) (cs : List (Str × Addr)) : Prop where
  cel : ∀ x c, cs.lookup x = some c → ∃ cv, h.IsCell c cv
  apart : ∀ x y c, cs.lookup x = some c → cs.lookup y = some c → x = y

theorem cellsFrom_co : ∀ (ns : Names) (h : Heap) (acc : List (Str × Addr)), CO h acc → CO (pushCells h ns) (cellsFrom h.objs.size ns acc)
  | [], _, _, x => x
  | (n, k) :: r, h, acc, x => by
    unfold pushCells cellsFrom
    split
    · have := cellsFrom_co r (h.push { cls := .type "cell", data := .cell none }) ((n, h.objs.size) :: acc)
        ⟨fun y c hy => by
          rw [List.lookup_cons] at hy
          cases e : y == n with
          | true => first | exact clash e hy | (rw [e] at hy; cases hy); exact ⟨none, _, Heap.get?_push_size _ rfl, rfl⟩
          | false => rw [e] at hy; obtain ⟨cv, hcv⟩ := x.cel y c hy; exact ⟨cv, hcv.keeps fun b o e => Heap.get?_push_of_some _ e⟩,
        fun y z c hy hz => by
          rw [List.lookup_cons] at hy hz
          cases e : y == n with
          | true =>
            first | exact clash e hy | (rw [e] at hy; cases hy)
            cases e2 : z == n with
            | true => rw [beq_iff_eq.mp e, beq_iff_eq.mp e2]
            | false => rw [e2] at hz; obtain ⟨cv, hcv⟩ := x.cel z _ hz; exact absurd hcv.lt (Nat.lt_irrefl _)
          | false =>
            rw [e] at hy
            cases e2 : z == n with
            | true => first | exact clash e2 hz | (rw [e2] at hz; cases hz); obtain ⟨cv, hcv⟩ := x.cel y _ hy; exact absurd hcv.lt (Nat.lt_irrefl _)
            | false => rw [e2] at hz; exact x.apart y z c hy hz⟩
      rwa [Heap.size_push] at this
    · exact cellsFrom_co r h acc x

theorem cellsFrom_new (x : Str) (lo : Nat) : ∀ (ns : Names) (n : Nat) (acc : List (Str × Addr)), lo ≤ n → ((∃ c, acc.lookup x = some c ∧ lo ≤ c) ∨ (x, NameKind.cell) ∈ ns) → ∃ c, (cellsFrom n ns acc).lookup x = some c ∧ lo ≤ c
  | [], n, acc, _, h => h.elim id fun h => (nomatch h)
  | (y, k) :: r, n, acc, hn, h => by
    unfold cellsFrom
    split
    · refine cellsFrom_new x lo r (n + 1) _ (by lia) ?_
      by_cases e : x = y
      · subst e; exact .inl ⟨n, by simp, hn⟩
      · rcases h with ⟨c, hc, hl⟩ | h
        · refine .inl ⟨c, ?_, hl⟩
          rw [List.lookup_cons]
          have : (x == y) = false := by simpa using e
          rw [this]; exact hc
        · rcases List.mem_cons.mp h with h | h
          · cases h; exact absurd rfl e
          · exact .inr h
    · rename_i hk
      refine cellsFrom_new x lo r n acc hn ?_
      rcases h with h | h
      · exact .inl h
      · rcases List.mem_cons.mp h with h | h
        · cases h; exact absurd rfl hk
        · exact .inr h
theorem cellsFrom_old (x : Str) : ∀ (ns : Names) (n : Nat) (acc : List (Str × Addr)), (x, NameKind.cell) ∉ ns → (cellsFrom n ns acc).lookup x = acc.lookup x
  | [], n, acc, _ => rfl
  | (y, k) :: r, n, acc, h => by
    unfold cellsFrom
    have hr : (x, NameKind.cell) ∉ r := fun hr => h (List.mem_cons_of_mem _ hr)
    split
    · rename_i hk
      have hk' : k = .cell := by cases k <;> first | rfl | cases hk
      subst hk'
      rw [cellsFrom_old x r _ _ hr, List.lookup_cons]
      have : (x == y) = false := by
        cases e : x == y with
        | false => rfl
        | true => rw [beq_iff_eq.mp e] at h; exact absurd List.mem_cons_self h
      rw [this]
    · exact cellsFrom_old x r _ _ hr

section
variable {prog : Program} {w : World} {A : Around} {E : Value → Shared → Prop} {s : Shared} {W M : Addr → Prop} {μ : Mu} {ρ ρ' : Rho} {cenv env : Env} {C : Cx} {lv : Nat}

theorem newEnv_sound {sc : Scope} {gl : Addr} {cl : List (Str × Addr)} {qual : Str} {Q : Env → Shared → Prop}
    (h : Q { scope := sc, locals := s.heap.objs.size, globals := gl, cells := cellsFrom (s.heap.objs.size + 1) sc.names cl, qual := qual, func := none, code := env.code, frame := env.frame, builtins := env.builtins }
      { s with heap := pushCells (s.heap.push { cls := .type "dict", data := .dict #[] }) sc.names }) :
    wpAny (model prog w) A (newFunctionEnv sc gl cl [] qual none .none (some env)) Q E s := by
  unfold newFunctionEnv
  simp only [Option.isSome_some, if_true]
  refine wpAny_bind (wpAny_alloc (wpAny_bind (wpAny_layCells _ (fun name kind cells => by cases hkc : kind == NameKind.cell <;> simp [hkc]) _ _ _ _ ?_)))
  rw [List.forIn_nil]
  refine wpAny_bind (wpAny_pure (wpAny_pure ?_))
  rw [show ({ s with heap := s.heap.push { cls := .type "dict", data := .dict #[] } } : Shared).heap.objs.size = s.heap.objs.size + 1 from Heap.size_push ..]
  exact h

structure CompOk (sc : Scope) (Γ : Names) : Prop where
  kind : sc.kind = .function
  uniq : ∀ x ∈ sc.names, sc.names.lookup x.1 = some x.2
  free : ∀ x ∈ sc.names, x.2 = .free → Γ.lookup x.1 = some .cell ∨ Γ.lookup x.1 = some .free

theorem compOk_ok {sc : Scope} {Γ : Names} (h : compOk sc Γ = true) : CompOk sc Γ := by
  unfold compOk at h
  simp only [Bool.and_eq_true, List.all_eq_true, Bool.or_eq_true, bne_iff_ne, beq_iff_eq, ne_eq] at h
  refine ⟨h.1, fun x hx => (h.2 x hx).1, fun x hx hf => ?_⟩
  rcases (h.2 x hx).2 with (h1 | h1) | h1
  · exact absurd hf h1
  · exact .inl h1
  · exact .inr h1

theorem frees_mem {ns : Names} {x : Str} : x ∈ frees ns ↔ (x, NameKind.free) ∈ ns := by
  unfold frees
  rw [List.mem_map]
  constructor
  · rintro ⟨⟨y, k⟩, hm, rfl⟩
    obtain ⟨h1, h2⟩ := List.mem_filter.mp hm
    have : k = .free := by cases k <;> first | rfl | cases h2
    subst this; exact h1
  · intro h
    exact ⟨_, List.mem_filter.mpr ⟨h, rfl⟩, rfl⟩

/-- the comprehension's own environment, all of it new -/
theorem cenv_er {sc : Scope} {Γ : Names} {cl : List (Str × Addr)} {W' : Addr → Prop} {s₄ : Shared} (er : ER C W env s ρ μ) (hΓ : env.scope.names = Γ) (ok : CompOk sc Γ)
    (hcl1 : ∀ x, (x, NameKind.free) ∈ sc.names → cl.lookup x = env.cells.lookup x) (hcl2 : ∀ x, (x, NameKind.free) ∉ sc.names → cl.lookup x = none)
    (hs : s₄ = { s with heap := pushCells (s.heap.push { cls := .type "dict", data := .dict #[] }) sc.names })
    (hce : cenv = { scope := relabel sc env, locals := s.heap.objs.size, globals := env.globals, cells := cellsFrom (s.heap.objs.size + 1) sc.names cl, qual := env.qual, func := none, code := env.code, frame := env.frame, builtins := env.builtins })
    (hW : ∀ a, W' a → W a ∨ (s.heap.get? a = none ∧ ∃ o, s₄.heap.get? a = some o)) :
    ER C W' cenv s₄ (restr (frees sc.names) ρ) μ ∧ (∃ m, s₄.heap.Ns cenv.locals m) ∧ Keeps s s₄ ∧ cenv.scope.names = relab sc.names Γ ∧ cenv.locals = s.heap.objs.size ∧
      (∀ x, ownName sc.names x = true → (cenv.kindOf x = some .local ∨ cenv.kindOf x = some .cell) ∧ s.heap.get? (slotOf cenv x) = none ∧ (∃ o, s₄.heap.get? (slotOf cenv x) = some o) ∧ restr (frees sc.names) ρ x = none) := by
  have hk0 : ∀ b o, s.heap.get? b = some o → s₄.heap.get? b = some o := fun b o e => by rw [hs]; exact pushCells_keeps _ _ _ _ (Heap.get?_push_of_some _ e)
  have K : Keeps s s₄ := ⟨s₄.heap, s.toks, by rw [hs], hk0⟩
  have ht : s.toks ≤ s₄.toks := by rw [hs]; exact Nat.le_refl _
  have ex := er.extend K ht hW
  have hnm : cenv.scope.names = relab sc.names Γ := by rw [hce, ← hΓ]; exact relabel_names er.kind
  have hkd : ∀ x, cenv.kindOf x = (sc.names.lookup x).map fun k => if k == .free && Γ.lookup x == some .cell then .cell else k := fun x => by
    show cenv.scope.names.lookup x = _; rw [hnm]; exact relab_lookup Γ sc.names x
  have hfc : ∀ x, (x, NameKind.free) ∈ sc.names → (x, NameKind.cell) ∉ sc.names := fun x h1 h2 => by
    have := ok.uniq _ h1; rw [ok.uniq _ h2] at this; cases this
  have hcells : cenv.cells = cellsFrom (s.heap.objs.size + 1) sc.names cl := by rw [hce]
  have hloc : cenv.locals = s.heap.objs.size := by rw [hce]
  have ns4 : s₄.heap.Ns s.heap.objs.size fun _ => none := by rw [hs]; exact (Heap.Ns.new s.heap (.type "dict")).keeps (pushCells_keeps _ _)
  have hco : CO s₄.heap cenv.cells := by
    rw [hcells, hs]
    have := cellsFrom_co sc.names (s.heap.push { cls := .type "dict", data := .dict #[] }) cl ⟨fun x c hx => ?_, fun x y c hx hy => ?_⟩
    · rwa [Heap.size_push] at this
    · by_cases hf : (x, NameKind.free) ∈ sc.names
      · rw [hcl1 x hf] at hx; obtain ⟨cv, h1⟩ := er.cel x c hx; exact ⟨cv, h1.keeps fun b o e => Heap.get?_push_of_some _ e⟩
      · rw [hcl2 x hf] at hx; cases hx
    · by_cases hf : (x, NameKind.free) ∈ sc.names
      · by_cases hg : (y, NameKind.free) ∈ sc.names
        · rw [hcl1 x hf] at hx; rw [hcl1 y hg] at hy; exact er.apart x y c hx hy
        · rw [hcl2 y hg] at hy; cases hy
      · rw [hcl2 x hf] at hx; cases hx
  have hfl : ∀ x, (x, NameKind.free) ∈ sc.names → cenv.cells.lookup x = env.cells.lookup x := fun x hf => by
    rw [hcells, cellsFrom_old x _ _ _ (hfc x hf), hcl1 x hf]
  have hfk : ∀ x, (x, NameKind.free) ∈ sc.names → env.kindOf x = some .cell ∨ env.kindOf x = some .free := fun x hf => by
    have := ok.free _ hf rfl; rw [← hΓ] at this; exact this
  have kinds : ∀ x, cenv.kindOf x = some .cell ∨ cenv.kindOf x = some .free → (x, NameKind.free) ∈ sc.names ∨ (x, NameKind.cell) ∈ sc.names := by
    intro x hx
    rw [hkd x] at hx
    cases hl : sc.names.lookup x with
    | none => rw [hl] at hx; simp at hx
    | some k =>
      rw [hl] at hx
      cases k with
      | free => exact .inl (mem_of_lookup hl)
      | cell => exact .inr (mem_of_lookup hl)
      | _ => simp at hx
  refine ⟨⟨by rw [hce]; exact ok.kind, by rw [hce]; exact er.gl, by rw [hce]; exact er.bl, ex.base, ex.wb, ex.sr, fun x p hx => ?_, ex.tk, fun x hx => ?_, hco.apart, hco.cel⟩, ⟨_, by rw [hloc]; exact ns4⟩, K, hnm, hloc, fun x hx => ?_⟩
  · unfold restr at hx
    split at hx
    · rename_i hf
      have hf := frees_mem.mp hf
      obtain ⟨v, h1, h2⟩ := ex.vars x p hx
      refine ⟨v, ?_, h2⟩
      rcases h1 with ⟨k1, _⟩ | ⟨k1, c, hc, hi⟩
      · rcases hfk x hf with h | h <;> rw [h] at k1 <;> cases k1
      · refine .inr ⟨?_, c, by rw [hfl x hf]; exact hc, hi⟩
        rw [hkd x, ok.uniq _ hf]
        simp only [Option.map_some, beq_self_eq_true, Bool.true_and]
        split <;> simp
    · cases hx
  · rcases kinds x hx with hf | hc
    · obtain ⟨c, cv, h1, h2⟩ := ex.has x (hfk x hf)
      exact ⟨c, cv, by rw [hfl x hf]; exact h1, h2⟩
    · obtain ⟨c, h1, _⟩ := cellsFrom_new x 0 sc.names (s.heap.objs.size + 1) cl (Nat.zero_le _) (.inr hc)
      rw [← hcells] at h1
      obtain ⟨cv, h2⟩ := hco.cel x c h1
      exact ⟨c, cv, h1, h2⟩
  · have hr : restr (frees sc.names) ρ x = none := by
      unfold restr
      rw [if_neg]
      intro hf
      have := ok.uniq _ (frees_mem.mp hf)
      unfold ownName at hx
      first | exact clash this hx | (rw [this] at hx; cases hx)
    unfold ownName at hx
    have fresh : ∀ b, s.heap.objs.size ≤ b → s.heap.get? b = none := fun b hb => by
      cases e : s.heap.get? b with
      | none => rfl
      | some o => exact absurd (Heap.lt_size e) (Nat.not_lt.mpr hb)
    rcases Bool.or_eq_true_iff.mp hx with h | h
    · have h := beq_iff_eq.mp h
      have hk : cenv.kindOf x = some .local := by rw [hkd x, h]; rfl
      have hsl : slotOf cenv x = s.heap.objs.size := by rw [← hloc]; simp [slotOf, hk]
      refine ⟨.inl hk, by rw [hsl]; exact fresh _ (Nat.le_refl _), ?_, hr⟩
      rw [hsl]; obtain ⟨o, _, _, ho, _⟩ := ns4; exact ⟨o, ho⟩
    · have h := beq_iff_eq.mp h
      have hk : cenv.kindOf x = some .cell := by rw [hkd x, h]; rfl
      obtain ⟨c, h1, h2⟩ := cellsFrom_new x (s.heap.objs.size + 1) sc.names (s.heap.objs.size + 1) cl (Nat.le_refl _) (.inr (mem_of_lookup h))
      rw [← hcells] at h1
      have hsl : slotOf cenv x = c := by simp [slotOf, hk, h1]
      refine ⟨.inr hk, by rw [hsl]; exact fresh _ (by lia), ?_, hr⟩
      rw [hsl]; obtain ⟨cv, o, ho, _⟩ := hco.cel x c h1; exact ⟨o, ho⟩
end
end Mine
end

section
open PySem PySem.W PyProof.Rows PySem.SeqAt
namespace Mine
section
variable {prog : Program} {w : World} {A : Around} {E : Value → Shared → Prop} {s : Shared} {W : Addr → Prop} {μ : Mu} {ρ ρ' : Rho} {env : Env} {C : Cx} {lv : Nat}

/-- what a comprehension's own environment gives to its turns -/
structure CEnv (sc : Scope) (Γ : Names) (W M : Addr → Prop) (μ : Mu) (ρ : Rho) (cenv : Env) (D : Addr) : Prop where
  names : cenv.scope.names = relab sc.names Γ
  sub : ∀ b, M b → W b
  d : M D
  nomu : ∀ b, M b → μ b = none
  locD : cenv.locals ≠ D
  celD : ∀ x c, cenv.cells.lookup x = some c → c ≠ D
  own : ∀ x, ownName sc.names x = true → (cenv.kindOf x = some .local ∨ cenv.kindOf x = some .cell) ∧ M (slotOf cenv x) ∧ ρ x = none

theorem comp_core {elt : Expr} {g : Comprehension} {gs : List Comprehension} {sc : Scope} {pos fpos : Pos} {Γ : Names} {x0 : PV} {items ys : List PV} {use : Option (Value → Sem Unit)} {Q : Value → Shared → Prop} {STEP : Value → Value → Env → Sem Fin}
    (hr : Room lv A) (hΓ : env.scope.names = Γ) (ok : CompOk sc Γ) (ha : g.is_async = 0) (hfold : ∀ x, foldedSetIterable g.iter env x = pure x)
    (heq : ∀ it acc env, compTurn (.ListComp elt (g :: gs) sc pos) 0 it acc env = turnTree (.ListComp elt (g :: gs) sc pos) 0 g it acc env (STEP it acc env))
    (hit : SE prog w C lv μ Γ g.iter ρ x0) (hi : iter μ x0 = some items) (hsz : ys.length ≤ SZ)
    (hrun : ∀ (W4 M : Addr → Prop) (cenv : Env) (D I : Addr), CEnv sc Γ W4 M μ (restr (frees sc.names) ρ) cenv D →
      Run (TurnOk prog w A C W4 M cenv D (restr (frees sc.names) ρ) μ g (STEP (.ref I) (.ref D) cenv) (.compLoop (.ListComp elt (g :: gs) sc pos) 0 (.ref I) (.ref D) cenv)) items ys)
    (er : ER C W env s ρ μ)
    (hfin : ∀ (s' : Shared) (L D : Addr) (m : Str → Option Value) (vs : List Value) (n : Nat), Keeps s s' → s.toks ≤ s'.toks → s.heap.get? L = none → s.heap.get? D = none → L ≠ D → s'.heap.Ns L m → s'.heap.get? D = some (lObj vs n) → vs.length ≤ SZ →
      Reps (frz s'.heap (fun b => W b ∨ b = L ∨ b = D)) ys vs → compPost (model prog w) A E use Q (.ref D) L (.ok .next) s') :
    wpAny (model prog w) A (comprehension (.ListComp elt (g :: gs) sc pos) sc env fpos (newList []) false (eval g.iter env) use) Q E s := by
  obtain ⟨cl, hcl, hcl1, hcl2⟩ := closure_sound (sc := sc) (env := env) fun x hx hf => by
    obtain ⟨c, cv, h1, _⟩ := er.has x.1 (by have := ok.free x hx hf; rw [← hΓ] at this; exact this)
    exact ⟨c, h1⟩
  refine wpAny_comprehension_free (g := g) (gs := gs) rfl hfold hcl ok.kind (fun x hx hl => by rw [ok.uniq x hx, hl]) ?_
  refine wpAny_with_toks (n := s.toks) (Nat.le_refl _) (wpAny_mono (hit A _ W env s hr hΓ er) (fun x s₁ h₁ htk1 => ?_) fun _ _ e _ => e)
  obtain ⟨k1, rx⟩ := h₁
  have er1 := er.keeps k1 htk1
  refine wpAny_with_toks (n := s₁.toks) (Nat.le_refl _) (wpAny_mono (iter_sound hi er1.sr rx hr.hd) (fun it s₂ h₂ htk2 => ?_) fun _ _ e _ => e)
  obtain ⟨I, fp, n, P, St, rfl, hn, Wk, hst, hI, hfp, hIfp, hP, hgo, hex, k2⟩ := h₂
  refine wpAny_newObj_type ?_
  refine newEnv_sound ?_
  generalize hs3 : ({ s₂ with heap := s₂.heap.push { cls := .type "list", dict := none, data := .seq ([] : List Value).toArray } } : Shared) = s₃
  have hD3 : s₃.heap.get? s₂.heap.objs.size = some (lObj [] 0) := by rw [← hs3]; exact Heap.get?_push_size _ rfl
  have hD2 : s₂.heap.get? s₂.heap.objs.size = none := fresh_none _
  generalize s₂.heap.objs.size = D at hD3 hD2
  have k3 : Keeps s₂ s₃ := by rw [← hs3]; exact Keeps.push _ _
  have htk3 : s₂.toks ≤ s₃.toks := by rw [← hs3]; exact Nat.le_refl _
  have k13 : Keeps s₁ s₃ := Keeps.tr k2 k3
  have hIo2 : ∃ o, s₂.heap.get? I = some o := hex _ _ hst
  have hIo3 : ∃ o, s₃.heap.get? I = some o := let ⟨o, ho⟩ := hIo2; ⟨o, Keeps.k k3 _ _ ho⟩
  have hD1 : s₁.heap.get? D = none := by
    cases e : s₁.heap.get? D with
    | none => rfl
    | some o => rw [Keeps.k k2 _ _ e] at hD2; cases hD2
  have hDI : D ≠ I := by rintro rfl; obtain ⟨o, ho⟩ := hIo2; first | exact clash hD2 ho | (rw [hD2] at ho; cases ho)
  have er3 : ER C (fun b => W b ∨ b = I ∨ b = D) env s₃ ρ μ := er1.extend k13 (Nat.le_trans htk2 htk3) fun a h => by
    rcases h with h | rfl | rfl
    · exact .inl h
    · exact .inr ⟨hI, hIo3⟩
    · exact .inr ⟨hD1, _, hD3⟩
  generalize hs4 : ({ s₃ with heap := pushCells (s₃.heap.push { cls := .type "dict", data := .dict #[] }) sc.names } : Shared) = s₄
  generalize hce : (⟨relabel sc env, s₃.heap.objs.size, env.globals, cellsFrom (s₃.heap.objs.size + 1) sc.names cl, env.qual, none, env.code, env.frame, env.builtins⟩ : Env) = cenv
  obtain ⟨er4, ns4, k4, hnm, hloc, hown⟩ := cenv_er (W' := fun b => (W b ∨ b = I ∨ b = D) ∨ (s₃.heap.get? b = none ∧ ∃ o, s₄.heap.get? b = some o)) er3 hΓ ok hcl1 hcl2 hs4.symm hce.symm (fun a h => h)
  have hMD : ∀ b o, s₁.heap.get? b = some o → ¬ (b = D ∨ (s₃.heap.get? b = none ∧ ∃ o, s₄.heap.get? b = some o)) := by
    rintro b o e (rfl | ⟨h, _⟩)
    · first | exact clash hD1 e | (rw [hD1] at e; cases e)
    · rw [Keeps.k k13 _ _ e] at h; cases h
  have ne3 : ∀ b, s₃.heap.get? b = none → b ≠ I ∧ b ≠ D := by
    refine fun b hb => ⟨?_, ?_⟩
    · rintro rfl; obtain ⟨o, ho⟩ := hIo3; first | exact clash hb ho | (rw [hb] at ho; cases ho)
    · rintro rfl; first | exact clash hD3 hb | (rw [hD3] at hb; cases hb)
  have hL3 : s₃.heap.get? cenv.locals = none := by rw [hloc]; exact fresh_none _
  have hcell : ∀ x c, cenv.cells.lookup x = some c → c ≠ I ∧ c ≠ D := by
    intro x c hc
    obtain ⟨cv, hi'⟩ := er4.cel x c hc
    refine ⟨?_, ?_⟩
    · rintro rfl
      by_cases hm : (x, NameKind.cell) ∈ sc.names
      · obtain ⟨c', h1, h2⟩ := cellsFrom_new x (s₃.heap.objs.size + 1) sc.names (s₃.heap.objs.size + 1) cl (Nat.le_refl _) (.inr hm)
        have hcc : cenv.cells = cellsFrom (s₃.heap.objs.size + 1) sc.names cl := by rw [← hce]
        rw [hcc, h1] at hc; cases hc
        obtain ⟨o, ho⟩ := hIo3
        exact absurd (Heap.lt_size ho) (Nat.not_lt.mpr (Nat.le_of_succ_le h2))
      · have hcc : cenv.cells = cellsFrom (s₃.heap.objs.size + 1) sc.names cl := by rw [← hce]
        rw [hcc, cellsFrom_old x _ _ _ hm] at hc
        by_cases hf : (x, NameKind.free) ∈ sc.names
        · rw [hcl1 x hf] at hc
          obtain ⟨cv1, hcv1⟩ := er1.cel x c hc
          obtain ⟨o, ho, _⟩ := hcv1
          first | exact clash hI ho | (rw [hI] at ho; cases ho)
        · rw [hcl2 x hf] at hc; cases hc
    · rintro rfl
      exact cell_not_list hi' (Keeps.k k4 _ _ hD3)
  have ce : CEnv sc Γ (fun b => (W b ∨ b = I ∨ b = D) ∨ (s₃.heap.get? b = none ∧ ∃ o, s₄.heap.get? b = some o)) (fun b => b = D ∨ (s₃.heap.get? b = none ∧ ∃ o, s₄.heap.get? b = some o)) μ (restr (frees sc.names) ρ) cenv D := by
    refine ⟨hnm, ?_, .inl rfl, ?_, (ne3 _ hL3).2, fun x c hc => (hcell x c hc).2, fun x hx => ?_⟩
    · rintro b (rfl | h)
      · exact .inl (.inr (.inr rfl))
      · exact .inr h
    · intro b hb
      cases e : μ b with
      | none => rfl
      | some xs => obtain ⟨vs, k, h1, _⟩ := er1.sr.ls b xs e; exact absurd hb (hMD b _ h1)
    · obtain ⟨h1, h2, h3, h4⟩ := hown x hx
      exact ⟨h1, .inr ⟨h2, h3⟩, h4⟩
  have hst4 : St 0 s₄.heap := Wk.frame _ _ _ hst fun b _ o e => Keeps.k k4 _ _ (Keeps.k k3 _ _ e)
  have ci4 : CI C (fun b => (W b ∨ b = I ∨ b = D) ∨ (s₃.heap.get? b = none ∧ ∃ o, s₄.heap.get? b = some o)) cenv D (restr (frees sc.names) ρ) μ [] s₄ := ⟨er4, ns4, [], 0, Keeps.k k4 _ _ hD3, Reps.nil⟩
  have hle4 : s₃.toks ≤ s₄.toks := by rw [← hs4]; exact Nat.le_refl _
  refine compStart_any (g := g) rfl ha ?_ fun E' => Wk.self 0 s₄ _ _ hst4 ⟨rfl, rfl⟩
  refine level_sound (W' := fun b => (W b ∨ b = D) ∨ (s₃.heap.get? b = none ∧ ∃ o, s₄.heap.get? b = some o)) (gr := frz s₁.heap W) (heq (.ref I) (.ref D) cenv) hn Wk hP hgo hex (.inl (.inr (.inl rfl))) ce.sub hDI (ne3 _ hL3).1 ?_ (fun x c hc => (hcell x c hc).1) ?_ ?_ ?_ (hrun _ _ cenv D I ce) hst4 ci4 (by simpa using hsz) ?_
  · intro b hb hm
    rcases hfp b hb with rfl | ⟨⟨o, ho⟩, _⟩
    · rcases hm with e | ⟨h, _⟩
      · exact hDI e.symm
      · exact (ne3 _ h).1 rfl
    · exact hMD b o ho hm
  · cases hm : μ I with
    | none => rfl
    | some xs => obtain ⟨vs, n, h1, _⟩ := er1.sr.ls I xs hm; first | exact clash hI h1 | (rw [hI] at h1; cases h1)
  · rintro a o ⟨e, hw⟩
    refine ⟨Keeps.k k4 _ _ (Keeps.k k13 _ _ e), ?_⟩
    rintro ((h | rfl | rfl) | ⟨h, _⟩)
    · exact hw h
    · first | exact clash hI e | (rw [hI] at e; cases e)
    · first | exact clash hD1 e | (rw [hD1] at e; cases e)
    · rw [Keeps.k k13 _ _ e] at h; cases h
  · rintro a ((h | rfl) | h)
    · refine ⟨.inl (.inl h), ?_⟩
      rintro rfl
      obtain ⟨o, ho⟩ := er1.sr.wl a h; first | exact clash hI ho | (rw [hI] at ho; cases ho)
    · exact ⟨.inl (.inr (.inr rfl)), hDI⟩
    · exact ⟨.inr h, (ne3 _ h.1).1⟩
  · intro s' ci' kb'
    obtain ⟨er', ⟨m', ns'⟩, vs, k, hd', hrp⟩ := ci'
    have hne : ∀ b o, s.heap.get? b = some o → ¬ ((b = D ∨ (s₃.heap.get? b = none ∧ ∃ o, s₄.heap.get? b = some o)) ∨ b = I) := by
      rintro b o e (h | rfl)
      · exact hMD b o (Keeps.k k1 _ _ e) h
      · have := Keeps.k k1 _ _ e; first | exact clash hI this | (rw [hI] at this; cases this)
    have K : Keeps s s' := by
      have ks4 : Keeps s s₄ := Keeps.tr k1 (Keeps.tr k13 k4)
      obtain ⟨h4, t4, e4, kk4⟩ := ks4
      obtain ⟨⟨h5, t5, e5⟩, kk5, _⟩ := kb'
      subst e4
      refine ⟨h5, t5, e5, fun b o e => ?_⟩
      have := kk5 b o (hne b o e) (kk4 b o e)
      rw [e5] at this; exact this
    have fr : ∀ b, s₁.heap.get? b = none → s.heap.get? b = none := fun b hb => by
      cases e : s.heap.get? b with
      | none => rfl
      | some o => rw [Keeps.k k1 _ _ e] at hb; cases hb
    have fr3 : ∀ b, s₃.heap.get? b = none → s₁.heap.get? b = none := fun b hb => by
      cases e : s₁.heap.get? b with
      | none => rfl
      | some o => rw [Keeps.k k13 _ _ e] at hb; cases hb
    have hlc : cenv.locals = s₃.heap.objs.size := hloc
    have hL4 : ∃ o, s₄.heap.get? cenv.locals = some o := by obtain ⟨m, o, _, _, ho, _⟩ := ns4; exact ⟨o, ho⟩
    have R := hfin s' cenv.locals D m' vs k K (Nat.le_trans (Nat.le_trans htk1 (Nat.le_trans htk2 (Nat.le_trans htk3 hle4))) kb'.2.2) (fr _ (fr3 _ hL3)) (fr _ hD1) (ne3 _ hL3).2 ns' hd' (by rw [hrp.length]; simpa using hsz) (by
      rw [List.nil_append] at hrp
      refine Reps.mono (fun a o x => ⟨x.1, ?_⟩) _ _ hrp
      rintro (h | rfl | rfl)
      · exact x.2 (.inl (.inl h))
      · exact x.2 (.inr ⟨hL3, hL4⟩)
      · exact x.2 (.inl (.inr rfl)))
    rw [hlc] at R
    exact R
end
end Mine
end

section
open PySem PySem.W PyProof.Rows PySem.SeqAt
namespace Mine

/-- a comprehension seen whole, with what is done with its list -/
noncomputable def CompS (prog : Program) (w : World) (C : Cx) (lv : Nat) (μ : Mu) (Γ : Names) (elt : Expr) (gens : List Comprehension) (sc : Scope) (pos : Pos) (ρ : Rho) (ys : List PV) : Prop :=
  ∀ (A : Around) (E : Value → Shared → Prop) (W : Addr → Prop) (env : Env) (s : Shared) (use : Option (Value → Sem Unit)) (Q : Value → Shared → Prop) (fpos : Pos), Room lv A → env.scope.names = Γ → ER C W env s ρ μ →
    (∀ (s' : Shared) (L D : Addr) (m : Str → Option Value) (vs : List Value) (n : Nat), Keeps s s' → s.toks ≤ s'.toks → s.heap.get? L = none → s.heap.get? D = none → L ≠ D → s'.heap.Ns L m → s'.heap.get? D = some (lObj vs n) → vs.length ≤ SZ →
      Reps (frz s'.heap (fun b => W b ∨ b = L ∨ b = D)) ys vs → compPost (model prog w) A E use Q (.ref D) L (.ok .next) s') →
    wpAny (model prog w) A (comprehension (.ListComp elt gens sc pos) sc env fpos (newList []) (firstAsync gens) (firstIter gens env) use) Q E s

section
variable {prog : Program} {w : World} {A : Around} {E : Value → Shared → Prop} {s : Shared} {W M : Addr → Prop} {μ : Mu} {ρ ρ' : Rho} {env cenv : Env} {C : Cx} {lv : Nat} {T : Str → List PV → Option PV}

theorem CEnv.tgt {sc : Scope} {Γ : Names} {D : Addr} {t : MTgt} (ce : CEnv sc Γ W M μ ρ cenv D) (h : tgtOk sc.names t = true) : TgtOk cenv W M ρ t := by
  have : ∀ x ∈ tgtNames t, ownName sc.names x = true := by
    cases t with
    | one x => intro y hy; simp [tgtNames] at hy; subst hy; exact h
    | many xs => intro y hy; exact List.all_eq_true.mp h y hy
    | bad => intro y hy; simp [tgtNames] at hy
  exact ⟨fun x hx => (ce.own x (this x hx)).1, fun x hx => (ce.own x (this x hx)).2.1, fun x hx => (ce.own x (this x hx)).2.2⟩

theorem updMany_other {x : Str} : ∀ (xs : List Str) (ps : List PV) (ρ ρ' : Rho), updMany ρ xs ps = some ρ' → x ∉ xs → ρ' x = ρ x
  | [], [], ρ, ρ', h, _ => by simp [updMany] at h; subst h; rfl
  | y :: xs, p :: ps, ρ, ρ', h, hn => by
    simp only [updMany] at h
    rw [updMany_other xs ps _ ρ' h fun hx => hn (List.mem_cons_of_mem _ hx)]
    unfold upd
    rw [if_neg]
    rintro rfl; exact hn List.mem_cons_self
  | [], _ :: _, ρ, ρ', h, _ => by simp [updMany] at h
  | _ :: _, [], ρ, ρ', h, _ => by simp [updMany] at h
theorem bindT_other {t : MTgt} {q : PV} {x : Str} (h : bindT ρ t q = some ρ') (hx : x ∉ tgtNames t) : ρ' x = ρ x := by
  cases t with
  | one y =>
    simp only [bindT] at h; cases h
    unfold upd
    rw [if_neg]
    rintro rfl; exact hx (by simp [tgtNames])
  | many xs =>
    cases q with
    | tup ps => simp only [bindT] at h; exact updMany_other xs ps ρ ρ' h hx
    | _ => simp [bindT] at h
  | bad => simp [bindT] at h

theorem fold_of_tr {Γ : Names} {e : Expr} {p : PV} (h : ev T μ (tr Γ e) ρ = some p) : ∀ (env : Env) x, foldedSetIterable e env x = pure x := by
  intro env x
  cases e with
  | Set _ _ _ => exact no h
  | _ => rfl

theorem comp1_sound {elt t it : Expr} {ifs : List Expr} {sc : Scope} {pos : Pos} {Γ : Names} {p : PV} (hok : compOk sc Γ = true) (ht : tgtOk sc.names (trTgt t) = true)
    (ihIt : ∀ ρ p, ev T μ (tr Γ it) ρ = some p → SE prog w C lv μ Γ it ρ p)
    (ihElt : ∀ ρ p, ev T μ (tr (relab sc.names Γ) elt) ρ = some p → SE prog w C lv μ (relab sc.names Γ) elt ρ p)
    (ihIfs : ∀ ρ b, evAll T μ (trs (relab sc.names Γ) ifs) ρ = some b → STs prog w C lv μ (relab sc.names Γ) ifs ρ b)
    (h : ev T μ (.comp1 (tr (relab sc.names Γ) elt) (trTgt t) (tr Γ it) (trs (relab sc.names Γ) ifs) (frees sc.names)) ρ = some p) :
    ∃ ys, p = .lst ys ∧ ys.length ≤ SZ ∧ CompS prog w C lv μ Γ elt [⟨t, it, ifs, 0⟩] sc pos ρ ys := by
  rw [ev] at h
  cases h1 : ev T μ (tr Γ it) ρ with
  | none => simp [h1] at h
  | some x0 =>
  cases h2 : iter μ x0 with
  | none => simp [h1, h2] at h
  | some items =>
  simp only [h1, h2] at h
  split at h
  · rename_i ys h3
    split at h
    · rename_i h4
      cases h
      refine ⟨ys, rfl, h4.1, ?_⟩
      intro A E W env s use Q fpos hr hΓ er hfin
      refine comp_core (g := ⟨t, it, ifs, 0⟩) (gs := []) (STEP := fun I D env => emitTree elt D env (.compLoop (.ListComp elt [⟨t, it, ifs, 0⟩] sc pos) 0 I D env)) hr hΓ (compOk_ok hok) rfl (fold_of_tr h1 env) (fun I D env => turn_one elt t it ifs sc pos I D env) (ihIt ρ x0 h1) h2 h4.1 ?_ er hfin
      intro W4 M cenv D I ce
      refine compRun_run (fun q a hq => ?_) h3
      cases hb : bindT (restr (frees sc.names) ρ) (trTgt t) q with
      | none => simp [hb] at hq
      | some ρ' =>
        cases ha : evAll T μ (trs (relab sc.names Γ) ifs) ρ' with
        | none => simp [hb, ha] at hq
        | some b =>
          simp only [hb, ha] at hq
          refine turn_emit (b := b) hr ce.names hb (ce.tgt ht) ce.sub ce.d ce.locD ce.celD (ce.nomu _ ce.d) (ihIfs ρ' b ha) (fun hbt => ?_) (fun hbf => ?_)
          · subst hbt
            simp only [Option.map_eq_some_iff] at hq
            obtain ⟨y, hy, rfl⟩ := hq
            exact ⟨y, ihElt ρ' y hy, rfl⟩
          · subst hbf
            simp at hq; exact hq
    · cases h
  · cases h

theorem comp2_sound {elt t it t2 it2 : Expr} {ifs ifs2 : List Expr} {sc : Scope} {pos : Pos} {Γ : Names} {p : PV} (hok : compOk sc Γ = true) (ht : tgtOk sc.names (trTgt t) = true) (ht2 : tgtOk sc.names (trTgt t2) = true) (hap : apartT (trTgt t) (trTgt t2) = true)
    (ihIt : ∀ ρ p, ev T μ (tr Γ it) ρ = some p → SE prog w C lv μ Γ it ρ p)
    (ihElt : ∀ ρ p, ev T μ (tr (relab sc.names Γ) elt) ρ = some p → SE prog w C lv μ (relab sc.names Γ) elt ρ p)
    (ihIfs : ∀ ρ b, evAll T μ (trs (relab sc.names Γ) ifs) ρ = some b → STs prog w C lv μ (relab sc.names Γ) ifs ρ b)
    (ihIt2 : ∀ ρ p, ev T μ (tr (relab sc.names Γ) it2) ρ = some p → SE prog w C lv μ (relab sc.names Γ) it2 ρ p)
    (ihIfs2 : ∀ ρ b, evAll T μ (trs (relab sc.names Γ) ifs2) ρ = some b → STs prog w C lv μ (relab sc.names Γ) ifs2 ρ b)
    (h : ev T μ (.comp2 (tr (relab sc.names Γ) elt) (trTgt t) (tr Γ it) (trs (relab sc.names Γ) ifs) (trTgt t2) (tr (relab sc.names Γ) it2) (trs (relab sc.names Γ) ifs2) (frees sc.names)) ρ = some p) :
    ∃ ys, p = .lst ys ∧ ys.length ≤ SZ ∧ CompS prog w C lv μ Γ elt [⟨t, it, ifs, 0⟩, ⟨t2, it2, ifs2, 0⟩] sc pos ρ ys := by
  rw [ev] at h
  cases h1 : ev T μ (tr Γ it) ρ with
  | none => simp [h1] at h
  | some x0 =>
  cases h2 : iter μ x0 with
  | none => simp [h1, h2] at h
  | some items =>
  simp only [h1, h2] at h
  split at h
  · rename_i ys h3
    split at h
    · rename_i h4
      cases h
      refine ⟨ys, rfl, h4.1, ?_⟩
      intro A E W env s use Q fpos hr hΓ er hfin
      refine comp_core (g := ⟨t, it, ifs, 0⟩) (gs := [⟨t2, it2, ifs2, 0⟩]) (STEP := fun I D env => innerTree (.ListComp elt [⟨t, it, ifs, 0⟩, ⟨t2, it2, ifs2, 0⟩] sc pos) it2 D env (.compLoop (.ListComp elt [⟨t, it, ifs, 0⟩, ⟨t2, it2, ifs2, 0⟩] sc pos) 0 I D env)) hr hΓ (compOk_ok hok) rfl (fold_of_tr h1 env) (fun I D env => turn_two0 elt t it t2 it2 ifs ifs2 sc pos I D env) (ihIt ρ x0 h1) h2 h4.1 ?_ er hfin
      intro W4 M cenv D I ce
      refine compRun_run (fun q a hq => ?_) h3
      cases hb : bindT (restr (frees sc.names) ρ) (trTgt t) q with
      | none => simp [hb] at hq
      | some ρ' =>
        cases ha : evAll T μ (trs (relab sc.names Γ) ifs) ρ' with
        | none => simp [hb, ha] at hq
        | some b =>
          simp only [hb, ha] at hq
          cases b with
          | false =>
            simp at hq; subst hq
            exact turn_inner (b := false) (p2 := .none) (items2 := []) hr ce.names hb (ce.tgt ht) ce.sub ce.d ce.nomu (ihIfs ρ' false ha) (fun _ => rfl) (fun hh => by cases hh) ce.locD ce.celD
          | true =>
            simp only at hq
            cases h5 : ev T μ (tr (relab sc.names Γ) it2) ρ' with
            | none => simp [h5] at hq
            | some x2 =>
            cases h6 : iter μ x2 with
            | none => simp [h5, h6] at hq
            | some items2 =>
            simp only [h5, h6] at hq
            refine turn_inner (b := true) (p2 := x2) (items2 := items2) hr ce.names hb (ce.tgt ht) ce.sub ce.d ce.nomu (ihIfs ρ' true ha) (fun hh => by cases hh) (fun _ => ⟨ihIt2 ρ' x2 h5, h6, fold_of_tr h5, ?_⟩) ce.locD ce.celD
            intro W2 c2 hM2 hDL hDc
            refine compRun_run (fun q2 a2 hq2 => ?_) hq
            have ht2' := ce.tgt ht2
            have tg2 : TgtOk cenv W2 M ρ' (trTgt t2) := ⟨ht2'.kind, ht2'.w, fun x hx => by
              rw [bindT_other hb, ht2'.none x hx]
              have := List.all_eq_true.mp hap x hx
              simpa using this⟩
            cases hb2 : bindT ρ' (trTgt t2) q2 with
            | none => simp [hb2] at hq2
            | some ρ'' =>
              cases ha2 : evAll T μ (trs (relab sc.names Γ) ifs2) ρ'' with
              | none => simp [hb2, ha2] at hq2
              | some b2 =>
                simp only [hb2, ha2] at hq2
                refine turn_emit (b := b2) hr ce.names hb2 tg2 hM2 ce.d ce.locD ce.celD (ce.nomu _ ce.d) (ihIfs2 ρ'' b2 ha2) (fun hbt => ?_) (fun hbf => ?_)
                · subst hbt
                  simp only [Option.map_eq_some_iff] at hq2
                  obtain ⟨y, hy, rfl⟩ := hq2
                  exact ⟨y, ihElt ρ'' y hy, rfl⟩
                · subst hbf
                  simp at hq2; exact hq2
    · cases h
  · cases h

/-- a comprehension's list, told alone -/
theorem CompS.eval {elt : Expr} {gens : List Comprehension} {sc : Scope} {pos : Pos} {Γ : Names} {ys : List PV} (h : CompS prog w C lv μ Γ elt gens sc pos ρ ys) (hr : Room lv A) (hΓ : env.scope.names = Γ) (er : ER C W env s ρ μ) :
    wpAny (model prog w) A (eval (.ListComp elt gens sc pos) env) (PostL W s ys) E s := by
  rw [eval_ListComp]
  refine h A E W env s none _ _ hr hΓ er fun s' L D m vs n K _ hL hD hLD hns hd hl hrp => ?_
  refine ⟨m, hns, fun h' hs' => ?_⟩
  have hkL : ∀ b o, s.heap.get? b = some o → h'.get? b = some o := fun b o e => hs'.extBut b o (by rintro rfl; first | exact clash hL e | (rw [hL] at e; cases e)) (Keeps.k K b o e)
  refine ⟨?_, D, vs, n, rfl, hD, hs'.extBut _ _ (Ne.symm hLD) hd, hl, Reps.mono (fun a o x => ⟨hs'.extBut a o (fun e => x.2 (.inr (.inl e))) x.1, fun hw => x.2 (hw.elim .inl fun e => .inr (.inr e))⟩) _ _ hrp⟩
  obtain ⟨h1, t1, rfl, k1⟩ := K
  exact ⟨h', t1, rfl, hkL⟩
end
end Mine
end

section
open PySem PySem.W PyProof.Rows PySem.SeqAt
namespace Mine

/-- a call of the module's function f with such arguments gives r -/
noncomputable def CallOk (prog : Program) (w : World) (C : Cx) (lv : Nat) (f : Str) (args : List PV) (r : PV) : Prop :=
  ∃ a o fd, C.mg f = some (.ref a) ∧ C.h0.get? a = some o ∧ o.data = .func fd ∧
  ∀ (A : Around) (E : Value → Shared → Prop) (W : Addr → Prop) (s : Shared) (vs : List Value), Room lv A → (∀ b o, C.h0.get? b = some o → s.heap.get? b = some o) → C.tk0 ≤ s.toks → (∀ a, W a → ∃ o, s.heap.get? a = some o) → (∀ a, W a → C.h0.get? a = none) →
    Reps (frz s.heap W) args vs → wpAny (model prog w) A (call (.ref a) vs) (Post W s r) E s

noncomputable def TOk (prog : Program) (w : World) (C : Cx) (lv : Nat) (T : Str → List PV → Option PV) : Prop := ∀ f args r, T f args = some r → args ≠ [] ∧ CallOk prog w C lv f args r

section
variable {prog : Program} {w : World} {A : Around} {E : Value → Shared → Prop} {s s₁ : Shared} {W : Addr → Prop} {μ : Mu} {ρ : Rho} {env : Env} {C : Cx} {lv : Nat} {T : Str → List PV → Option PV} {Γ : Names}

theorem Post.tr {p : PV} {v : Value} {s' : Shared} (k : Keeps s s₁) (h : Post W s₁ p v s') : Post W s p v s' := ⟨Keeps.tr k h.1, h.2⟩

theorem SE.step {e : Expr} {p : PV} {Q : Value → Shared → Prop} (h : SE prog w C lv μ Γ e ρ p) (hr : Room lv A) (hΓ : env.scope.names = Γ) (er : ER C W env s ρ μ)
    (k : ∀ v s₁, Keeps s s₁ → ER C W env s₁ ρ μ → Rep (frz s₁.heap W) p v → Q v s₁) : wpAny (model prog w) A (eval e env) Q E s :=
  wpAny_with_toks (n := s.toks) (Nat.le_refl _) (wpAny_mono (h A _ W env s hr hΓ er) (fun v s₁ h₁ ht => k v s₁ h₁.1 (er.keeps h₁.1 ht) h₁.2) fun _ _ e => e)
theorem ST.step {e : Expr} {b : Bool} {Q : Bool → Shared → Prop} (h : ST prog w C lv μ Γ e ρ b) (hr : Room lv A) (hΓ : env.scope.names = Γ) (er : ER C W env s ρ μ)
    (k : ∀ s₁, Keeps s s₁ → ER C W env s₁ ρ μ → Q b s₁) : wpAny (model prog w) A (isTrue e env (eval e env)) Q E s :=
  wpAny_with_toks (n := s.toks) (Nat.le_refl _) (wpAny_mono (h A _ W env s hr hΓ er) (fun v s₁ h₁ ht => by obtain ⟨rfl, k1⟩ := h₁; exact k s₁ k1 (er.keeps k1 ht)) fun _ _ e => e)

/-- a row of expressions, each told -/
noncomputable def SEs (prog : Program) (w : World) (C : Cx) (lv : Nat) (μ : Mu) (Γ : Names) (es : List Expr) (ρ : Rho) (ps : List PV) : Prop :=
  ∀ (A : Around) (E : Value → Shared → Prop) (W : Addr → Prop) (env : Env) (s : Shared) (pos : Pos), Room lv A → env.scope.names = Γ → ER C W env s ρ μ →
    wpAny (model prog w) A (spliced (backTo pos (starEach es env))) (fun vs s' => Keeps s s' ∧ Reps (frz s'.heap W) ps vs) E s
theorem SEs.step {es : List Expr} {ps : List PV} {pos : Pos} {Q : List Value → Shared → Prop} (h : SEs prog w C lv μ Γ es ρ ps) (hr : Room lv A) (hΓ : env.scope.names = Γ) (er : ER C W env s ρ μ)
    (k : ∀ vs s₁, Keeps s s₁ → ER C W env s₁ ρ μ → Reps (frz s₁.heap W) ps vs → Q vs s₁) : wpAny (model prog w) A (spliced (backTo pos (starEach es env))) Q E s :=
  wpAny_with_toks (n := s.toks) (Nat.le_refl _) (wpAny_mono (h A _ W env s pos hr hΓ er) (fun v s₁ h₁ ht => k v s₁ h₁.1 (er.keeps h₁.1 ht) h₁.2) fun _ _ e => e)

theorem tr_star {e : Expr} {p : PV} (h : ev T μ (tr Γ e) ρ = some p) (rest : List Expr) (env : Env) : starEach (e :: rest) env = (false, eval e env) :: starEach rest env := by
  cases e with
  | Starred _ _ => exact no h
  | _ => rfl

theorem evs_cons {e : MExpr} {es : List MExpr} {ps : List PV} (h : evs T μ (e :: es) ρ = some ps) : ∃ p qs, ev T μ e ρ = some p ∧ evs T μ es ρ = some qs ∧ ps = p :: qs := by
  rw [evs] at h
  split at h
  · rename_i x xs h1 h2; cases h; exact ⟨x, xs, h1, h2, rfl⟩
  · cases h

theorem evs_plain : ∀ {es : List Expr} {ps : List PV}, evs T μ (trs Γ es) ρ = some ps → ∀ (env : Env) (pos : Pos), backTo pos (starEach es env) = starEach es env ∧ (starEach es env).any (·.1) = false ∧ (starEach es env).all (fun x => !x.1) = true
  | [], ps, _, env, pos => ⟨rfl, rfl, rfl⟩
  | e :: es, ps, h, env, pos => by
    rw [trs] at h
    obtain ⟨p, qs, h1, h2, rfl⟩ := evs_cons h
    obtain ⟨i1, i2, i3⟩ := evs_plain h2 env pos
    rw [tr_star h1 es env]
    refine ⟨?_, by simpa using i2, by simpa using i3⟩
    show (false, _) :: backTo pos (starEach es env) = _
    rw [i1]; rfl

theorem truth_cases {x : PV} {b : Bool} {v : Value} {g : Gr} (h : truth x = some b) (r : Rep g x v) : (v = .none ∧ b = false) ∨ v = .bool b := by
  cases x with
  | none => simp [truth] at h; subst h; exact .inl ⟨rep_none.mp r, rfl⟩
  | bool c => simp [truth] at h; subst h; exact .inr (rep_bool.mp r)
  | _ => simp [truth] at h
theorem truthy_sound {x : PV} {b : Bool} {v : Value} {g : Gr} {Q : Bool → Shared → Prop} (h : truth x = some b) (r : Rep g x v) (hq : Q b s) : wpAny (model prog w) A (truthy v) Q E s := by
  rcases truth_cases h r with ⟨rfl, rfl⟩ | rfl
  · exact truthy_none hq
  · exact wpAny_truthy_bool hq

/-- the plain arm of a test -/
theorem st_value {e : Expr} {x : PV} {b : Bool} (h : SE prog w C lv μ Γ e ρ x) (ht : truth x = some b) (he : ∀ env whole, isTrue e env whole = (do let v ← whole; standAt e.pos; holding [v] (truthy v))) : ST prog w C lv μ Γ e ρ b := by
  intro A E W env s hr hΓ er
  exact wpAny_isTrue_value (h.step hr hΓ er fun v s₁ k1 er1 rv => truthy_sound ht rv ⟨rfl, k1⟩) (he _ _)

theorem base_g (hC : CxOk C) (er : ER C W env s ρ μ) : s.heap.Ns env.globals C.mg := by rw [er.gl]; exact hC.g.keeps er.base
theorem base_b (hC : CxOk C) (er : ER C W env s ρ μ) : s.heap.Ns env.builtins C.mb := by rw [er.bl]; exact hC.b.keeps er.base

theorem flat_rep {r : PV} {v : Value} {g g' : Gr} (h : flat r = true) (x : Rep g r v) : Rep g' r v := by
  cases r with
  | none => exact rep_none.mpr (rep_none.mp x)
  | bool b => exact rep_bool.mpr (rep_bool.mp x)
  | int i => exact rep_int.mpr (rep_int.mp x)
  | str i => exact rep_str.mpr (rep_str.mp x)
  | _ => simp [flat] at h

theorem rs_rep {p : PV} {v : Value} (S : SR W s.heap μ) (r : Rep (frz s.heap W) p v) : Rep (frz s.heap (fun a => W a ∧ μ a = none)) (rs μ p) v := by
  have mono : ∀ a o, frz s.heap W a o → frz s.heap (fun a => W a ∧ μ a = none) a o := fun a o x => ⟨x.1, fun h => x.2 h.1⟩
  cases p with
  | own a =>
    rw [rs]
    cases hm : μ a with
    | none => exact r
    | some xs =>
      obtain ⟨vs, n, h1, h2, h3⟩ := S.ls a xs hm
      have := rep_own.mp r; subst this
      exact rep_lst.mpr ⟨a, vs, n, rfl, ⟨h1, fun h => by have := h.2; first | exact clash hm this | (rw [hm] at this; cases this)⟩, h2, Reps.mono mono _ _ h3⟩
  | _ => exact Rep.mono mono _ _ r
theorem rs_reps {S : SR W s.heap μ} : ∀ {ps : List PV} {vs : List Value}, Reps (frz s.heap W) ps vs → Reps (frz s.heap (fun a => W a ∧ μ a = none)) (ps.map (rs μ)) vs
  | [], vs, r => by rw [Reps] at r; subst r; exact Reps.nil
  | p :: ps, vs, r => by
    rw [Reps] at r
    obtain ⟨v, vs', rfl, h1, h2⟩ := r
    exact Reps.cons (rs_rep S h1) (rs_reps (S := S) h2)

theorem evCall_cases {f : Str} {args : List PV} {r : PV} (h : evCall μ f args = some r) : args ≠ [] ∧ ∃ fv, bootBuiltins f = some fv ∧ ∃ id, fv = .builtin id ∨ fv = .type id := by
  have hne : args ≠ [] := by
    intro e; subst e
    unfold evCall at h
    repeat (split at h; · exact no h)
    exact no h
  refine ⟨hne, ?_⟩
  unfold evCall at h
  by_cases hf : f = "len"
  · subst hf; exact ⟨_, boot_len, _, .inl rfl⟩
  rw [if_neg hf] at h
  by_cases hf : f = "range"
  · subst hf; exact ⟨_, boot_range, _, .inr rfl⟩
  rw [if_neg hf] at h
  by_cases hf : f = "list"
  · subst hf; exact ⟨_, boot_list, _, .inr rfl⟩
  rw [if_neg hf] at h
  by_cases hf : f = "min"
  · subst hf; exact ⟨_, boot_min, _, .inl rfl⟩
  rw [if_neg hf] at h
  by_cases hf : f = "chr"
  · subst hf; exact ⟨_, boot_chr, _, .inl rfl⟩
  rw [if_neg hf] at h
  exact no h
theorem evCall_args {f : Str} {args : List PV} {r : PV} (h : evCall μ f args = some r) : args ≠ [] := (evCall_cases h).1
theorem evCall_fv {f : Str} {args : List PV} {r : PV} (h : evCall μ f args = some r) : ∃ fv, bootBuiltins f = some fv ∧ ∃ id, fv = .builtin id ∨ fv = .type id := (evCall_cases h).2

theorem call_sound {f : Str} {np pos : Pos} {es : List Expr} {ps : List PV} {r : PV} (hC : CxOk C) (hT : TOk prog w C lv T) (hse : SEs prog w C lv μ Γ es ρ ps) (hes : evs T μ (trs Γ es) ρ = some ps)
    (hk : Γ.lookup f = some .globalImplicit) (hd : (f == ("__debug__" : Str)) = false)
    (h : (if f ∈ biNames then evCall μ f ps else if ps.all notOwn then T f ps else match T f (ps.map (rs μ)) with
        | some r => if flat r then some r else none
        | none => none) = some r) : SE prog w C lv μ Γ (.Call (.Name f np) es [] pos) ρ r := by
  intro A E W env s hr hΓ er
  have hkind : env.kindOf f = some .globalImplicit := by show env.scope.names.lookup f = _; rw [hΓ]; exact hk
  obtain ⟨p1, p2, p3⟩ := evs_plain hes env pos
  refine wpAny_Call_ofName (Calls.Name_function_global er.kind hkind ?_ hd)
  cases es with
  | nil =>
    simp [trs, evs] at hes; subst hes
    by_cases hb : f ∈ biNames
    · rw [if_pos hb] at h; exact absurd rfl (evCall_args h)
    · rw [if_neg hb] at h; simp only [List.all_nil, if_true] at h; exact absurd rfl (hT f [] r h).1
  | cons e0 es0 =>
  have he0 : starEach (e0 :: es0) env = (false, eval e0 env) :: starEach es0 env := by
    rw [trs] at hes; obtain ⟨p, qs, h1, _⟩ := evs_cons hes; exact tr_star h1 es0 env
  have args : ∀ {fv : Value} {Q : Args → Shared → Prop}, (∀ vs s₁, Keeps s s₁ → ER C W env s₁ ρ μ → Reps (frz s₁.heap W) ps vs → Q ⟨vs, []⟩ s₁) →
      wpAny (model prog w) A (evalArgs fv true (backTo pos (starEach (e0 :: es0) env)) []) Q E s := by
    intro fv Q hQ
    have hs := hse.step (pos := pos) (E := E) hr hΓ er (Q := fun vs s' => Q ⟨vs, []⟩ s') hQ
    rw [he0] at hs ⊢
    exact Calls.evalArgs_plain hs
  have pl : (backTo pos (starEach (e0 :: es0) env)).any (·.1) = false := by rw [p1]; exact p2
  by_cases hb : f ∈ biNames
  · rw [if_pos hb] at h
    obtain ⟨g1, g2⟩ := hC.bi f hb
    obtain ⟨fv, hfv, hty⟩ := evCall_fv h
    refine Calls.loadGlobal_builtin (base_g hC er) g1 (base_b hC er) (by rw [g2]; exact hfv) ?_
    have fin : ∀ vs s₁, Keeps s s₁ → ER C W env s₁ ρ μ → Reps (frz s₁.heap W) ps vs → wpAny (model prog w) A (call fv vs) (Post W s r) E s₁ := by
      intro vs s₁ k1 er1 rp
      obtain ⟨fv', hfv', _, hw⟩ := evCall_sound (prog := prog) (w := w) (A := A) (E := E) h er1.sr rp hr.hd
      first | exact clash hfv hfv' | (rw [hfv] at hfv'; cases hfv')
      exact wpAny_mono hw (fun v s' hp => hp.tr k1) fun _ _ e => e
    obtain ⟨id, rfl | rfl⟩ := hty
    · exact Calls.callWith_builtin pl (args fun vs s₁ k1 er1 rp => fin vs s₁ k1 er1 rp)
    · exact PySem.callWith_type pl (args fun vs s₁ k1 er1 rp => fin vs s₁ k1 er1 rp)
  · rw [if_neg hb] at h
    split at h
    · obtain ⟨_, a, o, fd, h1, h2, h3, h4⟩ := hT f ps r h
      refine Calls.loadGlobal_global (base_g hC er) h1 (Calls.callWith_function (args fun vs s₁ k1 er1 rp => ⟨⟨er1.base _ _ h2, h3⟩, ?_⟩))
      exact wpAny_mono (h4 A E W s₁ vs hr er1.base er1.tk er1.sr.wl er1.wb rp) (fun v s' hp => hp.tr k1) fun _ _ e => e
    · split at h
      · rename_i r' hT'
        split at h
        · rename_i hfl
          cases h
          obtain ⟨_, a, o, fd, h1, h2, h3, h4⟩ := hT f _ r hT'
          refine Calls.loadGlobal_global (base_g hC er) h1 (Calls.callWith_function (args fun vs s₁ k1 er1 rp => ⟨⟨er1.base _ _ h2, h3⟩, ?_⟩))
          refine wpAny_mono (h4 A E (fun a => W a ∧ μ a = none) s₁ vs hr er1.base er1.tk (fun a ha => er1.sr.wl a ha.1) (fun a ha => er1.wb a ha.1) (rs_reps (S := er1.sr) rp)) (fun v s' hp => ?_) fun _ _ e => e
          exact ⟨Keeps.tr k1 hp.1, flat_rep hfl hp.2⟩
        · cases h
      · cases h
end
end Mine
end

section
open PySem PySem.W PyProof.Rows PySem.SeqAt
namespace Mine
section
variable {prog : Program} {w : World} {A : Around} {E : Value → Shared → Prop} {s s₁ : Shared} {W : Addr → Prop} {μ : Mu} {ρ : Rho} {env : Env} {C : Cx} {lv : Nat} {T : Str → List PV → Option PV} {Γ : Names}

theorem list_sound {es : List Expr} {ps : List PV} {pos : Pos} (h : SEs prog w C lv μ Γ es ρ ps) (hl : ps.length ≤ SZ) (hr : Room lv A) (hΓ : env.scope.names = Γ) (er : ER C W env s ρ μ) :
    wpAny (model prog w) A (eval (.List es pos) env) (PostL W s ps) E s :=
  wpAny_List_spliced (h.step hr hΓ er fun vs s₁ k1 er1 rp => by
    have hl' : vs.length ≤ SZ := by rw [rp.length]; exact hl
    refine ⟨by rw [← SZ_eq]; exact hl', ?_⟩
    have := postL_push (W := W) (s := s₁) (n := 0) (tk := s₁.toks) hl' rp
    obtain ⟨k, a, vs', n, e1, e2, e3⟩ := this
    refine ⟨Keeps.tr k1 k, a, vs', n, e1, ?_, e3⟩
    cases e : s.heap.get? a with
    | none => rfl
    | some o => rw [Keeps.k k1 _ _ e] at e2; cases e2)

theorem tuple_sound {es : List Expr} {ps : List PV} {kd : Nat} {pos : Pos} (h : SEs prog w C lv μ Γ es ρ ps) (hl : ps.length ≤ SZ) (hr : Room lv A) (hΓ : env.scope.names = Γ) (er : ER C W env s ρ μ) :
    wpAny (model prog w) A (eval (.Tuple es kd pos) env) (Post W s (.tup ps)) E s :=
  wpAny_Tuple_spliced (h.step hr hΓ er fun vs s₁ k1 er1 rp => by
    have hl' : vs.length ≤ SZ := by rw [rp.length]; exact hl
    refine ⟨by rw [← SZ_eq]; exact hl', ?_⟩
    exact (post_tup (n := 0) (tk := s₁.toks) er1.sr hl' rp).tr k1)

theorem slcV_sound {value slice : Expr} {x q r : PV} {lo hi : Option Int} {o vl vh : Value} {a : Addr} (h : slcV lo hi q = some r) (e : rs μ x = q) (S : SR W s.heap μ) (ro : Rep (frz s.heap W) x o) (hs : s.heap.get? a = some (slObj vl vh .none))
    (pl : IsPart vl lo ∧ vl = partValue (tokOf vl) ∧ (tokOf vl).map (·.1) = lo) (ph : IsPart vh hi ∧ vh = partValue (tokOf vh) ∧ (tokOf vh).map (·.1) = hi) :
    wpAny (model prog w) A (getitemInPython o >>= fun b => subscripted slice b o (.ref a) >>= fun r => letTemporaryGo value o r >>= fun _ => pure r) (Post W s r) E s := by
  cases q with
  | lst xs =>
    cases Option.some.inj h
    obtain ⟨b, vs, n, rfl, q1, q2, q3⟩ := rs_lst S e ro
    refine sub_any (T := "list") F.slot_list_getitem.lookup ⟨_, q1, rfl⟩ ?_
    exact wpAny_mono (slc_list q1 q2 q3 hs pl.1 ph.1) (fun v s' hp => hp.post S) fun _ _ e => e
  | str xs =>
    cases Option.some.inj h
    have := rs_str e; subst this
    obtain ⟨q1, t, rfl⟩ := rep_str.mp ro
    exact sub_any (T := "str") F.slot_str_getitem.lookup (typeIs_str _ _ _) (slc_str q1 hs pl.2 ph.2)
  | _ => exact no h
theorem slc_sound {value : Expr} {lo hi st : Option Expr} {p pos : Pos} {x l h k r : PV} (hv : SE prog w C lv μ Γ value ρ x)
    (hl : ∀ (A : Around) (E : Value → Shared → Prop) (W : Addr → Prop) (env : Env) (s : Shared), Room lv A → env.scope.names = Γ → ER C W env s ρ μ → wpAny (model prog w) A (evalPart lo env) (fun v s' => Post W s l v s' ∧ s.toks ≤ s'.toks) E s)
    (hh : ∀ (A : Around) (E : Value → Shared → Prop) (W : Addr → Prop) (env : Env) (s : Shared), Room lv A → env.scope.names = Γ → ER C W env s ρ μ → wpAny (model prog w) A (evalPart hi env) (fun v s' => Post W s h v s' ∧ s.toks ≤ s'.toks) E s)
    (hk : ∀ (A : Around) (E : Value → Shared → Prop) (W : Addr → Prop) (env : Env) (s : Shared), Room lv A → env.scope.names = Γ → ER C W env s ρ μ → wpAny (model prog w) A (evalPart st env) (fun v s' => Post W s k v s' ∧ s.toks ≤ s'.toks) E s)
    (e : evSlc μ x l h k = some r) : SE prog w C lv μ Γ (.Subscript value (.Slice lo hi st p) pos) ρ r := by
  intro A E W env s hr hΓ er
  rw [eval_Subscript]
  refine wpAny_bind (hv.step hr hΓ er fun o s₁ k1 er1 ro => wpAny_bind (wpAny_holding (wpAny_Slice ?_)))
  refine wpAny_mono (hl A _ W env s₁ hr hΓ er1) (fun vl s₂ h₂ => ?_) fun _ _ e => e
  obtain ⟨⟨k2, rl⟩, t2⟩ := h₂
  have er2 := er1.keeps k2 t2
  refine wpAny_mono (hh A _ W env s₂ hr hΓ er2) (fun vh s₃ h₃ => ?_) fun _ _ e => e
  obtain ⟨⟨k3, rh⟩, t3⟩ := h₃
  have er3 := er2.keeps k3 t3
  refine wpAny_mono (hk A _ W env s₃ hr hΓ er3) (fun vk s₄ h₄ => wpAny_bind (wpAny_standAt ?_)) fun _ _ e => e
  obtain ⟨⟨k4, rk⟩, t4⟩ := h₄
  have er4 := er3.keeps k4 t4
  have kp : Keeps s₄ { s₄ with heap := s₄.heap.push { cls := .type "slice", data := .fields #[vl, vh, vk] } } := Keeps.push _ _
  have er5 := er4.keeps kp (Nat.le_refl _)
  have hs5 : ({ s₄ with heap := s₄.heap.push { cls := .type "slice", data := .fields #[vl, vh, vk] } } : Shared).heap.get? s₄.heap.objs.size = some (slObj vl vh vk) := Heap.get?_push_size _ rfl
  generalize ({ s₄ with heap := s₄.heap.push { cls := .type "slice", data := .fields #[vl, vh, vk] } } : Shared) = s₅ at kp er5 hs5
  generalize s₄.heap.objs.size = a at hs5
  have K15 : Keeps s₁ s₅ := Keeps.tr k2 (Keeps.tr k3 (Keeps.tr k4 kp))
  have ro5 := ro.keep (Keeps.k K15)
  obtain ⟨lo', hi', e0, e1, e2, e3⟩ := evSlc_inv e
  subst e0
  have := rep_none.mp rk; subst this
  exact wpAny_mono (slcV_sound e3 rfl er5.sr ro5 hs5 (part_of e1 rl) (part_of e2 rh)) (fun v s' hp => hp.tr (Keeps.tr k1 K15)) fun _ _ e => e

theorem idx_sound {value sl : Expr} {pos : Pos} {x i r : PV} (hv : SE prog w C lv μ Γ value ρ x) (hi : SE prog w C lv μ Γ sl ρ i) (e : evIdx μ x i = some r) : SE prog w C lv μ Γ (.Subscript value sl pos) ρ r := by
  intro A E W env s hr hΓ er
  rw [eval_Subscript]
  refine wpAny_bind (hv.step hr hΓ er fun o s₁ k1 er1 ro => wpAny_bind (wpAny_holding (hi.step hr hΓ er1 fun iv s₂ k2 er2 ri => wpAny_bind (wpAny_standAt ?_))))
  exact wpAny_mono (evIdx_sound e er2.sr (ro.keep (Keeps.k k2)) ri) (fun v s' hp => hp.tr (Keeps.tr k1 k2)) fun _ _ e => e

theorem meth_sound {o : Expr} {m : Str} {apos pos : Pos} {es : List Expr} {x r : PV} {ps : List PV} (hv : SE prog w C lv μ Γ o ρ x) (hse : SEs prog w C lv μ Γ es ρ ps) (hes : evs T μ (trs Γ es) ρ = some ps)
    (ho : ∀ env, attributeBase o m env (eval o env) = eval o env) (hline : (apos.endLine == pos.line) = true) (hlen : es.length < 20) (e : evMeth μ x m ps = some r) :
    SE prog w C lv μ Γ (.Call (.Attribute o m apos) es [] pos) ρ r := by
  intro A E W env s hr hΓ er
  obtain ⟨p1, p2, p3⟩ := evs_plain hes env pos
  unfold evMeth at e
  split at e
  · rename_i hm
    subst hm
    split at e
    · rename_i sep p
      split at e
      · rename_i xs e1
        split at e
        · rename_i y e2
          split at e
          · rename_i e3
            cases e
            refine wpAny_Call_method_late (ho env) (by rw [p1, p3]; simp [keywordEach, backToKw]; lia) hline rfl (hv.step hr hΓ er fun ov s₁ k1 er1 ro => ?_)
            obtain ⟨q1, t, rfl⟩ := rep_str.mp ro
            refine ⟨"str", "str.join", F.plainAttrs_str, F.slot_str_join, F.type_str_join, typeIs_str _ _ _, fun a ha => (by cases ha), ?_⟩
            refine Calls.callWith_builtin (by rw [p1]; exact p2) ?_
            cases es with
            | nil => simp [trs, evs] at hes
            | cons e0 es0 =>
              have he0 : starEach (e0 :: es0) env = (false, eval e0 env) :: starEach es0 env := by
                rw [trs] at hes; obtain ⟨p, qs, h1, _⟩ := evs_cons hes; exact tr_star h1 es0 env
              have hs := hse.step (pos := pos) (E := E) hr hΓ er1 (Q := fun vs s' => wpAny (model prog w) A (call (.builtin "str.join") ([.str ⟨sep.toArray⟩ t] ++ vs) []) (Post W s (.str y)) E s') (fun vs s₂ k2 er2 rp => by
                obtain ⟨v, rfl, rv⟩ := reps_one rp
                exact wpAny_mono (join_sound e2 e3 er2.sr e1 rv) (fun v s' hp => hp.tr (Keeps.tr k1 k2)) fun _ _ e => e)
              rw [he0] at hs ⊢
              exact Calls.evalArgs_plain hs
          · cases e
        · cases e
      · cases e
    · cases e
  · cases e

theorem catStrs_cons {p : PV} {ps : List PV} {y : List Nat} (h : catStrs (p :: ps) = some y) : ∃ x z, p = .str x ∧ catStrs ps = some z ∧ y = x ++ z := by
  cases p with
  | str x =>
    simp only [catStrs, Option.map_eq_some_iff] at h
    obtain ⟨z, h1, h2⟩ := h
    exact ⟨x, z, rfl, h1, h2.symm⟩
  | _ => simp [catStrs] at h

theorem fmt_sound {e : Expr} {pos : Pos} {x : List Nat} (hv : SE prog w C lv μ Γ e ρ (.str x)) : SE prog w C lv μ Γ (.FormattedValue e (-1) none pos) ρ (.str x) := by
  intro A E W env s hr hΓ er
  refine wpAny_FormattedValue_plain (hv.step hr hΓ er fun v s₁ k1 er1 rv => ?_)
  obtain ⟨q1, t, rfl⟩ := rep_str.mp rv
  refine wpAny_formatField_str ⟨k1, rv⟩ ⟨Keeps.tr k1 (Keeps.tk _), rep_str.mpr ⟨q1, _, rfl⟩⟩ (by rw [Str.len_mk]; exact q1)
end
end Mine
end

section
open PySem PySem.W PyProof.Rows PySem.SeqAt
set_option linter.unusedVariables false
namespace Mine
section
variable {prog : Program} {w : World} {μ : Mu} {C : Cx} {lv : Nat} {T : Str → List PV → Option PV}

/-- the tests of a row, told from its parts -/
theorem sts_nil {Γ : Names} {ρ : Rho} : STs prog w C lv μ Γ [] ρ true := by
  intro A E W env s hr hΓ er
  show wpAny _ _ (forIn (m := Sem) ([] : List Expr) true _) _ _ _
  rw [List.forIn_nil]
  exact wpAny_pure ⟨rfl, Keeps.rfl'⟩
theorem sts_false (Γ : Names) (ρ : Rho) : ∀ (ifs : List Expr) (A : Around) (E : Value → Shared → Prop) (env : Env) (s : Shared), wpAny (model prog w) A (forIn (m := Sem) ifs false fun c r => if r = true then do let ok ← isTrue c env (eval c env); pure (ForInStep.yield ok) else pure (ForInStep.yield r)) (fun r s' => r = false ∧ Keeps s s') E s
  | [], A, E, env, s => by rw [List.forIn_nil]; exact wpAny_pure ⟨rfl, Keeps.rfl'⟩
  | e :: es, A, E, env, s => by
    rw [List.forIn_cons]
    simp only [Bool.false_eq_true, if_false]
    exact wpAny_bind (wpAny_pure (sts_false Γ ρ es A E env s))
theorem sts_cons {Γ : Names} {ρ : Rho} {e : Expr} {es : List Expr} {b c : Bool} (h : ST prog w C lv μ Γ e ρ b) (h2 : b = true → STs prog w C lv μ Γ es ρ c) (h3 : b = false → c = false) : STs prog w C lv μ Γ (e :: es) ρ c := by
  intro A E W env s hr hΓ er
  show wpAny _ _ (forIn (m := Sem) (e :: es) true _) _ _ _
  rw [List.forIn_cons]
  simp only [if_true]
  refine wpAny_bind (wpAny_bind (h.step hr hΓ er fun s₁ k1 er1 => wpAny_pure ?_))
  cases b with
  | true => exact wpAny_mono (h2 rfl A E W env s₁ hr hΓ er1) (fun r s' hp => ⟨hp.1, Keeps.tr k1 hp.2⟩) fun _ _ e => e
  | false => rw [h3 rfl]; exact wpAny_mono (sts_false Γ ρ es A E env s₁) (fun r s' hp => ⟨hp.1, Keeps.tr k1 hp.2⟩) fun _ _ e => e

theorem part_none {Γ : Names} {ρ : Rho} : ∀ (A : Around) (E : Value → Shared → Prop) (W : Addr → Prop) (env : Env) (s : Shared), Room lv A → env.scope.names = Γ → ER C W env s ρ μ → wpAny (model prog w) A (evalPart none env) (fun v s' => Post W s .none v s' ∧ s.toks ≤ s'.toks) E s :=
  fun A E W env s _ _ _ => wpAny_pure ⟨⟨Keeps.rfl', rep_none.mpr rfl⟩, Nat.le_refl _⟩
theorem part_some {Γ : Names} {ρ : Rho} {e : Expr} {p : PV} (h : SE prog w C lv μ Γ e ρ p) : ∀ (A : Around) (E : Value → Shared → Prop) (W : Addr → Prop) (env : Env) (s : Shared), Room lv A → env.scope.names = Γ → ER C W env s ρ μ → wpAny (model prog w) A (evalPart (some e) env) (fun v s' => Post W s p v s' ∧ s.toks ≤ s'.toks) E s :=
  fun A E W env s hr hΓ er => wpAny_with_toks (n := s.toks) (Nat.le_refl _) (wpAny_mono (h A _ W env s hr hΓ er) (fun v s₁ h₁ ht => ⟨h₁, ht⟩) fun _ _ e => e)

theorem const_sound {c : Const} {k : Nat} {pos : Pos} {Γ : Names} {ρ : Rho} {p : PV} (h : ev T μ (tr Γ (.Constant c k pos)) ρ = some p) : SE prog w C lv μ Γ (.Constant c k pos) ρ p := by
  intro A E W env s hr hΓ er
  cases c with
  | none => cases Option.some.inj h; exact wpAny_Constant_none ⟨Keeps.rfl', rep_none.mpr rfl⟩
  | bool b => cases Option.some.inj h; exact wpAny_Constant_bool ⟨Keeps.rfl', rep_bool.mpr rfl⟩
  | int i => cases Option.some.inj h; exact wpAny_Constant_int ⟨Keeps.tk _, rep_int.mpr ⟨_, rfl⟩⟩
  | str x =>
    have h : ev T μ (if x.cps.toList.length ≤ SZ then .const (.str x.cps.toList) else .bad) ρ = some p := h
    by_cases hl : x.cps.toList.length ≤ SZ
    · rw [if_pos hl] at h
      cases Option.some.inj h
      exact wpAny_Constant_str ⟨Keeps.tk _, rep_str.mpr ⟨hl, s.toks, rfl⟩⟩
    · rw [if_neg hl] at h; exact no h
  | _ => exact no h

theorem name_sound' {x : Str} {pos : Pos} {Γ : Names} {ρ : Rho} {p : PV} (h : ev T μ (tr Γ (.Name x pos)) ρ = some p) : SE prog w C lv μ Γ (.Name x pos) ρ p := by
  intro A E W env s hr hΓ er
  have h : ev T μ (if (x == "__debug__" || x == "__classdict__") = true then .bad else .var x) ρ = some p := h
  by_cases hx : (x == "__debug__" || x == "__classdict__") = true
  · rw [if_pos hx] at h; exact no h
  · rw [if_neg hx] at h
    exact name_sound er h (by simpa using hx)

theorem ev_bin {e1 e2 : MExpr} {ρ : Rho} {op : Operator} {p : PV} (h : ev T μ (.bin op e1 e2) ρ = some p) : ∃ x y, ev T μ e1 ρ = some x ∧ ev T μ e2 ρ = some y ∧ evBin μ op x y = some p := by
  rw [ev] at h
  split at h
  · rename_i x y h1 h2; exact ⟨x, y, h1, h2, h⟩
  · cases h
theorem ev_cmp {e1 e2 : MExpr} {ρ : Rho} {op : CmpOp} {p : PV} (h : ev T μ (.cmp op e1 e2) ρ = some p) : ∃ x y, ev T μ e1 ρ = some x ∧ ev T μ e2 ρ = some y ∧ evCmp μ op x y = some p := by
  rw [ev] at h
  split at h
  · rename_i x y h1 h2; exact ⟨x, y, h1, h2, h⟩
  · cases h
theorem ev_idx {e1 e2 : MExpr} {ρ : Rho} {p : PV} (h : ev T μ (.idx e1 e2) ρ = some p) : ∃ x y, ev T μ e1 ρ = some x ∧ ev T μ e2 ρ = some y ∧ evIdx μ x y = some p := by
  rw [ev] at h
  split at h
  · rename_i x y h1 h2; exact ⟨x, y, h1, h2, h⟩
  · cases h
theorem ev_neg {e1 : MExpr} {ρ : Rho} {p : PV} (h : ev T μ (.neg e1) ρ = some p) : ∃ i, ev T μ e1 ρ = some (.int i) ∧ p = .int (-i) := by
  rw [ev] at h
  split at h
  · rename_i i h1; cases h; exact ⟨i, h1, rfl⟩
  · cases h
theorem ev_not {e1 : MExpr} {ρ : Rho} {p : PV} (h : ev T μ (.not e1) ρ = some p) : ∃ x b, ev T μ e1 ρ = some x ∧ truth x = some b ∧ p = .bool !b := by
  rw [ev] at h
  split at h
  · rename_i x h1
    simp only [Option.map_eq_some_iff] at h
    obtain ⟨b, h2, h3⟩ := h
    exact ⟨x, b, h1, h2, h3.symm⟩
  · cases h
theorem ev_ite {c a b : MExpr} {ρ : Rho} {p : PV} (h : ev T μ (.ite c a b) ρ = some p) : ∃ x t, ev T μ c ρ = some x ∧ truth x = some t ∧ ev T μ (if t then a else b) ρ = some p := by
  rw [ev] at h
  split at h
  · rename_i x h1
    split at h
    · rename_i h2; exact ⟨x, true, h1, h2, h⟩
    · rename_i h2; exact ⟨x, false, h1, h2, h⟩
    · cases h
  · cases h
theorem ev_and {a b : MExpr} {ρ : Rho} {p : PV} (h : ev T μ (.and a b) ρ = some p) : ∃ x t, ev T μ a ρ = some x ∧ truth x = some t ∧ (if t then ev T μ b ρ = some p else p = x) := by
  rw [ev] at h
  split at h
  · rename_i x h1
    split at h
    · rename_i h2; exact ⟨x, true, h1, h2, h⟩
    · rename_i h2; cases h; exact ⟨_, false, h1, h2, rfl⟩
    · cases h
  · cases h
theorem ev_or {a b : MExpr} {ρ : Rho} {p : PV} (h : ev T μ (.or a b) ρ = some p) : ∃ x t, ev T μ a ρ = some x ∧ truth x = some t ∧ (if t then p = x else ev T μ b ρ = some p) := by
  rw [ev] at h
  split at h
  · rename_i x h1
    split at h
    · rename_i h2; cases h; exact ⟨_, true, h1, h2, rfl⟩
    · rename_i h2; exact ⟨x, false, h1, h2, h⟩
    · cases h
  · cases h
theorem ev_slc {a lo hi st : MExpr} {ρ : Rho} {p : PV} (h : ev T μ (.slc a lo hi st) ρ = some p) : ∃ x l u k, ev T μ a ρ = some x ∧ ev T μ lo ρ = some l ∧ ev T μ hi ρ = some u ∧ ev T μ st ρ = some k ∧ evSlc μ x l u k = some p := by
  rw [ev] at h
  split at h
  · rename_i x l u k h1 h2 h3 h4; exact ⟨x, l, u, k, h1, h2, h3, h4, h⟩
  · cases h
theorem ev_lst {es : List MExpr} {ρ : Rho} {p : PV} (h : ev T μ (.lst es) ρ = some p) : ∃ xs, evs T μ es ρ = some xs ∧ xs.length ≤ SZ ∧ p = .lst xs := by
  rw [ev] at h
  split at h
  · rename_i xs h1
    split at h
    · cases h; exact ⟨xs, h1, ‹_›, rfl⟩
    · cases h
  · cases h
theorem ev_tup {es : List MExpr} {ρ : Rho} {p : PV} (h : ev T μ (.tup es) ρ = some p) : ∃ xs, evs T μ es ρ = some xs ∧ xs.length ≤ SZ ∧ p = .tup xs := by
  rw [ev] at h
  split at h
  · rename_i xs h1
    split at h
    · cases h; exact ⟨xs, h1, ‹_›, rfl⟩
    · cases h
  · cases h
theorem ev_meth {o : MExpr} {m : Str} {es : List MExpr} {ρ : Rho} {p : PV} (h : ev T μ (.meth o m es) ρ = some p) : ∃ x xs, ev T μ o ρ = some x ∧ evs T μ es ρ = some xs ∧ evMeth μ x m xs = some p := by
  rw [ev] at h
  split at h
  · rename_i x xs h1 h2; exact ⟨x, xs, h1, h2, h⟩
  · cases h
theorem ev_fmt {e : MExpr} {ρ : Rho} {p : PV} (h : ev T μ (.fmt e) ρ = some p) : ∃ x, ev T μ e ρ = some (.str x) ∧ p = .str x := by
  rw [ev] at h
  split at h
  · rename_i x h1; cases h; exact ⟨x, h1, rfl⟩
  · cases h
theorem ev_fstr {es : List MExpr} {ρ : Rho} {p : PV} (h : ev T μ (.fstr es) ρ = some p) : ∃ xs y, evs T μ es ρ = some xs ∧ catStrs xs = some y ∧ y.length ≤ SZ ∧ 2 ≤ es.length ∧ p = .str y := by
  rw [ev] at h
  split at h
  · rename_i xs h1
    split at h
    · rename_i y h2
      split at h
      · rename_i h3; cases h; exact ⟨xs, y, h1, h2, h3.1, h3.2, rfl⟩
      · cases h
    · cases h
  · cases h

/-- the parts of an f-string -/
noncomputable def SJ (prog : Program) (w : World) (C : Cx) (lv : Nat) (μ : Mu) (Γ : Names) (es : List Expr) (ρ : Rho) (y : List Nat) : Prop :=
  ∀ (A : Around) (E : Value → Shared → Prop) (W : Addr → Prop) (env : Env) (s : Shared) (acc : List Nat) (Q : Str → Shared → Prop), Room lv A → env.scope.names = Γ → ER C W env s ρ μ → acc.length + y.length ≤ SZ →
    (∀ s', Keeps s s' → Q ⟨(acc ++ y).toArray⟩ s') → Joins (model prog w) A E (evalEach es env) ⟨acc.toArray⟩ Q s
theorem sj_nil {Γ : Names} {ρ : Rho} : SJ prog w C lv μ Γ [] ρ [] := fun A E W env s acc Q _ _ _ _ hQ => by
  show Q _ s
  simpa using hQ s Keeps.rfl'
theorem sj_cons {Γ : Names} {ρ : Rho} {e : Expr} {es : List Expr} {x y : List Nat} (h : SE prog w C lv μ Γ e ρ (.str x)) (h2 : SJ prog w C lv μ Γ es ρ y) : SJ prog w C lv μ Γ (e :: es) ρ (x ++ y) := by
  intro A E W env s acc Q hr hΓ er hl hQ
  show wpAny _ _ (eval e env) _ _ _
  refine h.step hr hΓ er fun v s₁ k1 er1 rv => ?_
  obtain ⟨q1, t, rfl⟩ := rep_str.mp rv
  simp at hl
  refine ⟨_, t, rfl, ?_, ?_⟩
  · rw [Str.app_mk, Str.len_mk, ← SZ_eq]; simp; lia
  · rw [Str.app_mk]
    exact h2 A E W env s₁ (acc ++ x) Q hr hΓ er1 (by simp; lia) fun s' k' => by simpa using hQ s' (Keeps.tr k1 k')
theorem fstr_sound {Γ : Names} {ρ : Rho} {es : List Expr} {pos : Pos} {y : List Nat} (h : SJ prog w C lv μ Γ es ρ y) (hl : y.length ≤ SZ) (h2 : 2 ≤ es.length) : SE prog w C lv μ Γ (.JoinedStr es pos) ρ (.str y) := by
  intro A E W env s hr hΓ er
  match es, h2 with
  | v1 :: v2 :: rest, _ =>
    refine wpAny_JoinedStr ?_
    have := h A E W env s [] (fun out s₁ => out.length ≤ sizeLine ∧ Post W s (.str y) (.str out s₁.toks) { s₁ with toks := s₁.toks + 1 }) hr hΓ er (by simpa using hl) fun s' k' => ?_
    · exact this
    · refine ⟨by rw [Str.len_mk, ← SZ_eq]; simpa using hl, Keeps.tr k' (Keeps.tk _), rep_str.mpr ⟨hl, _, by simp; rfl⟩⟩
end
end Mine
end

section
open PySem PySem.W PyProof.Rows PySem.SeqAt
set_option linter.unusedVariables false
namespace Mine
section
variable {prog : Program} {w : World} {μ : Mu} {C : Cx} {lv : Nat} {T : Str → List PV → Option PV}

theorem bin_sound {l r : Expr} {op : Operator} {pos : Pos} {Γ : Names} {ρ : Rho} {x y p : PV} (h1 : SE prog w C lv μ Γ l ρ x) (h2 : SE prog w C lv μ Γ r ρ y) (h : evBin μ op x y = some p) : SE prog w C lv μ Γ (.BinOp l op r pos) ρ p := by
  intro A E W env s hr hΓ er
  refine wpAny_BinOp (h1.step hr hΓ er fun a s₁ k1 er1 ra => h2.step hr hΓ er1 fun b s₂ k2 er2 rb => ?_)
  exact wpAny_mono (evBin_sound h er2.sr (ra.keep (Keeps.k k2)) rb) (fun v s' hp => hp.tr (Keeps.tr k1 k2)) fun _ _ e => e
theorem cmp_sound {l r : Expr} {op : CmpOp} {pos : Pos} {Γ : Names} {ρ : Rho} {x y p : PV} (h1 : SE prog w C lv μ Γ l ρ x) (h2 : SE prog w C lv μ Γ r ρ y) (h : evCmp μ op x y = some p) (hm : behindInMarks op r = false) : SE prog w C lv μ Γ (.Compare l [op] [r] pos) ρ p := by
  intro A E W env s hr hΓ er
  refine wpAny_Compare1 (h1.step hr hΓ er fun a s₁ k1 er1 ra => h2.step hr hΓ er1 fun b s₂ k2 er2 rb => ?_) hm
  exact wpAny_mono (evCmp_sound h er2.sr (ra.keep (Keeps.k k2)) rb hr.hu) (fun v s' hp => hp.tr (Keeps.tr k1 k2)) fun _ _ e => e
theorem cmp_st {l r : Expr} {op : CmpOp} {pos : Pos} {Γ : Names} {ρ : Rho} {x y p : PV} {b : Bool} (h1 : SE prog w C lv μ Γ l ρ x) (h2 : SE prog w C lv μ Γ r ρ y) (h : evCmp μ op x y = some p) (ht : truth p = some b) (hm : behindInMarks op r = false) : ST prog w C lv μ Γ (.Compare l [op] [r] pos) ρ b := by
  intro A E W env s hr hΓ er
  refine wpAny_isTrue_Compare1 (h1.step hr hΓ er fun a s₁ k1 er1 ra => h2.step hr hΓ er1 fun b s₂ k2 er2 rb => ?_) hm
  exact wpAny_mono (evCmp_sound h er2.sr (ra.keep (Keeps.k k2)) rb hr.hu) (fun v s' hp => truthy_sound ht hp.2 ⟨rfl, Keeps.tr k1 (Keeps.tr k2 hp.1)⟩) fun _ _ e => e
theorem marks_of {e : Expr} {op : CmpOp} {Γ : Names} {ρ : Rho} {p : PV} (h : ev T μ (tr Γ e) ρ = some p) : behindInMarks op e = false := by
  cases e with
  | Set _ _ _ => exact no h
  | _ => rfl

theorem base_of {o : Expr} {m : Str} (ho : ∀ f a k p, o ≠ .Call f a k p) (env : Env) : attributeBase o m env (eval o env) = eval o env := by
  cases o with
  | Call f a k p => exact absurd rfl (ho f a k p)
  | _ => rfl

noncomputable def SB (prog : Program) (w : World) (C : Cx) (lv : Nat) (μ : Mu) (Γ : Names) (op : PySem.BoolOp) (es : List Expr) (ρ : Rho) (p : PV) : Prop :=
  ∀ (A : Around) (E : Value → Shared → Prop) (W : Addr → Prop) (env : Env) (s : Shared) (pos : Pos), Room lv A → env.scope.names = Γ → ER C W env s ρ μ → wpAny (model prog w) A (boolOp pos op (evalEach es env)) (Post W s p) E s
noncomputable def SA (prog : Program) (w : World) (C : Cx) (lv : Nat) (μ : Mu) (Γ : Names) (op : PySem.BoolOp) (es : List Expr) (ρ : Rho) (b : Bool) : Prop :=
  ∀ (A : Around) (E : Value → Shared → Prop) (W : Addr → Prop) (env : Env) (s : Shared), Room lv A → env.scope.names = Γ → ER C W env s ρ μ → wpAny (model prog w) A (allTrue op es env) (fun r s' => r = b ∧ Keeps s s') E s

theorem sb_cons {Γ : Names} {ρ : Rho} {op : PySem.BoolOp} {e e2 : Expr} {es : List Expr} {x p : PV} {t : Bool} (h : SE prog w C lv μ Γ e ρ x) (ht : truth x = some t)
    (h2 : (match op with | .And => t | .Or => !t) = true → SB prog w C lv μ Γ op (e2 :: es) ρ p) (h3 : (match op with | .And => t | .Or => !t) = false → p = x) : SB prog w C lv μ Γ op (e :: e2 :: es) ρ p := by
  intro A E W env s pos hr hΓ er
  show wpAny _ _ (boolOp pos op (eval e env :: eval e2 env :: evalEach es env)) _ _ _
  rw [boolOp]
  · refine wpAny_bind (h.step hr hΓ er fun v s₁ k1 er1 rv => wpAny_bind (wpAny_standAt (wpAny_bind (wpAny_holding (truthy_sound ht rv ?_)))))
    cases op <;> cases t
    · have := h3 rfl; subst this; exact wpAny_pure ⟨k1, rv⟩
    · exact wpAny_mono (h2 rfl A E W env s₁ pos hr hΓ er1) (fun v s' hp => hp.tr k1) fun _ _ e => e
    · exact wpAny_mono (h2 rfl A E W env s₁ pos hr hΓ er1) (fun v s' hp => hp.tr k1) fun _ _ e => e
    · have := h3 rfl; subst this; exact wpAny_pure ⟨k1, rv⟩
  · intro hh; cases hh
theorem sa_cons {Γ : Names} {ρ : Rho} {op : PySem.BoolOp} {e : Expr} {es : List Expr} {b t : Bool} (h : ST prog w C lv μ Γ e ρ t)
    (h2 : (match op with | .And => t | .Or => !t) = true → SA prog w C lv μ Γ op es ρ b) (h3 : (match op with | .And => t | .Or => !t) = false → b = t) : SA prog w C lv μ Γ op (e :: es) ρ b := by
  intro A E W env s hr hΓ er
  rw [allTrue]
  refine wpAny_bind (h.step hr hΓ er fun s₁ k1 er1 => ?_)
  cases op <;> cases t
  · exact wpAny_pure ⟨(h3 rfl).symm, k1⟩
  · exact wpAny_mono (h2 rfl A E W env s₁ hr hΓ er1) (fun v s' hp => ⟨hp.1, Keeps.tr k1 hp.2⟩) fun _ _ e => e
  · exact wpAny_mono (h2 rfl A E W env s₁ hr hΓ er1) (fun v s' hp => ⟨hp.1, Keeps.tr k1 hp.2⟩) fun _ _ e => e
  · exact wpAny_pure ⟨(h3 rfl).symm, k1⟩
theorem sa_one {Γ : Names} {ρ : Rho} {op : PySem.BoolOp} {e : Expr} {b : Bool} (h : ST prog w C lv μ Γ e ρ b) : SA prog w C lv μ Γ op [e] ρ b := by
  intro A E W env s hr hΓ er
  rw [allTrue]
  refine wpAny_bind (h.step hr hΓ er fun s₁ k1 er1 => ?_)
  cases op <;> cases b <;> exact wpAny_pure ⟨rfl, k1⟩

theorem compS_se {Γ : Names} {ρ : Rho} {elt : Expr} {gens : List Comprehension} {sc : Scope} {pos : Pos} {ys : List PV} (h : CompS prog w C lv μ Γ elt gens sc pos ρ ys) : SE prog w C lv μ Γ (.ListComp elt gens sc pos) ρ (.lst ys) := by
  intro A E W env s hr hΓ er
  exact wpAny_mono (h.eval hr hΓ er) (fun v s' hp => hp.post er.sr) fun _ _ e => e

theorem ite_sound {c a b : Expr} {pos : Pos} {Γ : Names} {ρ : Rho} {p : PV} {t : Bool} (h1 : ST prog w C lv μ Γ c ρ t) (h2 : SE prog w C lv μ Γ (if t then a else b) ρ p) : SE prog w C lv μ Γ (.IfExp c a b pos) ρ p := by
  intro A E W env s hr hΓ er
  refine wpAny_IfExp (h1.step hr hΓ er fun s₁ k1 er1 => ?_)
  cases t <;> exact wpAny_mono (h2 A E W env s₁ hr hΓ er1) (fun v s' hp => hp.tr k1) fun _ _ e => e
theorem ite_st {c a b : Expr} {pos : Pos} {Γ : Names} {ρ : Rho} {r t : Bool} (h1 : ST prog w C lv μ Γ c ρ t) (h2 : ST prog w C lv μ Γ (if t then a else b) ρ r) : ST prog w C lv μ Γ (.IfExp c a b pos) ρ r := by
  intro A E W env s hr hΓ er
  show wpAny (model prog w) A (PySem.isTrue c env (eval c env) >>= fun t => if t = true then PySem.isTrue a env (eval a env) else PySem.isTrue b env (eval b env)) _ E s
  refine wpAny_bind (h1.step hr hΓ er fun s₁ k1 er1 => ?_)
  cases t <;> exact wpAny_mono (h2 A E W env s₁ hr hΓ er1) (fun v s' hp => ⟨hp.1, Keeps.tr k1 hp.2⟩) fun _ _ e => e
theorem neg_sound {x : Expr} {pos : Pos} {Γ : Names} {ρ : Rho} {i : Int} (h1 : SE prog w C lv μ Γ x ρ (.int i)) : SE prog w C lv μ Γ (.UnaryOp .USub x pos) ρ (.int (-i)) := by
  intro A E W env s hr hΓ er
  refine wpAny_UnaryOp (h1.step hr hΓ er fun v s₁ k1 er1 rv => ?_)
  obtain ⟨t, rfl⟩ := rep_int.mp rv
  exact PySem.P.neg_int ⟨Keeps.tr k1 (Keeps.tk _), rep_int.mpr ⟨_, rfl⟩⟩
theorem not_sound {x : Expr} {pos : Pos} {Γ : Names} {ρ : Rho} {p : PV} {b : Bool} (h1 : SE prog w C lv μ Γ x ρ p) (ht : truth p = some b) : SE prog w C lv μ Γ (.UnaryOp .Not x pos) ρ (.bool !b) := by
  intro A E W env s hr hΓ er
  refine wpAny_UnaryOp (h1.step hr hΓ er fun v s₁ k1 er1 rv => not_of (truthy_sound ht rv ⟨k1, rep_bool.mpr rfl⟩))
theorem not_st {x : Expr} {pos : Pos} {Γ : Names} {ρ : Rho} {b : Bool} (h1 : ST prog w C lv μ Γ x ρ b) : ST prog w C lv μ Γ (.UnaryOp .Not x pos) ρ (!b) := by
  intro A E W env s hr hΓ er
  exact wpAny_isTrue_Not (h1.step hr hΓ er fun s₁ k1 er1 => ⟨rfl, k1⟩)
theorem ses_cons {Γ : Names} {ρ : Rho} {e : Expr} {es : List Expr} {p : PV} {ps : List PV} (h : SE prog w C lv μ Γ e ρ p) (h2 : SEs prog w C lv μ Γ es ρ ps) (hs : ∀ env, starEach (e :: es) env = (false, eval e env) :: starEach es env) : SEs prog w C lv μ Γ (e :: es) ρ (p :: ps) := by
  intro A E W env s pos hr hΓ er
  rw [hs env]
  show wpAny _ _ (spliced ((false, eval e env) :: backTo pos (starEach es env))) _ _ _
  refine Calls.spliced_cons (h.step hr hΓ er fun v s₁ k1 er1 rv => h2.step hr hΓ er1 fun vs s₂ k2 er2 rp => ?_)
  exact ⟨Keeps.tr k1 k2, Reps.cons (rv.keep (Keeps.k k2)) rp⟩

noncomputable def Good (prog : Program) (w : World) (C : Cx) (lv : Nat) (μ : Mu) (T : Str → List PV → Option PV) (e : Expr) : Prop :=
  (∀ Γ ρ p, ev T μ (tr Γ e) ρ = some p → SE prog w C lv μ Γ e ρ p) ∧ (∀ Γ ρ x b, ev T μ (tr Γ e) ρ = some x → truth x = some b → ST prog w C lv μ Γ e ρ b)

theorem trs_len (Γ : Names) : ∀ es : List Expr, (trs Γ es).length = es.length
  | [] => rfl
  | e :: es => by rw [trs]; simp [trs_len Γ es]

theorem evs_of : ∀ (es : List Expr), (∀ e ∈ es, Good prog w C lv μ T e) → ∀ Γ ρ ps, evs T μ (trs Γ es) ρ = some ps → SEs prog w C lv μ Γ es ρ ps
  | [], _, Γ, ρ, ps, h => by
    cases Option.some.inj h
    intro A E W env s pos hr hΓ er
    exact Calls.spliced_nil ⟨Keeps.rfl', Reps.nil⟩
  | e :: es, H, Γ, ρ, ps, h => by
    rw [trs] at h
    obtain ⟨p, qs, h1, h2, rfl⟩ := evs_cons h
    exact ses_cons ((H e List.mem_cons_self).1 Γ ρ p h1) (evs_of es (fun e he => H e (List.mem_cons_of_mem _ he)) Γ ρ qs h2) (tr_star h1 es)
theorem sts_of : ∀ (es : List Expr), (∀ e ∈ es, Good prog w C lv μ T e) → ∀ Γ ρ b, evAll T μ (trs Γ es) ρ = some b → STs prog w C lv μ Γ es ρ b
  | [], _, Γ, ρ, b, h => by cases Option.some.inj h; exact sts_nil
  | e :: es, H, Γ, ρ, b, h => by
    rw [trs, evAll] at h
    split at h
    · rename_i x h1
      have hst := fun t ht => (H e List.mem_cons_self).2 Γ ρ x t h1 ht
      split at h
      · rename_i h2
        exact sts_cons (hst true h2) (fun _ => sts_of es (fun e he => H e (List.mem_cons_of_mem _ he)) Γ ρ b h) (fun hh => by cases hh)
      · rename_i h2
        cases h
        exact sts_cons (hst false h2) (fun hh => by cases hh) fun _ => rfl
      · cases h
    · cases h
theorem bool_of : ∀ (es : List Expr), (∀ e ∈ es, Good prog w C lv μ T e) → ∀ Γ ρ op p, ev T μ (trBool Γ op es) ρ = some p → SB prog w C lv μ Γ op es ρ p
  | [], _, Γ, ρ, op, p, h => no h
  | [e], H, Γ, ρ, op, p, h => by
    intro A E W env s pos hr hΓ er
    exact (H e List.mem_cons_self).1 Γ ρ p h A E W env s hr hΓ er
  | e :: e2 :: es, H, Γ, ρ, op, p, h => by
    have H2 : ∀ e ∈ e2 :: es, Good prog w C lv μ T e := fun e he => H e (List.mem_cons_of_mem _ he)
    cases op with
    | And =>
      · obtain ⟨x, t, h1, h2, h3⟩ := ev_and (a := tr Γ e) (b := trBool Γ .And (e2 :: es)) h
        refine sb_cons ((H e List.mem_cons_self).1 Γ ρ x h1) h2 (fun hh => ?_) (fun hh => ?_)
        · have : t = true := hh
          subst this; exact bool_of (e2 :: es) H2 Γ ρ .And p h3
        · have : t = false := hh
          subst this; exact h3
    | Or =>
      · obtain ⟨x, t, h1, h2, h3⟩ := ev_or (a := tr Γ e) (b := trBool Γ .Or (e2 :: es)) h
        refine sb_cons ((H e List.mem_cons_self).1 Γ ρ x h1) h2 (fun hh => ?_) (fun hh => ?_)
        · have : t = false := by simpa using hh
          subst this; exact bool_of (e2 :: es) H2 Γ ρ .Or p h3
        · have : t = true := by simpa using hh
          subst this; exact h3
theorem all_of : ∀ (es : List Expr), (∀ e ∈ es, Good prog w C lv μ T e) → ∀ Γ ρ op x b, ev T μ (trBool Γ op es) ρ = some x → truth x = some b → SA prog w C lv μ Γ op es ρ b
  | [], _, Γ, ρ, op, x, b, h, hb => no h
  | [e], H, Γ, ρ, op, x, b, h, hb => by
    exact sa_one ((H e List.mem_cons_self).2 Γ ρ x b h hb)
  | e :: e2 :: es, H, Γ, ρ, op, x, b, h, hb => by
    have H2 : ∀ e ∈ e2 :: es, Good prog w C lv μ T e := fun e he => H e (List.mem_cons_of_mem _ he)
    cases op with
    | And =>
      · obtain ⟨y, t, h1, h2, h3⟩ := ev_and (a := tr Γ e) (b := trBool Γ .And (e2 :: es)) h
        refine sa_cons ((H e List.mem_cons_self).2 Γ ρ y t h1 h2) (fun hh => ?_) (fun hh => ?_)
        · have : t = true := hh
          subst this; exact all_of (e2 :: es) H2 Γ ρ .And x b h3 hb
        · have : t = false := hh
          subst this
          have h3 : x = y := h3
          subst h3; first | exact clash h2 hb | (rw [h2] at hb; cases hb); rfl
    | Or =>
      · obtain ⟨y, t, h1, h2, h3⟩ := ev_or (a := tr Γ e) (b := trBool Γ .Or (e2 :: es)) h
        refine sa_cons ((H e List.mem_cons_self).2 Γ ρ y t h1 h2) (fun hh => ?_) (fun hh => ?_)
        · have : t = false := by simpa using hh
          subst this; exact all_of (e2 :: es) H2 Γ ρ .Or x b h3 hb
        · have : t = true := by simpa using hh
          subst this
          have h3 : x = y := h3
          subst h3; first | exact clash h2 hb | (rw [h2] at hb; cases hb); rfl
theorem join_of : ∀ (es : List Expr), (∀ e ∈ es, Good prog w C lv μ T e) → ∀ Γ ρ ps y, evs T μ (trs Γ es) ρ = some ps → catStrs ps = some y → SJ prog w C lv μ Γ es ρ y
  | [], _, Γ, ρ, ps, y, h, h2 => by cases Option.some.inj h; cases Option.some.inj h2; exact sj_nil
  | e :: es, H, Γ, ρ, ps, y, h, h2 => by
    rw [trs] at h
    obtain ⟨p, qs, h3, h4, rfl⟩ := evs_cons h
    obtain ⟨x, z, rfl, h5, rfl⟩ := catStrs_cons h2
    exact sj_cons ((H e List.mem_cons_self).1 Γ ρ _ h3) (join_of es (fun e he => H e (List.mem_cons_of_mem _ he)) Γ ρ qs z h4 h5)
end
end Mine
end

section
open PySem PySem.W PyProof.Rows PySem.SeqAt
set_option linter.unusedVariables false
namespace Mine
section
variable {prog : Program} {w : World} {μ : Mu} {C : Cx} {lv : Nat} {T : Str → List PV → Option PV}

theorem good_value {e : Expr} (h : ∀ Γ ρ p, ev T μ (tr Γ e) ρ = some p → SE prog w C lv μ Γ e ρ p) (he : ∀ env whole, PySem.isTrue e env whole = (do let v ← whole; standAt e.pos; holding [v] (truthy v))) : Good prog w C lv μ T e :=
  ⟨h, fun Γ ρ x b hx hb => st_value (h Γ ρ x hx) hb he⟩
theorem good_bad {e : Expr} (h : ∀ Γ ρ, ev T μ (tr Γ e) ρ = none) : Good prog w C lv μ T e :=
  ⟨fun Γ ρ p hp => (by first | exact clash h hp | (rw [h] at hp; cases hp)), fun Γ ρ x b hx hb => (by first | exact clash h hx | (rw [h] at hx; cases hx))⟩

theorem idx_tr {v sl : Expr} {pos : Pos} {Γ : Names} (h : ∀ a b c d, sl ≠ .Slice a b c d) : tr Γ (.Subscript v sl pos) = .idx (tr Γ v) (tr Γ sl) := by
  cases sl with
  | Slice a b c d => exact absurd rfl (h a b c d)
  | _ => rfl

/-- a fact of all the smaller ones -/
noncomputable def Below (prog : Program) (w : World) (C : Cx) (lv : Nat) (μ : Mu) (T : Str → List PV → Option PV) (n : Nat) : Prop := ∀ e : Expr, sizeOf e < n → Good prog w C lv μ T e
section
variable {n : Nat} {Γ : Names} {ρ : Rho} {p : PV}
theorem Below.lst (ih : Below prog w C lv μ T n) {es : List Expr} (h : sizeOf es ≤ n) : ∀ e ∈ es, Good prog w C lv μ T e := fun e he => ih e (Nat.lt_of_lt_of_le (List.sizeOf_lt_of_mem he) h)
theorem Below.opt (ih : Below prog w C lv μ T n) {o : Option Expr} {z : PV} (ho : sizeOf o ≤ n) (hz : ev T μ (trOpt Γ o) ρ = some z) (A : Around) (E : Value → Shared → Prop) (W : Addr → Prop) (env : Env) (s : Shared) (hr : Room lv A) (hΓ : env.scope.names = Γ) (er : ER C W env s ρ μ) :
    wpAny (model prog w) A (evalPart o env) (fun v s' => Post W s z v s' ∧ s.toks ≤ s'.toks) E s := by
  cases o with
  | none => cases Option.some.inj hz; exact part_none A E W env s hr hΓ er
  | some e => exact part_some ((ih e (Nat.lt_of_lt_of_le (by rw [Option.some.sizeOf_spec]; lia) ho)).1 Γ ρ z hz) A E W env s hr hΓ er
theorem good_un {op : PySem.UnaryOp} {x : Expr} {pos : Pos} (gx : Good prog w C lv μ T x) : Good prog w C lv μ T (.UnaryOp op x pos) := by
  cases op with
  | USub =>
    refine good_value (fun Γ ρ p h => ?_) fun _ _ => rfl
    obtain ⟨i, h1, rfl⟩ := ev_neg h
    exact neg_sound (gx.1 Γ ρ _ h1)
  | Not =>
    refine ⟨fun Γ ρ p h => ?_, fun Γ ρ y b h hb => ?_⟩
    · obtain ⟨q, b, h1, h2, rfl⟩ := ev_not h
      exact not_sound (gx.1 Γ ρ _ h1) h2
    · obtain ⟨q, c, h1, h2, rfl⟩ := ev_not h
      cases Option.some.inj hb
      exact not_st (gx.2 Γ ρ q c h1 h2)
  | _ => exact good_bad fun Γ ρ => rfl
theorem good_bool {op : PySem.BoolOp} {vs : List Expr} {pos : Pos} (H : ∀ e ∈ vs, Good prog w C lv μ T e) : Good prog w C lv μ T (.BoolOp op vs pos) := by
  cases vs with
  | nil => exact good_bad fun Γ ρ => rfl
  | cons a vs => cases vs with
    | nil => exact good_bad fun Γ ρ => rfl
    | cons b vs =>
      refine ⟨fun Γ ρ p h A E W env s hr hΓ er => ?_, fun Γ ρ y b' h hb A E W env s hr hΓ er => ?_⟩
      · rw [arm_eval_BoolOp]
        exact bool_of _ H Γ ρ op p h A E W env s pos hr hΓ er
      · exact wpAny_isTrue_BoolOp (all_of _ H Γ ρ op y b' h hb A E W env s hr hΓ er)
theorem good_cmp {l : Expr} {ops : List CmpOp} {cs : List Expr} {pos : Pos} (gl : Good prog w C lv μ T l) (H : ∀ e ∈ cs, Good prog w C lv μ T e) : Good prog w C lv μ T (.Compare l ops cs pos) := by
  cases ops with
  | nil => exact good_bad fun Γ ρ => rfl
  | cons op ops => cases ops with
    | cons _ _ => exact good_bad fun Γ ρ => rfl
    | nil => cases cs with
      | nil => exact good_bad fun Γ ρ => rfl
      | cons r cs => cases cs with
        | cons _ _ => exact good_bad fun Γ ρ => rfl
        | nil =>
          refine ⟨fun Γ ρ p h => ?_, fun Γ ρ y b h hb => ?_⟩
          · obtain ⟨x, y, h1, h2, h3⟩ := ev_cmp h
            exact cmp_sound (gl.1 Γ ρ x h1) ((H r List.mem_cons_self).1 Γ ρ y h2) h3 (marks_of h2)
          · obtain ⟨x, z, h1, h2, h3⟩ := ev_cmp h
            exact cmp_st (gl.1 Γ ρ x h1) ((H r List.mem_cons_self).1 Γ ρ z h2) h3 hb (marks_of h2)
theorem good_ite {c a b : Expr} {pos : Pos} (gc : Good prog w C lv μ T c) (ga : Good prog w C lv μ T a) (gb : Good prog w C lv μ T b) : Good prog w C lv μ T (.IfExp c a b pos) := by
  refine ⟨fun Γ ρ p h => ?_, fun Γ ρ y r h hb => ?_⟩
  · obtain ⟨x, t, h1, h2, h3⟩ := ev_ite h
    refine ite_sound (gc.2 Γ ρ x t h1 h2) ?_
    cases t
    · exact gb.1 Γ ρ p h3
    · exact ga.1 Γ ρ p h3
  · obtain ⟨x, t, h1, h2, h3⟩ := ev_ite h
    refine ite_st (gc.2 Γ ρ x t h1 h2) ?_
    cases t
    · exact gb.2 Γ ρ y r h3 hb
    · exact ga.2 Γ ρ y r h3 hb
theorem ev_if {c : Prop} [Decidable c] {a : MExpr} (h : ev T μ (if c then a else .bad) ρ = some p) : c ∧ ev T μ a ρ = some p := by
  by_cases hc : c
  · rw [if_pos hc] at h; exact ⟨hc, h⟩
  · rw [if_neg hc] at h; exact no h
theorem good_fcall (hC : CxOk C) (hT : TOk prog w C lv T) {f : Str} {np pos : Pos} {args : List Expr} (H : ∀ e ∈ args, Good prog w C lv μ T e) : Good prog w C lv μ T (.Call (.Name f np) args [] pos) := by
  refine good_value (fun Γ ρ p h => ?_) fun _ _ => rfl
  obtain ⟨hg, h⟩ := ev_if h
  obtain ⟨g1, g2⟩ := Bool.and_eq_true_iff.mp hg
  rw [ev] at h
  cases h1 : evs T μ (trs Γ args) ρ with
  | none => rw [h1] at h; exact no h
  | some xs =>
    rw [h1] at h
    exact call_sound hC hT (evs_of args H Γ ρ xs h1) h1 (beq_iff_eq.mp g1) (by simpa using g2) h
theorem meth_of {o : Expr} {m : Str} {apos pos : Pos} {args : List Expr} (go : Good prog w C lv μ T o) (H : ∀ e ∈ args, Good prog w C lv μ T e) (ho : ∀ f a k q, o ≠ .Call f a k q)
    (h : ev T μ (if (apos.endLine == pos.line && decide (args.length < 20)) = true then .meth (tr Γ o) m (trs Γ args) else .bad) ρ = some p) : SE prog w C lv μ Γ (.Call (.Attribute o m apos) args [] pos) ρ p := by
  obtain ⟨hl, h⟩ := ev_if h
  obtain ⟨l1, l2⟩ := Bool.and_eq_true_iff.mp hl
  obtain ⟨x, xs, h1, h2, h3⟩ := ev_meth h
  exact meth_sound (go.1 Γ ρ x h1) (evs_of args H Γ ρ xs h2) h2 (base_of ho) l1 (decide_eq_true_eq.mp l2) h3
theorem good_mcall {o : Expr} {m : Str} {apos pos : Pos} {args : List Expr} (go : Good prog w C lv μ T o) (H : ∀ e ∈ args, Good prog w C lv μ T e) : Good prog w C lv μ T (.Call (.Attribute o m apos) args [] pos) := by
  refine good_value (fun Γ ρ p h => ?_) fun _ _ => rfl
  cases o with
  | Call _ _ _ _ => exact no h
  | _ => exact meth_of go H nofun h
theorem good_comp1 (hC : CxOk C) (hT : TOk prog w C lv T) {elt t it : Expr} {ifs : List Expr} {sc : Scope} {pos : Pos} (ge : Good prog w C lv μ T elt) (gi : Good prog w C lv μ T it) (gf : ∀ e ∈ ifs, Good prog w C lv μ T e) (h : ev T μ (tr Γ (.ListComp elt [⟨t, it, ifs, 0⟩] sc pos)) ρ = some p) :
    ∃ ys, p = .lst ys ∧ ys.length ≤ SZ ∧ CompS prog w C lv μ Γ elt [⟨t, it, ifs, 0⟩] sc pos ρ ys := by
  obtain ⟨hg, h⟩ := ev_if h
  obtain ⟨g1, g2⟩ := Bool.and_eq_true_iff.mp hg
  exact comp1_sound (pos := pos) g1 g2 (fun ρ p => gi.1 Γ ρ p) (fun ρ p => ge.1 _ ρ p) (fun ρ b => sts_of ifs gf _ ρ b) h
theorem good_comp2 (hC : CxOk C) (hT : TOk prog w C lv T) {elt t it t2 it2 : Expr} {ifs ifs2 : List Expr} {sc : Scope} {pos : Pos} (ge : Good prog w C lv μ T elt) (gi : Good prog w C lv μ T it) (gf : ∀ e ∈ ifs, Good prog w C lv μ T e) (gi2 : Good prog w C lv μ T it2) (gf2 : ∀ e ∈ ifs2, Good prog w C lv μ T e)
    (h : ev T μ (tr Γ (.ListComp elt [⟨t, it, ifs, 0⟩, ⟨t2, it2, ifs2, 0⟩] sc pos)) ρ = some p) : ∃ ys, p = .lst ys ∧ ys.length ≤ SZ ∧ CompS prog w C lv μ Γ elt [⟨t, it, ifs, 0⟩, ⟨t2, it2, ifs2, 0⟩] sc pos ρ ys := by
  obtain ⟨hg, h⟩ := ev_if h
  obtain ⟨hg, g4⟩ := Bool.and_eq_true_iff.mp hg
  obtain ⟨hg, g3⟩ := Bool.and_eq_true_iff.mp hg
  obtain ⟨g1, g2⟩ := Bool.and_eq_true_iff.mp hg
  exact comp2_sound (pos := pos) g1 g2 g3 g4 (fun ρ p => gi.1 Γ ρ p) (fun ρ p => ge.1 _ ρ p) (fun ρ b => sts_of ifs gf _ ρ b) (fun ρ p => gi2.1 _ ρ p) (fun ρ b => sts_of ifs2 gf2 _ ρ b) h
/-- the two kinds of rows of clauses that are told -/
theorem gens_cases {elt : Expr} {gens : List Comprehension} {sc : Scope} {pos : Pos} (h : ev T μ (tr Γ (.ListComp elt gens sc pos)) ρ = some p) :
    (∃ t it ifs, gens = [⟨t, it, ifs, 0⟩]) ∨ ∃ t it ifs t2 it2 ifs2, gens = [⟨t, it, ifs, 0⟩, ⟨t2, it2, ifs2, 0⟩] := by
  cases gens with
  | nil => exact no h
  | cons g gens =>
    obtain ⟨t, it, ifs, as⟩ := g
    cases gens with
    | nil => cases as with
      | negSucc _ => exact no h
      | ofNat k => cases k with
        | succ _ => exact no h
        | zero => exact .inl ⟨t, it, ifs, rfl⟩
    | cons g2 gens =>
      obtain ⟨t2, it2, ifs2, as2⟩ := g2
      cases as with
      | negSucc _ => exact no h
      | ofNat k => cases k with
        | succ _ => exact no h
        | zero => cases as2 with
          | negSucc _ => exact no h
          | ofNat k2 => cases k2 with
            | succ _ => exact no h
            | zero => cases gens with
              | cons _ _ => exact no h
              | nil => exact .inr ⟨t, it, ifs, t2, it2, ifs2, rfl⟩
end

theorem good (hC : CxOk C) (hT : TOk prog w C lv T) : ∀ (n : Nat), Below prog w C lv μ T n := by
  intro n
  induction n with
  | zero => intro e h; exact absurd h (Nat.not_lt_zero _)
  | succ n ih =>
  intro e hn
  cases e with
  | Constant c k pos => exact good_value (fun Γ ρ p h => const_sound h) fun _ _ => rfl
  | Name x pos => exact good_value (fun Γ ρ p h => name_sound' h) fun _ _ => rfl
  | BinOp l op r pos =>
    rw [Expr.BinOp.sizeOf_spec] at hn
    refine good_value (fun Γ ρ p h => ?_) fun _ _ => rfl
    obtain ⟨x, y, h1, h2, h3⟩ := ev_bin h
    exact bin_sound ((ih l (by lia)).1 Γ ρ x h1) ((ih r (by lia)).1 Γ ρ y h2) h3
  | UnaryOp op x pos =>
    rw [Expr.UnaryOp.sizeOf_spec] at hn
    exact good_un (ih x (by lia))
  | BoolOp op vs pos =>
    rw [Expr.BoolOp.sizeOf_spec] at hn
    exact good_bool (ih.lst (by lia))
  | Compare l ops cs pos =>
    rw [Expr.Compare.sizeOf_spec] at hn
    exact good_cmp (ih l (by lia)) (ih.lst (by lia))
  | IfExp c a b pos =>
    rw [Expr.IfExp.sizeOf_spec] at hn
    exact good_ite (ih c (by lia)) (ih a (by lia)) (ih b (by lia))
  | Subscript v sl pos =>
    rw [Expr.Subscript.sizeOf_spec] at hn
    refine good_value (fun Γ ρ p h => ?_) fun _ _ => rfl
    have gv := ih v (by lia)
    by_cases hs : ∃ a b c d, sl = .Slice a b c d
    · obtain ⟨lo, hi, st, q, rfl⟩ := hs
      rw [Expr.Slice.sizeOf_spec] at hn
      obtain ⟨x, l, u, k, h1, h2, h3, h4, h5⟩ := ev_slc h
      exact slc_sound (gv.1 Γ ρ x h1) (ih.opt (by lia) h2) (ih.opt (by lia) h3) (ih.opt (by lia) h4) h5
    · rw [idx_tr fun a b c d e => hs ⟨a, b, c, d, e⟩] at h
      obtain ⟨x, i, h1, h2, h3⟩ := ev_idx h
      exact idx_sound (gv.1 Γ ρ x h1) ((ih sl (by lia)).1 Γ ρ i h2) h3
  | List es pos =>
    rw [Expr.List.sizeOf_spec] at hn
    refine good_value (fun Γ ρ p h => ?_) fun _ _ => rfl
    obtain ⟨xs, h1, h2, rfl⟩ := ev_lst h
    intro A E W env s hr hΓ er
    exact wpAny_mono (list_sound (evs_of es (ih.lst (by lia)) Γ ρ xs h1) h2 hr hΓ er) (fun v s' hp => hp.post er.sr) fun _ _ e => e
  | Tuple es k pos =>
    rw [Expr.Tuple.sizeOf_spec] at hn
    refine good_value (fun Γ ρ p h => ?_) fun _ _ => rfl
    obtain ⟨xs, h1, h2, rfl⟩ := ev_tup h
    intro A E W env s hr hΓ er
    exact tuple_sound (evs_of es (ih.lst (by lia)) Γ ρ xs h1) h2 hr hΓ er
  | Call fn args kws pos =>
    rw [Expr.Call.sizeOf_spec] at hn
    have H := ih.lst (es := args) (by lia)
    cases fn with
    | Name f np =>
      cases kws with
      | nil => exact good_fcall hC hT H
      | cons _ _ => exact good_bad fun Γ ρ => rfl
    | Attribute o m apos =>
      cases kws with
      | nil =>
        rw [Expr.Attribute.sizeOf_spec] at hn
        exact good_mcall (ih o (by lia)) H
      | cons _ _ => exact good_bad fun Γ ρ => rfl
    | _ => exact good_bad fun Γ ρ => rfl
  | JoinedStr vs pos =>
    rw [Expr.JoinedStr.sizeOf_spec] at hn
    refine good_value (fun Γ ρ p h => ?_) fun _ _ => rfl
    obtain ⟨xs, y, h1, h2, h3, h4, rfl⟩ := ev_fstr h
    refine fstr_sound (join_of vs (ih.lst (by lia)) Γ ρ xs y h1 h2) h3 ?_
    rw [trs_len] at h4; exact h4
  | FormattedValue v conv spec pos =>
    rw [Expr.FormattedValue.sizeOf_spec] at hn
    have gv := ih v (by lia)
    cases spec with
    | some _ => cases conv with
      | ofNat _ => exact good_bad fun Γ ρ => rfl
      | negSucc k => cases k <;> exact good_bad fun Γ ρ => rfl
    | none => cases conv with
      | ofNat _ => exact good_bad fun Γ ρ => rfl
      | negSucc k => cases k with
        | succ _ => exact good_bad fun Γ ρ => rfl
        | zero =>
          refine good_value (fun Γ ρ p h => ?_) fun _ _ => rfl
          obtain ⟨x, h1, rfl⟩ := ev_fmt h
          exact fmt_sound (gv.1 Γ ρ _ h1)
  | ListComp elt gens sc pos =>
    rw [Expr.ListComp.sizeOf_spec] at hn
    refine good_value (fun Γ ρ p h => ?_) fun _ _ => rfl
    rcases gens_cases h with ⟨t, it, ifs, rfl⟩ | ⟨t, it, ifs, t2, it2, ifs2, rfl⟩
    · rw [List.cons.sizeOf_spec, Comprehension.mk.sizeOf_spec] at hn
      obtain ⟨ys, rfl, _, hs⟩ := good_comp1 hC hT (ih elt (by lia)) (ih it (by lia)) (ih.lst (by lia)) h
      exact compS_se hs
    · rw [List.cons.sizeOf_spec, List.cons.sizeOf_spec, Comprehension.mk.sizeOf_spec, Comprehension.mk.sizeOf_spec] at hn
      obtain ⟨ys, rfl, _, hs⟩ := good_comp2 hC hT (ih elt (by lia)) (ih it (by lia)) (ih.lst (by lia)) (ih it2 (by lia)) (ih.lst (by lia)) h
      exact compS_se hs
  | _ => exact good_bad fun Γ ρ => rfl

theorem ev_sound (hC : CxOk C) (hT : TOk prog w C lv T) {e : Expr} {Γ : Names} {ρ : Rho} {p : PV} (h : ev T μ (tr Γ e) ρ = some p) : SE prog w C lv μ Γ e ρ p := (good hC hT _ e (Nat.lt_succ_self _)).1 Γ ρ p h
theorem st_sound (hC : CxOk C) (hT : TOk prog w C lv T) {e : Expr} {Γ : Names} {ρ : Rho} {x : PV} {b : Bool} (h : ev T μ (tr Γ e) ρ = some x) (hb : truth x = some b) : ST prog w C lv μ Γ e ρ b := (good hC hT _ e (Nat.lt_succ_self _)).2 Γ ρ x b h hb
theorem evs_sound (hC : CxOk C) (hT : TOk prog w C lv T) {es : List Expr} {Γ : Names} {ρ : Rho} {ps : List PV} (h : evs T μ (trs Γ es) ρ = some ps) : SEs prog w C lv μ Γ es ρ ps := evs_of es (fun e _ => good hC hT _ e (Nat.lt_succ_self _)) Γ ρ ps h
/-- a comprehension by itself -/
theorem comp_sound (hC : CxOk C) (hT : TOk prog w C lv T) {elt : Expr} {gens : List Comprehension} {sc : Scope} {pos : Pos} {Γ : Names} {ρ : Rho} {p : PV} (h : ev T μ (tr Γ (.ListComp elt gens sc pos)) ρ = some p) :
    ∃ ys, p = .lst ys ∧ ys.length ≤ SZ ∧ CompS prog w C lv μ Γ elt gens sc pos ρ ys := by
  have G : ∀ e, Good prog w C lv μ T e := fun e => good hC hT _ e (Nat.lt_succ_self _)
  rcases gens_cases h with ⟨t, it, ifs, rfl⟩ | ⟨t, it, ifs, t2, it2, ifs2, rfl⟩
  · exact good_comp1 hC hT (G _) (G _) (fun e _ => G e) h
  · exact good_comp2 hC hT (G _) (G _) (fun e _ => G e) (G _) (fun e _ => G e) h
end
end Mine
end

section
open PySem PySem.W PyProof.Rows PySem.SeqAt
set_option linter.unusedVariables false
namespace Mine

inductive Ctl where
  | next
  | brk
  | ret (p : PV)

/-- what a running function may write: its table of names, its cells, its lists -/
noncomputable def Wof (env : Env) (μ : Mu) : Addr → Prop := fun a => a = env.locals ∨ (∃ x, env.cells.lookup x = some a) ∨ (μ a).isSome = true

/-- a function's state, told: V is what its callers may write, G what stays -/
structure FR (C : Cx) (env : Env) (V : Addr → Prop) (G : Gr) (s₀ s : Shared) (ρ : Rho) (μ : Mu) : Prop where
  er : ER C (fun a => Wof env μ a ∨ V a) env s ρ μ
  ns : ∃ m, s.heap.Ns env.locals m
  shape : ∃ h tk, s = { s₀ with heap := h, toks := tk }
  prot : ∀ a o, G a o → s.heap.get? a = some o
  apart : ∀ a o, G a o → ¬ Wof env μ a
  vd : ∀ a, V a → ¬ Wof env μ a

noncomputable def FlowOk (W : Addr → Prop) (s : Shared) (fl : Flow) : Ctl → Prop
  | .next => fl = .next
  | .brk => fl = .brk
  | .ret p => ∃ v, fl = .ret v ∧ Rep (frz s.heap W) p v

noncomputable abbrev CPost := Ctl → Rho → Mu → Prop

inductive Out (C : Cx) (env : Env) (V : Addr → Prop) (G : Gr) (s₀ : Shared) (R : CPost) (fl : Flow) (s' : Shared) : Prop
  | mk (c : Ctl) (ρ' : Rho) (μ' : Mu) (hR : R c ρ' μ') (hf : FlowOk (fun a => Wof env μ' a ∨ V a) s' fl c) (fr : FR C env V G s₀ s' ρ' μ')

noncomputable def Sat1 (prog : Program) (w : World) (C : Cx) (lv : Nat) (Γ : Names) (m : MStmt) (ρ : Rho) (μ : Mu) (R : CPost) : Prop :=
  ∀ (st : Stmt), trS Γ st = m → ∀ (A : Around) (E : Value → Shared → Prop) (V : Addr → Prop) (env : Env) (G : Gr) (s₀ s : Shared), Room lv A → env.scope.names = Γ → FR C env V G s₀ s ρ μ →
    wpAny (model prog w) A (exec st env) (Out C env V G s₀ R) E s
noncomputable def SatM (prog : Program) (w : World) (C : Cx) (lv : Nat) (Γ : Names) (ms : List MStmt) (ρ : Rho) (μ : Mu) (R : CPost) : Prop :=
  ∀ (ss : List Stmt), trSs Γ ss = ms → ∀ (A : Around) (E : Value → Shared → Prop) (V : Addr → Prop) (env : Env) (G : Gr) (s₀ s : Shared), Room lv A → env.scope.names = Γ → FR C env V G s₀ s ρ μ →
    wpAny (model prog w) A (execs ss env) (Out C env V G s₀ R) E s

/-- what comes behind a statement -/
noncomputable def Then (prog : Program) (w : World) (C : Cx) (lv : Nat) (Γ : Names) (ms : List MStmt) (R : CPost) : CPost
  | .next, ρ, μ => SatM prog w C lv Γ ms ρ μ R
  | c, ρ, μ => R c ρ μ

section
variable {prog : Program} {w : World} {C : Cx} {lv : Nat} {Γ : Names} {A : Around} {E : Value → Shared → Prop} {V : Addr → Prop} {env : Env} {G : Gr} {s₀ s s₁ : Shared} {ρ ρ' : Rho} {μ μ' : Mu} {R R' : CPost} {T : Str → List PV → Option PV}

theorem sat_nil (h : R .next ρ μ) : SatM prog w C lv Γ [] ρ μ R := by
  intro ss hss A E V env G s₀ s hr hΓ fr
  cases ss with
  | nil => exact wpAny_execs_nil ⟨.next, ρ, μ, h, rfl, fr⟩
  | cons _ _ => simp [trSs] at hss

theorem sat_cons {m : MStmt} {ms : List MStmt} (h : Sat1 prog w C lv Γ m ρ μ (Then prog w C lv Γ ms R)) : SatM prog w C lv Γ (m :: ms) ρ μ R := by
  intro ss hss A E V env G s₀ s hr hΓ fr
  cases ss with
  | nil => simp [trSs] at hss
  | cons st ss =>
    rw [trSs] at hss
    injection hss with h1 h2
    refine wpAny_execs_cons (wpAny_mono (h st h1 A E V env G s₀ s hr hΓ fr) (fun fl s' ho => ?_) fun _ _ e => e)
    obtain ⟨c, ρ', μ', hR, hfl, fr'⟩ := ho
    cases c with
    | next =>
      have : fl = .next := hfl
      subst this
      exact hR ss h2 A E V env G s₀ s' hr hΓ fr'
    | brk =>
      have : fl = .brk := hfl
      subst this
      exact ⟨.brk, ρ', μ', hR, rfl, fr'⟩
    | ret p =>
      obtain ⟨v, rfl, rv⟩ := hfl
      exact ⟨.ret p, ρ', μ', hR, ⟨v, rfl, rv⟩, fr'⟩

theorem Out.mono {fl : Flow} (h : Out C env V G s₀ R fl s) (hR : ∀ c ρ μ, R c ρ μ → R' c ρ μ) : Out C env V G s₀ R' fl s := by
  obtain ⟨c, ρ', μ', h1, h2, h3⟩ := h
  exact ⟨c, ρ', μ', hR _ _ _ h1, h2, h3⟩
theorem SatM.mono {ms : List MStmt} (h : SatM prog w C lv Γ ms ρ μ R) (hR : ∀ c ρ μ, R c ρ μ → R' c ρ μ) : SatM prog w C lv Γ ms ρ μ R' :=
  fun ss hss A E V env G s₀ s hr hΓ fr => wpAny_mono (h ss hss A E V env G s₀ s hr hΓ fr) (fun fl s' ho => ho.mono hR) fun _ _ e => e

theorem FR.keeps (fr : FR C env V G s₀ s ρ μ) (k : Keeps s s₁) (ht : s.toks ≤ s₁.toks) : FR C env V G s₀ s₁ ρ μ := by
  obtain ⟨m, hm⟩ := fr.ns
  obtain ⟨h, tk, rfl⟩ := fr.shape
  refine ⟨fr.er.keeps k ht, ⟨m, hm.keeps (Keeps.k k)⟩, ?_, fun a o g => Keeps.k k _ _ (fr.prot a o g), fr.apart, fr.vd⟩
  obtain ⟨h1, t1, rfl, _⟩ := k
  exact ⟨h1, t1, rfl⟩

/-- within the function's own writable things a step was made -/
theorem FR.step {M : Addr → Prop} (fr : FR C env V G s₀ s ρ μ) (kb : KB M s s₁) (hM : ∀ a, M a → Wof env μ a) (er : ER C (fun a => Wof env μ' a ∨ V a) env s₁ ρ' μ') (ns : ∃ m, s₁.heap.Ns env.locals m)
    (hμ : ∀ a, (μ' a).isSome = true → (μ a).isSome = true ∨ s.heap.get? a = none) : FR C env V G s₀ s₁ ρ' μ' := by
  obtain ⟨h, tk, rfl⟩ := fr.shape
  refine ⟨er, ns, ?_, fun a o g => kb.2.1 a o (fun hm => fr.apart a o g (hM a hm)) (fr.prot a o g), fun a o g hw => ?_, fun a hv hw => ?_⟩
  · obtain ⟨⟨h1, t1, rfl⟩, _, _⟩ := kb; exact ⟨h1, t1, rfl⟩
  · rcases hw with h1 | h1 | h1
    · exact fr.apart a o g (.inl h1)
    · exact fr.apart a o g (.inr (.inl h1))
    · rcases hμ a h1 with h2 | h2
      · exact fr.apart a o g (.inr (.inr h2))
      · rw [fr.prot a o g] at h2; cases h2
  · rcases hw with h1 | h1 | h1
    · exact fr.vd a hv (.inl h1)
    · exact fr.vd a hv (.inr (.inl h1))
    · rcases hμ a h1 with h2 | h2
      · exact fr.vd a hv (.inr (.inr h2))
      · obtain ⟨o, ho⟩ := fr.er.sr.wl a (.inr hv)
        first | exact clash ho h2 | (rw [ho] at h2; cases h2)

noncomputable def ownOf (Γ : Names) (x : Str) : Prop := Γ.lookup x = some .local ∨ Γ.lookup x = some .cell

theorem slot_W (fr : FR C env V G s₀ s ρ μ) (hΓ : env.scope.names = Γ) {x : Str} (hx : ownOf Γ x) : (env.kindOf x = some .local ∨ env.kindOf x = some .cell) ∧ Wof env μ (slotOf env x) := by
  have hk : env.kindOf x = some .local ∨ env.kindOf x = some .cell := by
    rcases hx with h | h
    · exact .inl (by show env.scope.names.lookup x = _; rw [hΓ]; exact h)
    · exact .inr (by show env.scope.names.lookup x = _; rw [hΓ]; exact h)
  refine ⟨hk, ?_⟩
  rcases hk with hk | hk
  · exact .inl (by simp [slotOf, hk])
  · obtain ⟨c, cv, hc, _⟩ := fr.er.has x (.inl hk)
    exact .inr (.inl ⟨x, by simp [slotOf, hk, hc]⟩)

/-- a name is bound -/
theorem fr_store {x : Str} {p : PV} {v : Value} (fr : FR C env V G s₀ s ρ μ) (hΓ : env.scope.names = Γ) (hx : ownOf Γ x) (rv : Rep (frz s.heap (fun a => Wof env μ a ∨ V a)) p v) :
    wpAny (model prog w) A (storeName env x v) (fun _ s' => FR C env V G s₀ s' (upd ρ x p) μ) E s := by
  obtain ⟨hk, hw⟩ := slot_W fr hΓ hx
  refine wpAny_mono (store_KB (M := fun a => a = slotOf env x) fr.er fr.ns hk (.inl hw) rfl rv) (fun _ s' h => ?_) fun _ _ e => e
  exact fr.step h.1 (fun a ha => ha ▸ hw) h.2.1 h.2.2 fun a ha => .inl ha

theorem fr_assign {tgt : Expr} {q : PV} {v : Value} (fr : FR C env V G s₀ s ρ μ) (hr : Room lv A) (hΓ : env.scope.names = Γ) (hb : bindT ρ (trTgt tgt) q = some ρ') (hx : ∀ x ∈ tgtNames (trTgt tgt), ownOf Γ x) (rv : Rep (frz s.heap (fun a => Wof env μ a ∨ V a)) q v) :
    wpAny (model prog w) A (assign tgt env v) (fun _ s' => FR C env V G s₀ s' ρ' μ) E s := by
  refine wpAny_mono (assign_sound (M := fun b => ∃ x ∈ tgtNames (trTgt tgt), b = slotOf env x) hr.hd hb fr.er fr.ns (fun x hxx => ?_) (fun b ⟨x, hxx, e⟩ => ?_) rv) (fun _ s' h => ?_) fun _ _ e => e
  · obtain ⟨hk, hw⟩ := slot_W fr hΓ (hx x hxx)
    exact ⟨hk, .inl hw, x, hxx, rfl⟩
  · subst e; exact .inl (slot_W fr hΓ (hx x hxx)).2
  · exact fr.step h.1 (fun a ⟨x, hxx, e⟩ => e ▸ (slot_W fr hΓ (hx x hxx)).2) h.2.1 h.2.2 fun a ha => .inl ha

theorem FR.evStep {e : Expr} {p : PV} {Q : Value → Shared → Prop} (hC : CxOk C) (hT : TOk prog w C lv T) (fr : FR C env V G s₀ s ρ μ) (hr : Room lv A) (hΓ : env.scope.names = Γ) (h : ev T μ (tr Γ e) ρ = some p)
    (k : ∀ v s₁, FR C env V G s₀ s₁ ρ μ → Rep (frz s₁.heap (fun a => Wof env μ a ∨ V a)) p v → Q v s₁) : wpAny (model prog w) A (eval e env) Q E s :=
  wpAny_with_toks (n := s.toks) (Nat.le_refl _) (wpAny_mono (ev_sound hC hT h A _ _ env s hr hΓ fr.er) (fun v s₁ h₁ ht => k v s₁ (fr.keeps h₁.1 ht) h₁.2) fun _ _ e => e)
theorem FR.stStep {e : Expr} {x : PV} {b : Bool} {Q : Bool → Shared → Prop} (hC : CxOk C) (hT : TOk prog w C lv T) (fr : FR C env V G s₀ s ρ μ) (hr : Room lv A) (hΓ : env.scope.names = Γ) (h : ev T μ (tr Γ e) ρ = some x) (hb : truth x = some b)
    (k : ∀ s₁, FR C env V G s₀ s₁ ρ μ → Q b s₁) : wpAny (model prog w) A (PySem.isTrue e env (eval e env)) Q E s :=
  wpAny_with_toks (n := s.toks) (Nat.le_refl _) (wpAny_mono (st_sound hC hT h hb A _ _ env s hr hΓ fr.er) (fun v s₁ h₁ ht => by obtain ⟨rfl, k1⟩ := h₁; exact k s₁ (fr.keeps k1 ht)) fun _ _ e => e)

theorem swaps_pure (v : Expr) (x : Str) (px : Pos) (l : Nat) (env : Env) : (swapsWith v (some (.Name x px)) l env = pure false) ∨ ((∃ b, swapsWith v (some (.Name x px)) l env = pure b) ∧ (tr Γ v = .bad ∨ ∃ a b c d, v = .ListComp a b c d)) := by
  cases v with
  | ListComp a b c d => exact .inr ⟨⟨_, rfl⟩, .inr ⟨a, b, c, d, rfl⟩⟩
  | SetComp _ _ _ _ => exact .inr ⟨⟨_, rfl⟩, .inl rfl⟩
  | DictComp _ _ _ _ _ => exact .inr ⟨⟨_, rfl⟩, .inl rfl⟩
  | _ => exact .inl rfl

theorem er_drop {W W' : Addr → Prop} {a : Addr} {h' : Heap} {tk : Nat} (er : ER C W env s ρ μ) (hk : ∀ b o, b ≠ a → s.heap.get? b = some o → h'.get? b = some o) (htk : s.toks ≤ tk) (hw : W a) (hl : env.locals ≠ a)
    (hcell : ∀ x c, env.cells.lookup x = some c → c ≠ a) (hμ : μ a = none) (hW : ∀ b, W' b → W b ∧ b ≠ a) : ER C W' env { s with heap := h', toks := tk } ρ μ := by
  have hf : ∀ b o, frz s.heap W b o → frz h' W' b o := fun b o x => ⟨hk b o (fun e => x.2 (e ▸ hw)) x.1, fun h => x.2 (hW b h).1⟩
  refine ⟨er.kind, er.gl, er.bl, fun b o e => hk b o (fun eb => ?_) (er.base b o e), fun b hb => er.wb b (hW b hb).1, ⟨fun b hb => ?_, fun b xs hx => ?_⟩, fun x p hx => ?_, Nat.le_trans er.tk htk, fun x hx => ?_, er.apart, fun x c hc => ?_⟩
  · have := er.wb a hw; rw [← eb, e] at this; cases this
  · obtain ⟨o, ho⟩ := er.sr.wl b (hW b hb).1; exact ⟨o, hk b o (hW b hb).2 ho⟩
  · obtain ⟨us, j, h1, h2, h3⟩ := er.sr.ls b xs hx
    exact ⟨us, j, hk _ _ (fun ea => by rw [ea, hμ] at hx; cases hx) h1, h2, Reps.mono hf _ _ h3⟩
  · obtain ⟨v, h1, h2⟩ := er.vars x p hx
    refine ⟨v, ?_, Rep.mono hf _ _ h2⟩
    rcases h1 with ⟨k1, m1, hn1, hm1⟩ | ⟨k1, c, hc, hi⟩
    · exact .inl ⟨k1, m1, hn1.at' fun o e => hk _ o hl e, hm1⟩
    · obtain ⟨o, ho, hd'⟩ := hi
      exact .inr ⟨k1, c, hc, o, hk _ _ (hcell x c hc) ho, hd'⟩
  · obtain ⟨c, cv, h1, o, ho, hd'⟩ := er.has x hx
    exact ⟨c, cv, h1, o, hk _ _ (hcell x c h1) ho, hd'⟩
  · obtain ⟨cv, o, ho, hd'⟩ := er.cel x c hc
    exact ⟨cv, o, hk _ _ (hcell x c hc) ho, hd'⟩

theorem exec_assign {x : Str} {px pos : Pos} {v : Expr} {p : PV} (hC : CxOk C) (hT : TOk prog w C lv T) (fr : FR C env V G s₀ s ρ μ) (hr : Room lv A) (hΓ : env.scope.names = Γ) (hx : ownOf Γ x) (h : ev T μ (tr Γ v) ρ = some p) :
    wpAny (model prog w) A (exec (.Assign [.Name x px] v pos) env) (fun fl s' => fl = .next ∧ FR C env V G s₀ s' (upd ρ x p) μ) E s := by
  have hsw : ∃ b, swapsWith v (some (.Name x px)) pos.line env = pure b ∧ (b = true → ∃ a b c d, v = .ListComp a b c d) := by
    rcases swaps_pure (Γ := Γ) v x px pos.line env with hb | ⟨⟨b, hb⟩, hv | hv⟩
    · exact ⟨false, hb, fun h => by cases h⟩
    · rw [hv] at h; exact no h
    · exact ⟨b, hb, fun _ => hv⟩
  obtain ⟨b, hb, hlc⟩ := hsw
  cases b with
  | false =>
    rw [PySem.exec_Assign_Name (hs := hb)]
    refine wpAny_bind (wpAny_standAt (wpAny_bind (fr.evStep hC hT hr hΓ h fun v s₁ fr1 rv => wpAny_bind (wpAny_standAt (wpAny_bind (wpAny_bindName ?_))))))
    exact wpAny_mono (fr_store fr1 hΓ hx rv) (fun _ s' h' => wpAny_pure ⟨rfl, h'⟩) fun _ _ e => e
  | true =>
    obtain ⟨elt, gens, sc, q, rfl⟩ := hlc rfl
    obtain ⟨ys, rfl, hys, hcs⟩ := comp_sound hC hT h
    rw [PySem.exec_Assign_Name_used (hs := hb)]
    refine wpAny_bind (wpAny_standAt (wpAny_bind ?_))
    show wpAny _ A (comprehension (.ListComp elt gens sc q) sc env (firstIterPos gens q) (newList []) (firstAsync gens) (firstIter gens env) (some (assign (.Name x px) env)) >>= fun _ => pure ()) _ _ s
    obtain ⟨hk, hw⟩ := slot_W fr hΓ hx
    refine wpAny_bind (hcs A E _ env s (some (assign (.Name x px) env)) _ _ hr hΓ fr.er fun s' L D m vs n K htk hL hD hLD hns hd hl hrp => ?_)
    have fr' := fr.keeps K htk
    have hLo : ∃ o, s'.heap.get? L = some o := by obtain ⟨o, _, _, ho, _⟩ := hns; exact ⟨o, ho⟩
    have er1 : ER C (fun a => (Wof env μ a ∨ V a) ∨ a = L) env s' ρ μ := fr.er.extend K htk fun a ha => by
      rcases ha with ha | rfl
      · exact .inl ha
      · exact .inr ⟨hL, hLo⟩
    have hDW : ¬ (Wof env μ D ∨ V D) := fun hw => by obtain ⟨o, ho⟩ := fr.er.sr.wl D hw; first | exact clash hD ho | (rw [hD] at ho; cases ho)
    have rv : Rep (frz s'.heap (fun a => (Wof env μ a ∨ V a) ∨ a = L)) (.lst ys) (.ref D) :=
      rep_lst.mpr ⟨D, vs, n, rfl, ⟨hd, fun h => h.elim hDW (Ne.symm hLD)⟩, hl, Reps.mono (fun a o z => ⟨z.1, fun h => z.2 (h.elim .inl fun e => .inr (.inl e))⟩) _ _ hrp⟩
    show wpAny _ A (assign (.Name x px) env (.ref D)) _ _ _
    refine wpAny_assign_Name (wpAny_mono (store_KB (M := fun a => a = slotOf env x) er1 fr'.ns hk (.inl (.inl hw)) rfl rv) (fun _ s'' h'' => ?_) fun _ _ e => e)
    obtain ⟨kb, er2, ns2⟩ := h''
    have hLs : L ≠ slotOf env x := by
      rintro e
      obtain ⟨o, ho⟩ := fr.er.sr.wl (slotOf env x) (.inl hw)
      rw [← e, hL] at ho; cases ho
    have hLl : env.locals ≠ L := by
      rintro e
      obtain ⟨m1, o, _, _, ho, _⟩ := fr.ns
      rw [e, hL] at ho; cases ho
    have hLc : ∀ y c, env.cells.lookup y = some c → c ≠ L := by
      rintro y c hc rfl
      obtain ⟨cv, o, ho, _⟩ := fr.er.cel y c hc
      first | exact clash hL ho | (rw [hL] at ho; cases ho)
    have hLμ : μ L = none := by
      cases e : μ L with
      | none => rfl
      | some xs => obtain ⟨vs, n, h1, _⟩ := fr.er.sr.ls L xs e; first | exact clash hL h1 | (rw [hL] at h1; cases h1)
    refine ⟨m, hns.at' fun o e => kb.2.1 _ o hLs e, fun h' hs' => wpAny_pure (wpAny_pure ⟨rfl, ?_⟩)⟩
    have er3 := er_drop (W' := fun a => Wof env μ a ∨ V a) (a := L) (h' := h') (tk := s''.toks) er2 (fun b o hb e => hs'.extBut b o hb e) (Nat.le_refl _) (.inr rfl) hLl hLc hLμ (fun a ha => ⟨.inl ha, fun e => by
      obtain ⟨o, ho⟩ := fr.er.sr.wl a ha
      rw [e, hL] at ho; cases ho⟩)
    have kb2 : KB (fun a => a = slotOf env x ∨ a = L) s' { s'' with heap := h' } := by
      obtain ⟨⟨h1, t1, rfl⟩, k1, l1⟩ := kb
      exact ⟨⟨h', t1, rfl⟩, fun b o hb e => hs'.extBut b o (fun e => hb (.inr e)) (k1 b o (fun e => hb (.inl e)) e), l1⟩
    have kb3 : KB (fun a => a = slotOf env x) s { s'' with heap := h' } := by
      obtain ⟨⟨h1, t1, e1⟩, k1, l1⟩ := kb2
      refine ⟨?_, fun b o hb e => k1 b o (fun hh => hh.elim hb fun e' => by rw [e', hL] at e; cases e) (Keeps.k K b o e), Nat.le_trans htk l1⟩
      obtain ⟨h2, t2, rfl, _⟩ := K
      exact ⟨h1, t1, e1⟩
    obtain ⟨m2, hm2⟩ := ns2
    exact fr.step kb3 (fun a ha => ha ▸ hw) er3 ⟨m2, hm2.at' fun o e => hs'.extBut _ o hLl e⟩ fun a ha => .inl ha
end
end Mine
end

section
open PySem PySem.W PyProof.Rows PySem.SeqAt
set_option linter.unusedVariables false
namespace Mine

noncomputable def muSet (μ : Mu) (a : Addr) (xs : List PV) : Mu := fun b => if b = a then some xs else μ b

section
variable {prog : Program} {w : World} {C : Cx} {lv : Nat} {Γ : Names} {A : Around} {E : Value → Shared → Prop} {V : Addr → Prop} {env : Env} {G : Gr} {s₀ s s₁ : Shared} {ρ ρ' : Rho} {μ μ' : Mu} {R R' : CPost} {T : Str → List PV → Option PV}

theorem sat_assign {x : Str} {e : MExpr} (p : PV) (hC : CxOk C) (hT : TOk prog w C lv T) (hx : ownOf Γ x) (h : ev T μ e ρ = some p) (hR : R .next (upd ρ x p) μ) : Sat1 prog w C lv Γ (.assign x e) ρ μ R := by
  intro st hst A E V env G s₀ s hr hΓ fr
  obtain ⟨px, v, pos, rfl, rfl⟩ := inv_assign hst
  exact wpAny_mono (exec_assign hC hT fr hr hΓ hx h) (fun fl s' h' => ⟨.next, _, _, hR, h'.1, h'.2⟩) fun _ _ e => e

/-- a new address, told in no map -/
theorem fresh_mu (fr : FR C env V G s₀ s ρ μ) {a : Addr} (ha : s.heap.get? a = none) : μ a = none := by
  cases e : μ a with
  | none => rfl
  | some xs => obtain ⟨vs, n, h1, _⟩ := fr.er.sr.ls a xs e; first | exact clash ha h1 | (rw [ha] at h1; cases h1)

theorem er_own {W : Addr → Prop} {a : Addr} {vs : List Value} {n : Nat} {xs : List PV} (er : ER C W env s ρ μ) (k : Keeps s s₁) (ht : s.toks ≤ s₁.toks) (ha : s.heap.get? a = none) (ha1 : s₁.heap.get? a = some (lObj vs n)) (hl : vs.length ≤ SZ)
    (hrp : Reps (frz s₁.heap (fun b => W b ∨ b = a)) xs vs) : ER C (fun b => W b ∨ b = a) env s₁ ρ (muSet μ a xs) := by
  have ex := er.extend (W' := fun b => W b ∨ b = a) k ht fun b hb => by
    rcases hb with hb | rfl
    · exact .inl hb
    · exact .inr ⟨ha, _, ha1⟩
  refine { ex with sr := ⟨ex.sr.wl, fun b ys hb => ?_⟩ }
  unfold muSet at hb
  split at hb
  · rename_i e; cases hb; subst e; exact ⟨vs, n, ha1, hl, hrp⟩
  · exact ex.sr.ls b ys hb

theorem Wof_set {a : Addr} {xs : List PV} : ∀ b, (Wof env (muSet μ a xs) b ∨ V b) ↔ ((Wof env μ b ∨ V b) ∨ b = a) := by
  intro b
  unfold Wof muSet
  by_cases e : b = a
  · subst e; simp
  · simp [e]

theorem er_congr {W W' : Addr → Prop} (er : ER C W env s ρ μ) (h : ∀ a, W a ↔ W' a) : ER C W' env s ρ μ := by
  have : W = W' := funext fun a => propext (h a)
  subst this; exact er
theorem rep_congr {W W' : Addr → Prop} {h : Heap} {p : PV} {v : Value} (r : Rep (frz h W) p v) (e : ∀ a, W' a → W a) : Rep (frz h W') p v := Rep.mono (fun a o x => ⟨x.1, fun hw => x.2 (e a hw)⟩) _ _ r

/-- a list display, made anew: it may be written -/
theorem sat_own {x : Str} {es : List MExpr} (xs : List PV) (hC : CxOk C) (hT : TOk prog w C lv T) (hx : ownOf Γ x) (h : evs T μ es ρ = some xs) (hl : xs.length ≤ SZ) (hR : ∀ a, μ a = none → R .next (upd ρ x (.own a)) (muSet μ a xs)) : Sat1 prog w C lv Γ (.assign x (.lst es)) ρ μ R := by
  intro st hst A E V env G s₀ s hr hΓ fr
  obtain ⟨px, v, pos, rfl, hv⟩ := inv_assign hst
  obtain ⟨es', q, rfl, rfl⟩ := inv_lst hv
  rw [PySem.exec_Assign_Name (hs := rfl)]
  refine wpAny_bind (wpAny_standAt (wpAny_bind (wpAny_with_toks (n := s.toks) (Nat.le_refl _) (wpAny_mono (list_sound (evs_sound hC hT h) hl hr hΓ fr.er) (fun v s₁ h₁ htk => ?_) fun _ _ e _ => e))))
  obtain ⟨k, a, vs, n, rfl, ha, ha1, hvl, hrp⟩ := h₁
  have ha0 : ¬ (Wof env μ a ∨ V a) := fun hw => by obtain ⟨o, ho⟩ := fr.er.sr.wl a hw; first | exact clash ha ho | (rw [ha] at ho; cases ho)
  have er1 := er_congr (er_own fr.er k htk ha ha1 hvl hrp) fun b => (Wof_set (V := V) (env := env) (μ := μ) (a := a) (xs := xs) b).symm
  have kb1 : KB (fun _ => False) s s₁ := KB.of_keeps k htk
  obtain ⟨m, hm⟩ := fr.ns
  have fr1 : FR C env V G s₀ s₁ ρ (muSet μ a xs) := fr.step kb1 (fun _ h => h.elim) er1 ⟨m, hm.keeps (Keeps.k k)⟩ fun b hb => by
    unfold muSet at hb
    split at hb
    · rename_i e; subst e; exact .inr ha
    · exact .inl hb
  refine wpAny_bind (wpAny_standAt (wpAny_bind (wpAny_bindName ?_)))
  exact wpAny_mono (fr_store fr1 hΓ hx (rep_own.mpr rfl)) (fun _ s' h' => wpAny_pure ⟨.next, _, _, hR a (fresh_mu fr ha), rfl, h'⟩) fun _ _ e => e

theorem sat_if {c : MExpr} {a b : List MStmt} (t : Bool) {x : PV} (hC : CxOk C) (hT : TOk prog w C lv T) (h : ev T μ c ρ = some x) (hb : truth x = some t) (hR : SatM prog w C lv Γ (if t then a else b) ρ μ R) : Sat1 prog w C lv Γ (.if_ c a b) ρ μ R := by
  intro st hst A E V env G s₀ s hr hΓ fr
  obtain ⟨c', a', b', pos, rfl, rfl, rfl, rfl⟩ := inv_if hst
  refine wpAny_If (fr.stStep hC hT hr hΓ h hb fun s₁ fr1 => ?_)
  cases t
  · exact hR b' rfl A E V env G s₀ s₁ hr hΓ fr1
  · exact hR a' rfl A E V env G s₀ s₁ hr hΓ fr1
theorem sat_ret {e : MExpr} (p : PV) (hC : CxOk C) (hT : TOk prog w C lv T) (h : ev T μ e ρ = some p) (hR : R (.ret p) ρ μ) : Sat1 prog w C lv Γ (.ret e) ρ μ R := by
  intro st hst A E V env G s₀ s hr hΓ fr
  obtain ⟨e', pos, rfl, rfl⟩ := inv_ret hst
  exact wpAny_Return_some (fr.evStep hC hT hr hΓ h fun v s₁ fr1 rv => ⟨.ret p, ρ, μ, hR, ⟨v, rfl, rv⟩, fr1⟩)
theorem sat_brk (hR : R .brk ρ μ) : Sat1 prog w C lv Γ .brk ρ μ R := by
  intro st hst A E V env G s₀ s hr hΓ fr
  obtain ⟨pos, rfl⟩ := inv_brk hst
  exact wpAny_bind (wpAny_standAt (wpAny_pure ⟨.brk, ρ, μ, hR, rfl, fr⟩))
theorem sat_assert {c : MExpr} {x : PV} (hC : CxOk C) (hT : TOk prog w C lv T) (h : ev T μ c ρ = some x) (hb : truth x = some true) (hR : R .next ρ μ) : Sat1 prog w C lv Γ (.assert_ c) ρ μ R := by
  intro st hst A E V env G s₀ s hr hΓ fr
  obtain ⟨e', pos, rfl, rfl⟩ := inv_assert hst
  exact wpAny_Assert_holds (fr.stStep hC hT hr hΓ h hb fun s₁ fr1 => ⟨rfl, .next, ρ, μ, hR, rfl, fr1⟩)

/-- how a loop's body ends -/
noncomputable def Loop (K : Rho → Mu → Prop) (R : CPost) (N : Rho → Mu → Prop) : CPost
  | .next, ρ, μ => N ρ μ
  | .brk, ρ, μ => K ρ μ
  | .ret p, ρ, μ => R (.ret p) ρ μ

theorem sat_while {c : MExpr} {b : List MStmt} (I : Nat → Rho → Mu → Prop) (n : Nat) (hC : CxOk C) (hT : TOk prog w C lv T) (h0 : I n ρ μ)
    (turn : ∀ n ρ μ, I n ρ μ → ∃ x t, ev T μ c ρ = some x ∧ truth x = some t ∧ if t then SatM prog w C lv Γ b ρ μ (Loop (R .next) R fun ρ' μ' => ∃ m, m < n ∧ I m ρ' μ') else R .next ρ μ) :
    Sat1 prog w C lv Γ (.while_ c b) ρ μ R := by
  intro st hst A E V env G s₀ s hr hΓ fr
  obtain ⟨c', b', pos, rfl, rfl, rfl⟩ := inv_while hst
  refine wpAny_While (codeAny_whileLoop (fun n s => ∃ ρ μ, I n ρ μ ∧ FR C env V G s₀ s ρ μ) (fun n s hI => ?_) n ⟨ρ, μ, h0, fr⟩)
  obtain ⟨ρ, μ, hI, fr⟩ := hI
  obtain ⟨x, t, h1, h2, h3⟩ := turn n ρ μ hI
  refine fr.stStep hC hT hr hΓ h1 h2 fun s₁ fr1 => ?_
  cases t with
  | false =>
    simp only [Bool.false_eq_true, if_false] at h3 ⊢
    exact wpAny_execs_nil ⟨.next, ρ, μ, h3, rfl, fr1⟩
  | true =>
    simp only [if_true] at h3 ⊢
    refine wpAny_mono (h3 b' rfl A _ V env G s₀ s₁ hr hΓ fr1) (fun fl s' ho => ?_) fun _ _ e => e
    obtain ⟨c, ρ', μ', hR, hfl, fr'⟩ := ho
    cases c with
    | next =>
      have : fl = .next := hfl
      subst this
      obtain ⟨m, hm, hI'⟩ := hR
      exact ⟨m, hm, ρ', μ', hI', fr'⟩
    | brk =>
      have : fl = .brk := hfl
      subst this
      exact ⟨.next, ρ', μ', hR, rfl, fr'⟩
    | ret p =>
      obtain ⟨v, rfl, rv⟩ := hfl
      exact ⟨.ret p, ρ', μ', hR, ⟨v, rfl, rv⟩, fr'⟩
end
end Mine
end

section
open PySem PySem.W PyProof.Rows PySem.SeqAt
set_option linter.unusedVariables false
namespace Mine

/-- a loop over items -/
noncomputable def ForS (prog : Program) (w : World) (C : Cx) (lv : Nat) (Γ : Names) (t : MTgt) (b : List MStmt) (K : Rho → Mu → Prop) (R : CPost) : List PV → Rho → Mu → Prop
  | [], ρ, μ => K ρ μ
  | p :: ps, ρ, μ => ∃ ρ1, bindT ρ t p = some ρ1 ∧ SatM prog w C lv Γ b ρ1 μ (Loop K R (ForS prog w C lv Γ t b K R ps))

section
variable {prog : Program} {w : World} {C : Cx} {lv : Nat} {Γ : Names} {A : Around} {E : Value → Shared → Prop} {V : Addr → Prop} {env : Env} {G : Gr} {s₀ s s₁ : Shared} {ρ ρ' : Rho} {μ μ' : Mu} {R R' : CPost} {T : Str → List PV → Option PV}

theorem iter_notOwn {x : PV} (h : notOwn x = true) : iter μ x = iter μ' x := by
  cases x with
  | own a => cases h
  | _ => rfl

theorem exec_For {t it : Expr} {b : List Stmt} {pos : Pos} : exec (.For t it b [] pos) env = (do
    standAt pos
    let x ← foldedSetIterable it env (← eval it env)
    standAt it.pos
    runOwn (.forLoop t (← holding [x] (pyIter x)) b [] env) env) := rfl

/-- the heap without the walk's own object -/
noncomputable def GI (I : Addr) (h : Heap) (env : Env) (μ : Mu) (oI : Obj) : Gr := fun a o => (a ≠ I ∧ h.get? a = some o ∧ ¬ Wof env μ a) ∨ (a = I ∧ o = oI)

/-- what holds ahead of a turn -/
inductive ForI (prog : Program) (w : World) (C : Cx) (lv : Nat) (Γ : Names) (t : MTgt) (b : List MStmt) (R : CPost) (env : Env) (V : Addr → Prop) (s₀ : Shared) (I : Addr) (h₂ : Heap) (μ : Mu) (St : Nat → Heap → Prop) (items : List PV) (k : Nat) (s' : Shared) : Prop
  | mk (done rest : List PV) (ρ' : Rho) (μ' : Mu) (oI : Obj) (e : items = done ++ rest) (hk : k = rest.length + 1) (hF : ForS prog w C lv Γ t b (R .next) R rest ρ' μ') (hst : St done.length s'.heap) (ho : s'.heap.get? I = some oI)
    (fr : FR C env (fun a => V a ∨ a = I) (GI I h₂ env μ oI) s₀ s' ρ' μ')

theorem sat_for {t : MTgt} {it : MExpr} {b : List MStmt} {x : PV} (items : List PV) (hC : CxOk C) (hT : TOk prog w C lv T) (h : ev T μ it ρ = some x) (hno : notOwn x = true) (hi : iter μ x = some items) (ht : ∀ y ∈ tgtNames t, ownOf Γ y)
    (hF : ForS prog w C lv Γ t b (R .next) R items ρ μ) : Sat1 prog w C lv Γ (.for_ t it b) ρ μ R := by
  intro st hst A E V env G s₀ s hr hΓ fr
  obtain ⟨t', it', b', pos, rfl, rfl, rfl, rfl⟩ := inv_for hst
  rw [exec_For]
  refine wpAny_bind (wpAny_standAt (wpAny_bind (fr.evStep hC hT hr hΓ h fun v s₁ fr1 rv => wpAny_bind (wpAny_of_eq (fold_of_tr h env v) (wpAny_bind (wpAny_standAt (wpAny_bind (wpAny_holding ?_))))))))
  have S0 : SR (fun a => Wof env μ a ∨ V a) s₁.heap (fun _ => none) := ⟨fr1.er.sr.wl, fun a xs hx => by cases hx⟩
  refine wpAny_with_toks (n := s₁.toks) (Nat.le_refl _) (wpAny_mono (iter_sound (μ := fun _ => none) (by rw [iter_notOwn hno] at hi; exact hi) S0 rv hr.hd) (fun itv s₂ h₂ htk2 => ?_) fun _ _ e _ => e)
  obtain ⟨I, fp, n, P, St, rfl, hn, Wk, hst, hI, hfp, hIfp, hP, hgo, hex, k2⟩ := h₂
  have fr2 := fr1.keeps k2 htk2
  have neI : ∀ a o, s₁.heap.get? a = some o → a ≠ I := fun a o e ea => by rw [ea, hI] at e; cases e
  have hVI : ¬ V I := fun hv => by obtain ⟨o, ho⟩ := fr1.er.sr.wl I (.inr hv); exact neI I o ho rfl
  have hWI : ¬ Wof env μ I := fun hv => by obtain ⟨o, ho⟩ := fr1.er.sr.wl I (.inl hv); exact neI I o ho rfl
  have hLI : env.locals ≠ I := by obtain ⟨m, o, _, _, ho, _⟩ := fr1.ns; exact neI _ o ho
  have hcI : ∀ y c, env.cells.lookup y = some c → c ≠ I := fun y c hc => by obtain ⟨cv, o, ho, _⟩ := fr1.er.cel y c hc; exact neI _ o ho
  have hGI : ∀ a o, G a o → a ≠ I ∧ s₂.heap.get? a = some o ∧ ¬ Wof env μ a := fun a o g => ⟨neI a o (fr1.prot a o g), fr2.prot a o g, fr1.apart a o g⟩
  obtain ⟨oI, hoI⟩ := hex _ _ hst
  have er2 : ER C (fun a => Wof env μ a ∨ (V a ∨ a = I)) env s₂ ρ μ := er_congr (W := fun a => (Wof env μ a ∨ V a) ∨ a = I) (fr1.er.extend k2 htk2 fun a ha => by
    rcases ha with ha | rfl
    · exact .inl ha
    · exact .inr ⟨hI, _, hoI⟩) fun a => ⟨fun h => h.elim (fun h => h.elim .inl fun h => .inr (.inl h)) fun h => .inr (.inr h), fun h => h.elim (fun h => .inl (.inl h)) fun h => h.elim (fun h => .inl (.inr h)) .inr⟩
  have frI : FR C env (fun a => V a ∨ a = I) (GI I s₂.heap env μ oI) s₀ s₂ ρ μ := by
    refine ⟨er2, fr2.ns, fr2.shape, ?_, ?_, ?_⟩
    · rintro a o (⟨_, h2, _⟩ | ⟨rfl, rfl⟩)
      · exact h2
      · exact hoI
    · rintro a o (⟨_, _, h3⟩ | ⟨rfl, rfl⟩)
      · exact h3
      · exact hWI
    · rintro a (h | rfl)
      · exact fr1.vd a h
      · exact hWI
  -- back to the loop's outside
  have back : ∀ (s' : Shared) (o' : Obj) (ρ' : Rho) (μ' : Mu), FR C env (fun a => V a ∨ a = I) (GI I s₂.heap env μ o') s₀ s' ρ' μ' → FR C env V G s₀ s' ρ' μ' := by
    intro s' o' ρ' μ' f
    refine ⟨f.er.shrink fun a ha => ha.elim .inl fun h => .inr (.inl h), f.ns, f.shape, fun a o g => f.prot a o (.inl (hGI a o g)), fun a o g => f.apart a o (.inl (hGI a o g)), fun a h => f.vd a (.inl h)⟩
  have key : ∀ (R' : Result → Shared → Prop), (∀ fl s', Out C env V G s₀ R fl s' → R' (.ok fl) s') → codeAny (model prog w) A (.forLoop t' (.ref I) b' [] env) R' s₂ := by
    intro R' hR'
    refine codeAny_forLoop_any (ForI prog w C lv Γ (trTgt t') (trSs Γ b') R env V s₀ I s₂.heap μ St items) (fun k s' hInv => ?_) (items.length + 1) ⟨[], items, ρ, μ, oI, rfl, rfl, hF, hst, hoI, frI⟩
    obtain ⟨done, rest, ρ', μ', o1, rfl, rfl, hF', hst', ho1, fr'⟩ := hInv
    have hμI : μ' I = none := by
      cases e : μ' I with
      | none => rfl
      | some xs => exact absurd (.inr (.inr (by rw [e]; rfl))) (fr'.apart I o1 (.inr ⟨rfl, rfl⟩))
    cases rest with
    | nil =>
      refine wpAny_with_toks (n := s'.toks) (Nat.le_refl _) (Wk.done s' _ _ (by rw [hn]; simpa using hst') fun h' tk hk htk => ?_)
      have hk' : ∀ b o, b ≠ I → s'.heap.get? b = some o → h'.get? b = some o := fun b o hb e => hk b o (by simpa using hb) e
      have er3 := er_drop (W' := fun a => Wof env μ' a ∨ V a) (a := I) (h' := h') (tk := tk) fr'.er hk' htk (.inr (.inr rfl)) hLI hcI hμI (fun a ha => ⟨ha.elim .inl fun h => .inr (.inl h), fun e => by
        subst e
        rcases ha with ha | ha
        · exact fr'.apart _ o1 (.inr ⟨rfl, rfl⟩) ha
        · exact hVI ha⟩)
      refine wpAny_execs_nil (hR' _ _ ⟨.next, ρ', μ', hF', rfl, er3, ?_, ?_, fun a o g => hk' a o (hGI a o g).1 (fr'.prot a o (.inl (hGI a o g))), fun a o g => fr'.apart a o (.inl (hGI a o g)), fun a h => fr'.vd a (.inl h)⟩)
      · obtain ⟨m, hm⟩ := fr'.ns; exact ⟨m, hm.at' fun o e => hk' _ o hLI e⟩
      · obtain ⟨h1, t1, rfl⟩ := fr'.shape; exact ⟨h', tk, rfl⟩
    | cons q qs =>
      have hlt : done.length < n := by rw [hn]; simp
      refine wpAny_with_toks (n := s'.toks) (Nat.le_refl _) (Wk.item done.length s' _ _ hlt hst' fun v h' tk hPv hst₁ hk htk => ?_)
      have hk' : ∀ b o, b ≠ I → s'.heap.get? b = some o → h'.get? b = some o := fun b o hb e => hk b o (by simpa using hb) e
      obtain ⟨o2, ho2⟩ := hex _ _ hst₁
      have er3 := er_change (a := I) (h' := h') (tk := tk) fr'.er hk' htk (.inr (.inr rfl)) hLI hcI hμI ⟨o2, ho2⟩
      have fr3 : FR C env (fun a => V a ∨ a = I) (GI I s₂.heap env μ o2) s₀ { s' with heap := h', toks := tk } ρ' μ' := by
        refine ⟨er3, ?_, ?_, ?_, ?_, fr'.vd⟩
        · obtain ⟨m, hm⟩ := fr'.ns; exact ⟨m, hm.at' fun o e => hk' _ o hLI e⟩
        · obtain ⟨h1, t1, rfl⟩ := fr'.shape; exact ⟨h', tk, rfl⟩
        · rintro a o (g | ⟨rfl, rfl⟩)
          · exact hk' a o g.1 (fr'.prot a o (.inl g))
          · exact ho2
        · rintro a o (g | ⟨rfl, rfl⟩)
          · exact fr'.apart a o (.inl g)
          · exact fr'.apart _ o1 (.inr ⟨rfl, rfl⟩)
      obtain ⟨q', hq', rq⟩ := hP _ _ hPv
      have : q' = q := by simpa using hq'.symm
      subst this
      have rq' : Rep (frz h' (fun a => Wof env μ' a ∨ (V a ∨ a = I))) q' v := Rep.mono (fun a o x => by
        have g : GI I s₂.heap env μ o2 a o := .inl ⟨neI a o x.1, Keeps.k k2 _ _ x.1, fun hw => x.2 (.inl hw)⟩
        exact ⟨fr3.prot a o g, fun hw => hw.elim (fr3.apart a o g) fun hw => hw.elim (fun hv => x.2 (.inr hv)) (neI a o x.1)⟩) _ _ rq
      refine hgo _ _ _ _ _ _ hst₁ ?_
      obtain ⟨ρ1, hb1, hsat⟩ := hF'
      refine wpAny_mono (fr_assign fr3 hr hΓ hb1 ht rq') (fun _ s₄ fr4 => ?_) fun _ _ e => e
      refine wpAny_mono (hsat b' rfl A _ _ env _ s₀ s₄ hr hΓ fr4) (fun fl s₅ ho => ?_) fun _ _ e => e
      obtain ⟨c, ρ5, μ5, hR, hfl, fr5⟩ := ho
      cases c with
      | next =>
        have : fl = .next := hfl
        subst this
        refine ⟨qs.length + 1, by simp, done ++ [q'], qs, ρ5, μ5, o2, by simp, rfl, hR, ?_, fr5.prot I o2 (.inr ⟨rfl, rfl⟩), fr5⟩
        have := Wk.frame _ _ s₅.heap hst₁ fun b hb o e => by
          rcases hfp b hb with rfl | ⟨⟨o', ho'⟩, h1 | h1⟩
          · have e : h'.get? b = some o := e
            first | exact clash ho2 e | (rw [ho2] at e; cases e)
            exact fr5.prot b _ (.inr ⟨rfl, rfl⟩)
          · have g : GI I s₂.heap env μ o2 b o' := .inl ⟨neI b o' ho', Keeps.k k2 _ _ ho', fun hw => h1 (.inl hw)⟩
            have e : h'.get? b = some o := e
            have e2 : h'.get? b = some o' := fr3.prot b o' g
            first | exact clash e e2 | (rw [e] at e2; cases e2)
            exact fr5.prot b _ g
          · cases h1
        simpa using this
      | brk =>
        have : fl = .brk := hfl
        subst this
        exact hR' _ _ ⟨.next, ρ5, μ5, hR, rfl, back _ _ _ _ fr5⟩
      | ret p =>
        obtain ⟨v, rfl, rv⟩ := hfl
        exact hR' _ _ ⟨.ret p, ρ5, μ5, hR, ⟨v, rfl, rep_congr rv fun a ha => ha.elim .inl fun h => .inr (.inl h)⟩, back _ _ _ _ fr5⟩
  exact wpAny_runOwn (h := none) (key _ fun fl s' h => h)
end
end Mine
end

section
open PySem PySem.W PyProof.Rows PySem.SeqAt
set_option linter.unusedVariables false
namespace Mine
section
variable {prog : Program} {w : World} {C : Cx} {lv : Nat} {Γ : Names} {A : Around} {E : Value → Shared → Prop} {V : Addr → Prop} {env : Env} {G : Gr} {s₀ s s₁ : Shared} {ρ ρ' : Rho} {μ μ' : Mu} {R R' : CPost} {T : Str → List PV → Option PV}

theorem Wof_set' {a : Addr} {xs ys : List PV} (h : μ a = some xs) : Wof env (muSet μ a ys) = Wof env μ := by
  funext b
  unfold Wof muSet
  by_cases e : b = a
  · subst e; simp [h]
  · simp [e]

/-- an owned list was written -/
theorem fr_mut {a : Addr} {xs ys : List PV} {vs : List Value} {n : Nat} {h' : Heap} (fr : FR C env V G s₀ s ρ μ) (hμ : μ a = some xs) (hk : ∀ b o, b ≠ a → s.heap.get? b = some o → h'.get? b = some o)
    (ha : h'.get? a = some (lObj vs n)) (hl : vs.length ≤ SZ) (hrp : Reps (frz s.heap (fun a => Wof env μ a ∨ V a)) ys vs) : FR C env V G s₀ { s with heap := h' } ρ (muSet μ a ys) := by
  have hWa : Wof env μ a := .inr (.inr (by rw [hμ]; rfl))
  have er := fr.er
  have hf : ∀ b o, frz s.heap (fun a => Wof env μ a ∨ V a) b o → frz h' (fun a => Wof env μ a ∨ V a) b o := fun b o x => ⟨hk b o (fun e => x.2 (e ▸ .inl hWa)) x.1, x.2⟩
  obtain ⟨us, j, h1, _, _⟩ := er.sr.ls a xs hμ
  obtain ⟨m, hm⟩ := fr.ns
  have hLa : env.locals ≠ a := by rintro rfl; exact ns_not_list hm h1
  have hca : ∀ x c, env.cells.lookup x = some c → c ≠ a := by rintro x c hc rfl; obtain ⟨cv, hi⟩ := er.cel x c hc; exact cell_not_list hi h1
  refine ⟨?_, ⟨m, hm.at' fun o e => hk _ o hLa e⟩, ?_, fun b o g => hk b o (fun e => fr.apart b o g (e ▸ hWa)) (fr.prot b o g), fun b o g => by rw [Wof_set' hμ]; exact fr.apart b o g, fun b hv => by rw [Wof_set' hμ]; exact fr.vd b hv⟩
  · rw [Wof_set' hμ]
    refine ⟨er.kind, er.gl, er.bl, fun b o e => hk b o (fun eb => ?_) (er.base b o e), er.wb, ⟨fun b hb => ?_, fun b zs hz => ?_⟩, fun x p hx => ?_, er.tk, fun x hx => ?_, er.apart, fun x c hc => ?_⟩
    · have := er.wb a (.inl hWa); rw [← eb, e] at this; cases this
    · by_cases ea : b = a
      · subst ea; exact ⟨_, ha⟩
      · obtain ⟨o, ho⟩ := er.sr.wl b hb; exact ⟨o, hk b o ea ho⟩
    · unfold muSet at hz
      split at hz
      · rename_i e; subst e; cases hz
        exact ⟨vs, n, ha, hl, Reps.mono hf _ _ hrp⟩
      · rename_i e
        obtain ⟨us, j, q1, q2, q3⟩ := er.sr.ls b zs hz
        exact ⟨us, j, hk _ _ e q1, q2, Reps.mono hf _ _ q3⟩
    · obtain ⟨v, q1, q2⟩ := er.vars x p hx
      refine ⟨v, ?_, Rep.mono hf _ _ q2⟩
      rcases q1 with ⟨k1, m1, hn1, hm1⟩ | ⟨k1, c, hc, hi⟩
      · exact .inl ⟨k1, m1, hn1.at' fun o e => hk _ o hLa e, hm1⟩
      · obtain ⟨o, ho, hd'⟩ := hi
        exact .inr ⟨k1, c, hc, o, hk _ _ (hca x c hc) ho, hd'⟩
    · obtain ⟨c, cv, q1, o, ho, hd'⟩ := er.has x hx
      exact ⟨c, cv, q1, o, hk _ _ (hca x c q1) ho, hd'⟩
    · obtain ⟨cv, o, ho, hd'⟩ := er.cel x c hc
      exact ⟨cv, o, hk _ _ (hca x c hc) ho, hd'⟩
  · obtain ⟨h1, t1, rfl⟩ := fr.shape; exact ⟨h', _, rfl⟩

theorem inter_false (er : ER C V env s ρ μ) : interactive env = false := by
  unfold interactive; rw [er.kind]; rfl

theorem mapSeq_list (f : Array Value → Array Value) (vs : List Value) (n : Nat) : ∃ k, Obj.mapSeq f (lObj vs n) = lObj (f vs.toArray).toList k := ⟨_, by simp only [Obj.mapSeq, lObj]; rfl⟩

theorem upd_list {h : Heap} {a : Addr} {vs : List Value} {n : Nat} (f : Array Value → Array Value) (ha : h.get? a = some (lObj vs n)) : ∃ k, (h.update a (Obj.mapSeq f)).get? a = some (lObj (f vs.toArray).toList k) ∧ Heap.SameBut a h (h.update a (Obj.mapSeq f)) := by
  obtain ⟨k, hk⟩ := mapSeq_list f vs n
  exact ⟨k, by rw [Heap.get?_update_self _ ha (by rw [hk]; rfl), hk], Heap.SameBut.update ..⟩

/-- a method of an owned list, called as a statement -/
theorem mcall_core {x : Str} {m : Str} {id : String} {e : MExpr} {a : Addr} {xs : List PV} {p : PV} (hC : CxOk C) (hT : TOk prog w C lv T) (hx : ρ x = some (.own a)) (hμ : μ a = some xs) (he : ev T μ e ρ = some p)
    (hslot : Slot "list" m id) (hty : typeOf (.builtin id) = pure (.type "method_descriptor"))
    (hcall : ∀ (A : Around) (E : Value → Shared → Prop) (V : Addr → Prop) (env : Env) (G : Gr) (s₀ s : Shared) (v : Value), Room lv A → FR C env V G s₀ s ρ μ → Rep (frz s.heap (fun a => Wof env μ a ∨ V a)) p v → wpAny (model prog w) A (call (.builtin id) [.ref a, v]) (fun _ s' => ∃ μ', R .next ρ μ' ∧ FR C env V G s₀ s' ρ μ') E s) :
    Sat1 prog w C lv Γ (.mcall (.var x) m e) ρ μ R := by
  intro st hst A E V env G s₀ s hr hΓ fr
  obtain ⟨o', apos, a', pos, spos, rfl, ho, rfl, hline⟩ := inv_mcall hst
  obtain ⟨np, rfl⟩ := inv_var ho
  have hst1 : starEach [a'] env = [(false, eval a' env)] := tr_star he [] env
  have hbt : backTo pos (starEach [a'] env) = [(false, eval a' env)] := by rw [hst1]; rfl
  refine wpAny_Expr_any (wpAny_Call_method1_late rfl hline hbt ?_) (inter_false fr.er) rfl
  refine fr.evStep hC hT hr hΓ (p := .own a) (by rw [ho, ev]; exact hx) fun v s₁ fr1 rv => ?_
  have := rep_own.mp rv; subst this
  obtain ⟨us, j, h1, _, _⟩ := fr1.er.sr.ls a xs hμ
  refine ⟨"list", id, F.plainAttrs_list, hslot, hty, ⟨_, h1, rfl⟩, fun b hb => ⟨lObj us j, (by cases hb; exact h1), rfl⟩, ?_⟩
  refine Calls.callWith_builtin rfl (Calls.evalArgs_plain (Calls.spliced_cons (fr1.evStep hC hT hr hΓ he fun v s₂ fr2 rv => Calls.spliced_nil ?_)))
  refine wpAny_mono (hcall A E V env G s₀ s₂ v hr fr2 rv) (fun _ s' h' => ?_) fun _ _ e => e
  obtain ⟨μ', hR, fr'⟩ := h'
  exact ⟨.next, ρ, μ', hR, rfl, fr'⟩

theorem sat_append {x : Str} {e : MExpr} {a : Addr} {xs : List PV} {p : PV} (hC : CxOk C) (hT : TOk prog w C lv T) (hx : ρ x = some (.own a)) (hμ : μ a = some xs) (he : ev T μ e ρ = some p) (hl : xs.length + 1 ≤ SZ) (hR : R .next ρ (muSet μ a (xs ++ [p]))) :
    Sat1 prog w C lv Γ (.mcall (.var x) "append" e) ρ μ R := by
  refine mcall_core hC hT hx hμ he F.slot_list_append F.type_list_append fun A E V env G s₀ s v hr fr rv => ?_
  obtain ⟨us, j, h1, h2, h3⟩ := fr.er.sr.ls a xs hμ
  refine wpAny_list_append_plain (items := us.toArray) ⟨j, h1⟩ (fun h' hp hs' => ⟨_, hR, ?_⟩) (by rw [h3.length] at h2; simp [← SZ_eq, h3.length]; omega)
  obtain ⟨k, hp⟩ := hp
  exact fr_mut (vs := us ++ [v]) (n := k) fr hμ (fun b o hb e => hs'.extBut b o hb e) (by rw [hp]; simp [lObj]) (by simp [h3.length]; omega) (h3.append (Reps.cons rv Reps.nil))

theorem sat_extend {x : Str} {e : MExpr} {a : Addr} {xs ys : List PV} (hC : CxOk C) (hT : TOk prog w C lv T) (hx : ρ x = some (.own a)) (hμ : μ a = some xs) (he : ev T μ e ρ = some (.lst ys)) (hl : xs.length + ys.length ≤ SZ) (hR : R .next ρ (muSet μ a (xs ++ ys))) :
    Sat1 prog w C lv Γ (.mcall (.var x) "extend" e) ρ μ R := by
  refine mcall_core hC hT hx hμ he F.slot_list_extend F.type_list_extend fun A E V env G s₀ s v hr fr rv => ?_
  obtain ⟨us, j, h1, h2, h3⟩ := fr.er.sr.ls a xs hμ
  obtain ⟨b, vs, n, rfl, hg, hvl, hrp⟩ := rep_lst.mp rv
  have hle : us.length + vs.length ≤ SZ := by rw [h3.length, hrp.length]; exact hl
  obtain ⟨k, hk, hs'⟩ := upd_list (h := s.heap) (fun z => z ++ vs.toArray) h1
  refine call_meets F.slot_list_extend ⟨_, h1, rfl⟩ F.entry_list_extend (F.args_list_extend_2 _ _) (AutoSeq1.list_extend_list_list_0 a us.toArray j b vs.toArray n ?_ ?_ ?_) ⟨h1, hg.1, _, hR, ?_⟩
  · simp [Builtin.List.listTooLong, ← SZ_eq]
    omega
  · simp [← SZ_eq]; omega
  · simp [← SZ_eq]; omega
  · exact fr_mut (vs := us ++ vs) (n := k) fr hμ (fun b o hb e => hs'.extBut b o hb e) (by rw [hk]; simp) (by simpa using hle) (h3.append hrp)
end
end Mine
end

section
open PySem PySem.W PyProof.Rows PySem.SeqAt
set_option linter.unusedVariables false
set_option maxRecDepth 100000
namespace Mine

noncomputable def bApp (a : Addr) : Obj := { cls := .type "builtin_function_or_method", data := .fields #[.builtin "list.append", .ref a] }
theorem slot_mget : Slot "method_descriptor" "__get__" "method_descriptor.__get__" :=
  .of (owner := "method_descriptor") (n := "__get__") (by rw [typeLookup_type, builtinLookup_eq_fast]; kernel_rfl) (by decide +kernel) (by decide +kernel) (by decide +kernel)
    (by first | exact .inl (by decide +kernel) | exact .inr (by decide +kernel)) (by rw [isSubtype_type]; kernel_rfl)
theorem entry_mget : entryFor table "method_descriptor.__get__" = some Builtin.«method_descriptor.__get__» := entryFor_of_tree (by kernel_rfl)
theorem args_mget (a b c : Value) : argsOk "method_descriptor.__get__" ⟨[a, b, c], []⟩ := by unfold argsOk; kernel_rfl
theorem told_append : Manifest.toldItsClass.contains "list.append" = false := by decide +kernel
theorem no_mset : typeLookup (.type "method_descriptor") "__set__" = pure none := by rw [typeLookup_type, builtinLookup_eq_fast]; kernel_rfl
theorem no_mdel : typeLookup (.type "method_descriptor") "__delete__" = pure none := by rw [typeLookup_type, builtinLookup_eq_fast]; kernel_rfl

section
variable {prog : Program} {w : World} {M : Model} {A : Around} {E : Value → Shared → Prop} {s : Shared} {a : Addr} {o : Obj}

theorem run_mget {P : Fin → Shared → Prop} (hx : s.heap.get? a = some o) (hc : o.cls = .type "list") (h : P (.done (.ret (.ref s.heap.objs.size))) { s with heap := s.heap.push (bApp a) }) :
    wpAny M A (Builtin.«method_descriptor.__get__» ⟨[.builtin "list.append", .ref a, .type "list"], []⟩) P E s := by
  have hT : s.TypeIs (.ref a) "list" := ⟨_, hx, hc⟩
  unfold Builtin.«method_descriptor.__get__»
  refine wpAny_bind (wpAny_of_eq (a := (.builtin "list.append", some (.ref a), some (.type "list"))) (by first | rfl | kernel_rfl) ?_)
  simp only [told_append]
  refine KFB.if_not rfl ?_
  have e : (kfb_private% "bindBuiltin") "builtin_function_or_method" (Value.builtin "list.append") (some (.ref a)) = ((kfb_private% "checkInstance") (Value.builtin "list.append") (.ref a) >>= fun _ => newFields "builtin_function_or_method" [Value.builtin "list.append", .ref a] >>= fun v => ret v) := rfl
  rw [e]
  refine wpAny_bind ?_
  refine wpAny_bind (wpAny_of_eq (a := (("append" : Str), Value.type "list")) (by first | rfl | kernel_rfl) ?_)
  refine wpAny_bind (wpAny_isInstance hT PySem.F.sub_list_list ?_)
  refine KFB.if_not rfl ?_
  refine wpAny_pure ?_
  exact wpAny_bind (wpAny_newObj_type (wpAny_pure h))

theorem get_entry {tk : Tok} {h : Heap} {g : Array GenState} {d : Drawn} {t : Nat} {os : OsState} {vs : List Value} {n : Nat} {Q : Fin → Shared → Prop} (hx : h.get? a = some (lObj vs n)) (hq : Q (.done (.ret (.ref h.objs.size))) ⟨h.push (bApp a), g, d, t, os⟩) :
    wpAny (model prog w) A (Builtin.«object.__getattribute__» ⟨[.ref a, .str "append" tk], []⟩) Q E ⟨h, g, d, t, os⟩ := by
  have hT : (⟨h, g, d, t, os⟩ : Shared).TypeIs (.ref a) "list" := ⟨_, hx, rfl⟩
  have hT5 : (⟨h, g, d, t, os⟩ : Shared).TypeIs (.builtin "list.append") "method_descriptor" := F.type_list_append
  have f4 := F.slot_list_append.lookup
  have f5 := F.type_list_append
  have f6 := slot_mget.lookup
  have f7 := no_mset
  have f8 := no_mdel
  repeat (any_goals (first | assumption | wp_step))
  exact codeAny_call_builtin slot_mget.plain entry_mget (slot_mget.check _ _ _ _ _ _ _ _ hT5 (args_mget _ _ _) (run_mget hx rfl (wpAny_pure hq)))

theorem get_call {tk : Tok} {h : Heap} {g : Array GenState} {d : Drawn} {t : Nat} {os : OsState} {vs : List Value} {n : Nat} {R : Result → Shared → Prop} (hx : h.get? a = some (lObj vs n)) (hq : R (.ok (.ret (.ref h.objs.size))) ⟨h.push (bApp a), g, d, t, os⟩) :
    codeAny (model prog w) A (.call (.builtin "list.__getattribute__") ⟨[.ref a, .str "append" tk], []⟩) R ⟨h, g, d, t, os⟩ :=
  codeAny_call_builtin F.slot_list_getattribute.plain F.entry_list_ga (F.slot_list_getattribute.check _ _ _ _ _ _ _ _ (show (⟨h, g, d, t, os⟩ : Shared).TypeIs (.ref a) "list" from ⟨_, hx, rfl⟩) (F.args_list_getattribute_2 _ _) (get_entry hx hq))

theorem get_by {tk : Tok} {h : Heap} {g : Array GenState} {d : Drawn} {t : Nat} {os : OsState} {vs : List Value} {n : Nat} {Q : Value → Shared → Prop} (hx : h.get? a = some (lObj vs n)) (hq : Q (.ref h.objs.size) ⟨h.push (bApp a), g, d, t, os⟩) :
    wpAny (model prog w) A (getAttrBy (.ref a) (.str "append" tk) true true) Q E ⟨h, g, d, t, os⟩ := by
  have hT : (⟨h, g, d, t, os⟩ : Shared).TypeIs (.ref a) "list" := ⟨_, hx, rfl⟩
  have f2 := F.slot_list_getattribute.lookup
  have f3 := F.slot_list_getattribute.bind (.ref a)
  repeat (any_goals (first | assumption | wp_step))
  refine get_call hx ?_
  repeat (any_goals (first | assumption | wp_step))

theorem get_append {s : Shared} {vs : List Value} {n : Nat} {Q : Value → Shared → Prop} (hx : s.heap.get? a = some (lObj vs n)) (hq : Q (.ref s.heap.objs.size) { s with heap := s.heap.push (bApp a), toks := s.toks + 1 }) :
    wpAny (model prog w) A (getAttr (.ref a) "append" true) Q E s := by
  obtain ⟨h, g, d, t, os⟩ := s
  unfold getAttr
  refine wpAny_bind ?_
  unfold mkText
  repeat (any_goals (first | assumption | with_reducible apply get_by hx | wp_step))

theorem sig_app : ∃ sig, Manifest.signature? "list.append" = some sig ∧ ∀ (a v : Value), Bind.checkArgs "list.append" { sig with full := s!"{Bind.lastOf "list"}.{Bind.lastOf "list.append"}" } ⟨[a, v], []⟩ = pure () := ⟨(Manifest.signature? "list.append").get (by decide +kernel), (Option.some_get _).symm, fun a v => by kernel_rfl⟩
theorem kind_app : builtinKind "list.append" = some .method := by first | decide +kernel | kernel_rfl
theorem varargs_app : Manifest.varargsMethods.contains "list.append" = false := by decide +kernel
theorem sub_list_module : isSubtype (.type "list") (.type "module") = pure false := by rw [isSubtype_type]; kernel_rfl
theorem check_app {vs : List Value} {n : Nat} {v : Value} {Q : Unit → Shared → Prop} (ha : s.heap.get? a = some (lObj vs n)) (h : Q () s) : wpAny M A (checkBoundCall "list.append" ⟨[.ref a, v], []⟩) Q E s := by
  have hT : s.TypeIs (.ref a) "list" := ⟨_, ha, rfl⟩
  obtain ⟨sig, h1, h2⟩ := sig_app
  unfold checkBoundCall
  simp only [h1, kind_app]
  refine KFB.if_not (by decide) ?_
  refine wpAny_bind (wpAny_isInstance hT sub_list_module ?_)
  refine KFB.if_not (by rw [varargs_app]; rfl) ?_
  refine wpAny_bind ?_
  unfold isType
  refine wpAny_bind (wpAny_loadPart ha (wpAny_pure ?_))
  refine KFB.if_not rfl ?_
  refine wpAny_bind (wpAny_typeOf hT ?_)
  exact wpAny_of_eq (h2 (.ref a) v) h
theorem quiet_app {as : Args} : (Code.builtin "list.append" as).quiet = true := Code.quiet_builtin _ (by decide +kernel)

theorem callWith_app {pos : Pos} {u : Addr} {args : List (Bool × Sem Value)} {Q : Value → Shared → Prop} (hplain : args.any (·.1) = false)
    (h : wpAny M A (evalArgs (.ref u) true args []) (fun x s₁ => (∃ o, s₁.heap.get? u = some o ∧ appObj a o) ∧ wpAny M A (call (.ref u) x.pos x.kw) Q E s₁) E s) : wpAny M A (callWith pos (.ref u) [] args []) Q E s := by
  unfold callWith
  refine wpAny_bind (wpAny_holding (wpAny_mono h (fun x s₁ h₁ => wpAny_bind (wpAny_standAt ?_)) fun _ _ x => x))
  obtain ⟨⟨o, ho, hc, hd⟩, hcall⟩ := h₁
  simp only [hplain, List.any_nil, Bool.or_false]
  refine wpAny_bind (m := keeperOf (.ref u)) ?_
  unfold keeperOf
  refine wpAny_bind (wpAny_load ho ?_)
  simp only [hc, hd, show (Value.type "builtin_function_or_method" != Value.type "method") = true by decide, show (Value.type "builtin_function_or_method" == Value.type "builtin_function_or_method" || Value.type "builtin_function_or_method" == Value.type "method-wrapper") = true by decide, if_true]
  refine wpAny_pure ?_
  exact wpAny_bind (wpAny_mono hcall (fun r s₂ hr => wpAny_bind (wpAny_holding (wpAny_point (wpAny_pure hr)))) fun _ _ x => x)

theorem call_app {b : Addr} {v : Value} {vs : List Value} {n : Nat} {Q : Value → Shared → Prop} (ho : s.heap.get? b = some o) (hao : appObj a o) (ha : s.heap.get? a = some (lObj vs n)) (hl : vs.length + 1 ≤ SZ)
    (h : ∀ h' k, h'.get? a = some (lObj (vs ++ [v]) k) → Heap.SameBut a s.heap h' → Q .none { s with heap := h' }) : wpAny (model prog w) A (call (.ref b) [v]) Q E s := by
  obtain ⟨hc, hd⟩ := hao
  refine wpAny_call (codeAny_of_tree ?_)
  show wpAny _ A.in1 (callAny (.ref b) ⟨[v], []⟩) _ _ s
  simp only [callAny]
  refine wpAny_bind (wpAny_load ho ?_)
  simp only [hc, hd, show (Value.type "builtin_function_or_method" == Value.type "method" || Value.type "builtin_function_or_method" == Value.type "builtin_function_or_method" || Value.type "builtin_function_or_method" == Value.type "method-wrapper") = true by decide, if_true]
  refine KFB.if_so (by decide) ?_
  refine wpAny_bind (check_app ha ?_)
  refine wpAny_bind (wpAny_pure (wpAny_pure ?_))
  refine ⟨quiet_app, codeAny_builtin F.entry_list_append ?_⟩
  show wpAny _ _ (updateSeq a (·.push v) >>= fun _ => ret .none) _ _ s
  obtain ⟨k, hk, hs'⟩ := upd_list (h := s.heap) (fun z => z.push v) ha
  refine wpAny_bind (wpAny_updateSeq ha rfl (wpAny_pure (h _ k (by rw [hk]; simp) hs')) (by simp [← SZ_eq]; omega) (by simp [← SZ_eq]; omega))
end

section
variable {prog : Program} {w : World} {C : Cx} {lv : Nat} {Γ : Names} {A : Around} {E : Value → Shared → Prop} {V : Addr → Prop} {env : Env} {G : Gr} {s₀ s s₁ : Shared} {ρ ρ' : Rho} {μ μ' : Mu} {R R' : CPost} {T : Str → List PV → Option PV}

theorem FR.addG {b : Addr} {o : Obj} (fr : FR C env V G s₀ s ρ μ) (hb : s.heap.get? b = some o) (hw : ¬ Wof env μ b) : FR C env V (fun x y => G x y ∨ (x = b ∧ y = o)) s₀ s ρ μ :=
  { fr with prot := fun a y g => g.elim (fr.prot a y) fun ⟨e1, e2⟩ => by rw [e1, e2]; exact hb, apart := fun a y g => g.elim (fr.apart a y) fun ⟨e1, e2⟩ => by rw [e1]; exact hw }
theorem FR.subG {G' : Gr} (fr : FR C env V G s₀ s ρ μ) (h : ∀ a o, G' a o → G a o) : FR C env V G' s₀ s ρ μ :=
  { fr with prot := fun a y g => fr.prot a y (h a y g), apart := fun a y g => fr.apart a y (h a y g) }

theorem sat_bindApp {x y : Str} {a : Addr} {xs : List PV} (hC : CxOk C) (hT : TOk prog w C lv T) (hx : ownOf Γ x) (hy : ρ y = some (.own a)) (hμ : μ a = some xs) (hR : R .next (upd ρ x (.app a)) μ) : Sat1 prog w C lv Γ (.bindApp x (.var y)) ρ μ R := by
  intro st hst A E V env G s₀ s hr hΓ fr
  obtain ⟨px, o, ap, pos, rfl, ho⟩ := inv_bindApp hst
  obtain ⟨np, rfl⟩ := inv_var ho
  rw [PySem.exec_Assign_Name (hs := rfl)]
  refine wpAny_bind (wpAny_standAt (wpAny_bind (Attribute_Name_ (fr.evStep hC hT hr hΓ (p := .own a) (by rw [ho, ev]; exact hy) fun v s₁ fr1 rv => ?_))))
  have := rep_own.mp rv; subst this
  obtain ⟨us, j, h1, _, _⟩ := fr1.er.sr.ls a xs hμ
  refine get_append h1 (wpAny_bind (wpAny_standAt (wpAny_bind (wpAny_bindName ?_))))
  have fr2 := fr1.keeps (s₁ := { s₁ with heap := s₁.heap.push (bApp a), toks := s₁.toks + 1 }) (Keeps.push _ _) (Nat.le_succ _)
  refine wpAny_mono (fr_store (p := .app a) fr2 hΓ hx (rep_app.mpr ⟨_, _, rfl, ⟨Heap.get?_push_size _ rfl, fun hw => ?_⟩, rfl, rfl⟩)) (fun _ s' h' => wpAny_pure ⟨.next, _, _, hR, rfl, h'⟩) fun _ _ e => e
  obtain ⟨o, ho⟩ := fr1.er.sr.wl _ hw
  first | exact clash (fresh_none _) ho | (rw [fresh_none] at ho; cases ho)

theorem sat_callv {f : Str} {e : MExpr} {a : Addr} {xs : List PV} {p : PV} (hC : CxOk C) (hT : TOk prog w C lv T) (hfn : (f == ("__debug__" : Str) || f == ("__classdict__" : Str)) = false) (hx : ρ f = some (.app a)) (hμ : μ a = some xs) (he : ev T μ e ρ = some p) (hl : xs.length + 1 ≤ SZ) (hR : R .next ρ (muSet μ a (xs ++ [p]))) :
    Sat1 prog w C lv Γ (.callv f e) ρ μ R := by
  intro st hst A E V env G s₀ s hr hΓ fr
  obtain ⟨np, a', pos, spos, rfl, rfl⟩ := inv_callv hst
  have hst1 : starEach [a'] env = [(false, eval a' env)] := tr_star he [] env
  have hbt : backTo pos (starEach [a'] env) = [(false, eval a' env)] := by rw [hst1]; rfl
  refine wpAny_Expr_any (wpAny_Call_ofName ?_) (inter_false fr.er) rfl
  refine wpAny_with_toks (n := s.toks) (Nat.le_refl _) (wpAny_mono (name_sound fr.er hx hfn) (fun v s₁ h₁ htk => ?_) fun _ _ e _ => e)
  have fr1 := fr.keeps h₁.1 htk
  obtain ⟨b, o, rfl, hg, hao⟩ := rep_app.mp h₁.2
  rw [hbt]
  have fr1' := fr1.addG (b := b) (o := o) hg.1 fun hw => hg.2 (.inl hw)
  refine callWith_app (a := a) rfl (Calls.evalArgs_plain (Calls.spliced_cons (fr1'.evStep hC hT hr hΓ he fun v s₂ fr2 rv => Calls.spliced_nil ?_)))
  have hb2 := fr2.prot b o (.inr ⟨rfl, rfl⟩)
  obtain ⟨us, j, h1, h2, h3⟩ := fr2.er.sr.ls a xs hμ
  refine ⟨⟨o, hb2, hao⟩, call_app hb2 hao h1 (by rw [h3.length]; exact hl) fun h' k hk hs' => ?_⟩
  have fr3 := fr_mut (vs := us ++ [v]) (n := k) (fr2.subG (G' := G) fun a o g => .inl g) hμ (fun b o hb e => hs'.extBut b o hb e) hk (by simp [h3.length]; omega) (h3.append (Reps.cons rv Reps.nil))
  exact ⟨.next, ρ, _, hR, rfl, fr3⟩
end
end Mine
end

section
open PySem PySem.W PyProof.Rows PySem.SeqAt
set_option linter.unusedVariables false
set_option maxRecDepth 100000
namespace Mine

noncomputable def oObj : Obj := { cls := .type "object" }

section
variable {prog : Program} {w : World} {C : Cx} {lv : Nat} {Γ : Names} {A : Around} {E : Value → Shared → Prop} {V : Addr → Prop} {env : Env} {G : Gr} {s₀ s s₁ : Shared} {ρ ρ' : Rho} {μ μ' : Mu} {R R' : CPost} {T : Str → List PV → Option PV}

/-- x += e for whole numbers and for texts, x -= e for whole numbers -/
noncomputable def evAug (op : Operator) (a b : PV) : Option PV :=
  match op, a, b with
  | .Add, .int x, .int y => some (.int (x + y))
  | .Sub, .int x, .int y => some (.int (x - y))
  | .Add, .str x, .str y => if x.length + y.length ≤ SZ then some (.str (x ++ y)) else none
  | _, _, _ => none

theorem evAug_sound {W : Addr → Prop} {op : Operator} {a b r : PV} {va vb : Value} (h : evAug op a b = some r) (ra : Rep (frz s.heap W) a va) (rb : Rep (frz s.heap W) b vb) : wpAny (model prog w) A (inplaceOp op va vb) (Post W s r) E s := by
  unfold evAug at h
  split at h
  · cases h
    obtain ⟨t, rfl⟩ := rep_int.mp ra
    obtain ⟨u, rfl⟩ := rep_int.mp rb
    exact AutoIntOps.iadd_0 post_int
  · cases h
    obtain ⟨t, rfl⟩ := rep_int.mp ra
    obtain ⟨u, rfl⟩ := rep_int.mp rb
    exact AutoIntOps.isub_0 post_int
  · split at h
    · rename_i x y hl
      cases h
      obtain ⟨q1, t, rfl⟩ := rep_str.mp ra
      obtain ⟨q2, u, rfl⟩ := rep_str.mp rb
      refine PyProof.Rows.iadd_str (fun t' tk => ?_) (by simpa [Str.len_mk, SZ_eq] using hl)
      rw [Str.app_mk]
      exact post_str (by simpa using hl)
    · cases h
  · cases h

theorem sat_aug {x : Str} {op : Operator} {e : MExpr} {p q r : PV} (hC : CxOk C) (hT : TOk prog w C lv T) (hxn : (x == ("__debug__" : Str) || x == ("__classdict__" : Str)) = false) (hx : ownOf Γ x) (hp : ρ x = some p) (hq : ev T μ e ρ = some q) (h : evAug op p q = some r) (hR : R .next (upd ρ x r) μ) :
    Sat1 prog w C lv Γ (.aug x op e) ρ μ R := by
  intro st hst A E V env G s₀ s hr hΓ fr
  obtain ⟨px, v, pos, rfl, rfl⟩ := inv_aug hst
  refine wpAny_AugAssign_Name ?_
  obtain ⟨v0, hv0, rv0⟩ := fr.er.vars x p hp
  have load : ∀ {Q : Value → Shared → Prop}, Q v0 s → wpAny (model prog w) A (loadName env x) Q E s := by
    intro Q hQ
    rcases hv0 with ⟨hk, m, hn, hm⟩ | ⟨hk | hk, c, hc, hi⟩
    · exact wpAny_loadName_local fr.er.kind hk hn hm hQ
    · exact wpAny_loadName_cell fr.er.kind hk hc hi hQ
    · exact wpAny_loadName_free fr.er.kind hk hc hi hQ (Bool.or_eq_false_iff.mp hxn).2
  refine load ?_
  refine wpAny_with_toks (n := s.toks) (Nat.le_refl _) (wpAny_mono (ev_sound hC hT hq A _ _ env s hr hΓ fr.er) (fun v s₁ h₁ ht => ?_) fun _ _ e => e)
  have fr1 := fr.keeps h₁.1 ht
  refine wpAny_with_toks (n := s₁.toks) (Nat.le_refl _) (wpAny_mono (evAug_sound h (rv0.keep (Keeps.k h₁.1)) h₁.2) (fun v' s₂ h₂ ht2 => ?_) fun _ _ e _ => e)
  have fr2 := fr1.keeps h₂.1 ht2
  exact wpAny_mono (fr_store fr2 hΓ hx h₂.2) (fun _ s' h' => ⟨.next, _, _, hR, rfl, h'⟩) fun _ _ e => e
end
end Mine
end

section
open PySem PySem.W PyProof.Rows PySem.SeqAt
set_option linter.unusedVariables false
namespace Mine
section
variable {prog : Program} {w : World} {C : Cx} {lv : Nat} {Γ : Names} {A : Around} {E : Value → Shared → Prop} {V : Addr → Prop} {env : Env} {G : Gr} {s₀ s s₁ : Shared} {ρ ρ' : Rho} {μ μ' : Mu} {R R' : CPost} {T : Str → List PV → Option PV}

theorem names_sub (f : Str → Pos → Bool) : ∀ (ts : List Expr) (xs : List Str), namesOf ts = some xs → (ts.filterMap fun
    | .Name id pos => if f id pos then some id else none
    | _ => none).Sublist xs ∧ ts.length = xs.length
  | [], xs, h => by simp [namesOf] at h; subst h; exact ⟨List.Sublist.slnil, rfl⟩
  | e :: es, xs, h => by
    cases e with
    | Name x pos =>
      cases hys : namesOf es with
      | none => simp [namesOf, nameOf1, hys] at h
      | some ys =>
        simp [namesOf, nameOf1, hys] at h
        subst h
        obtain ⟨h1, h2⟩ := names_sub f es ys hys
        refine ⟨?_, by simp [h2]⟩
        rw [List.filterMap_cons]
        simp only
        split
        · rename_i hf
          split at hf
          · cases hf
          · exact List.Sublist.cons _ h1
        · rename_i z hf
          split at hf
          · cases hf; exact List.Sublist.cons_cons _ h1
          · cases hf
    | _ => simp [namesOf, nameOf1] at h

theorem swapped_cases {ts : List Expr} {k : Nat} {tp : Pos} {xs : List Str} {v : Expr} (hn : namesOf ts = some xs) (hs : swapOk v = true) :
    swappedStores [.Tuple ts k tp] v env = pure none ∨ swappedStores [.Tuple ts k tp] v env = pure (some xs) := by
  cases v with
  | Tuple vs k2 p2 =>
    unfold swappedStores
    simp only
    split
    · exact .inl rfl
    · split
      · exact .inl rfl
      · split
        · exact .inl rfl
        · rename_i hnames
          split
          · exact .inl rfl
          · rename_i hf
            split
            · rename_i hc
              exfalso
              simp only [swapOk, Bool.or_eq_true, Bool.not_eq_true'] at hs
              rcases hs with hs | hs
              · first | exact clash hs hc | (rw [hs] at hc; cases hc)
              · exact hf hs
            · refine .inr ?_
              have hh := names_sub (fun id pos => env.kindOf id == some .local && pos.line == (ts.head?.map (·.pos.line)).getD 0) ts xs hn
              have hl : (ts.filterMap fun
                | .Name id pos => if (env.kindOf id == some .local && pos.line == (ts.head?.map (·.pos.line)).getD 0) = true then some id else none
                | _ => none).length = xs.length := by
                rw [← hh.2]
                simp only [Bool.or_eq_true, bne_iff_ne, ne_eq, not_or, Decidable.not_not] at hnames
                exact hnames.1
              have := hh.1.eq_of_length hl
              exact congrArg (fun z => (pure (some z) : Sem (Option (List Str)))) this
  | _ => exact .inl rfl
end
end Mine
end

section
open PySem PySem.W PyProof.Rows PySem.SeqAt
set_option linter.unusedVariables false
namespace Mine

/-- the module's function f, as it stands -/
structure FnAt (C : Cx) (f : Str) (params : List Str) (sc : Scope) (body : List Stmt) : Prop where
  fn : ∃ a o fd, C.mg f = some (.ref a) ∧ C.h0.get? a = some o ∧ o.data = .func fd ∧ fd.globals = mainGlobals ∧ fd.builtins = builtinsNs ∧ fd.closure = [] ∧ fd.scope = sc ∧ fd.body = .stmts body ∧ C.h0.CodeRec fd.code fd.qualname ∧
    (∀ vals : List Value, vals.length = params.length → bindArgs fd ⟨vals, []⟩ = pure (params.zip vals))
  kind : sc.kind = .function
  co : sc.isCoroutine = false
  gen : sc.isGenerator = false
  own : ∀ x ∈ params, ownOf sc.names x
  nofree : ∀ x, sc.names.lookup x ≠ some .free

/-- what a function's body gives back -/
noncomputable def Ret (r : PV) : CPost := fun c ρ μ => ∃ p, c = .ret p ∧ rs μ p = r

section
variable {prog : Program} {w : World} {C : Cx} {lv : Nat} {Γ : Names} {A : Around} {E : Value → Shared → Prop} {s : Shared} {ρ ρ' : Rho} {μ : Mu}

noncomputable def Bound (kindOf : Str → Option NameKind) (g : Gr) (ρ : Rho) (m cm : Str → Option Value) : Prop :=
  ∀ x p, ρ x = some p → ∃ v, ((kindOf x = some .local ∧ m x = some v) ∨ (kindOf x = some .cell ∧ cm x = some v)) ∧ Rep g p v

theorem bound_zip {kindOf : Str → Option NameKind} {g : Gr} : ∀ (params : List Str) (args : List PV) (vals : List Value) (ρ ρ' : Rho) (m cm : Str → Option Value), updMany ρ params args = some ρ' → Reps g args vals →
    (∀ x ∈ params, kindOf x = some .local ∨ kindOf x = some .cell) → Bound kindOf g ρ m cm → Bound kindOf g ρ' (bindL kindOf (params.zip vals) m) (bindC kindOf (params.zip vals) cm)
  | [], args, vals, ρ, ρ', m, cm, h, r, hk, hb => by
    cases args with
    | nil => simp [updMany] at h; subst h; exact hb
    | cons _ _ => simp [updMany] at h
  | n :: ns, args, vals, ρ, ρ', m, cm, h, r, hk, hb => by
    cases args with
    | nil => simp [updMany] at h
    | cons p ps =>
      rw [Reps] at r
      obtain ⟨v, vs', rfl, rv, rr⟩ := r
      simp only [updMany] at h
      rw [List.zip_cons_cons, bindL, bindC]
      refine bound_zip ns ps vs' _ ρ' _ _ h rr (fun x hx => hk x (List.mem_cons_of_mem _ hx)) ?_
      intro x q hx
      unfold upd at hx
      by_cases e : x = n
      · subst e
        rw [if_pos rfl] at hx; cases hx
        refine ⟨v, ?_, rv⟩
        rcases hk x List.mem_cons_self with h1 | h1
        · exact .inl ⟨h1, by rw [if_pos h1]; simp⟩
        · refine .inr ⟨h1, ?_⟩
          rw [if_neg (by rw [h1]; decide)]; simp
      · rw [if_neg e] at hx
        obtain ⟨u, hu, ru⟩ := hb x q hx
        refine ⟨u, ?_, ru⟩
        rcases hu with ⟨k1, k2⟩ | ⟨k1, k2⟩
        · refine .inl ⟨k1, ?_⟩
          split
          · simp only [if_neg e]; exact k2
          · exact k2
        · refine .inr ⟨k1, ?_⟩
          split
          · exact k2
          · simp only [if_neg e]; exact k2

theorem fn_call {f : Str} {params : List Str} {sc : Scope} {body : List Stmt} {args : List PV} {r : PV} {ρ0 : Rho} (hC : CxOk C) (F : FnAt C f params sc body) (hb : updMany (fun _ => none) params args = some ρ0)
    (hsat : SatM prog w C lv sc.names (trSs sc.names body) ρ0 (fun _ => none) (Ret r)) : CallOk prog w C (lv + 1) f args r := by
  obtain ⟨a, o, fd, h1, h2, h3, h4, h5, h6, h7, h8, h9, h10⟩ := F.fn
  refine ⟨a, o, fd, h1, h2, h3, fun A E W s vs hr hbase htk hwl hwb rp => ?_⟩
  have hlen : vs.length = params.length := by rw [rp.length, updMany_len _ _ _ _ hb]
  have hlim : s.heap.NoLimit := hC.lim.keeps hbase
  have hcd : s.heap.CodeRec fd.code fd.qualname := h9.keeps hbase
  refine wpAny_call (codeAny_call_function (by show A.depth < 1000; have := hr.dp; lia) (hbase _ _ h2) h3 (by rw [h7]; exact F.co) (by rw [h7]; exact F.gen) h8 hcd ?_)
  rw [h10 vs hlen, h6]
  have hkindP : ∀ x ∈ params.zip vs, fd.scope.names.lookup x.1 = some .local ∨ (fd.scope.names.lookup x.1 = some .cell ∧ ((cellsFrom (s.heap.objs.size + 1) fd.scope.names []).lookup x.1).isSome = true) := by
    intro x hx
    have := F.own x.1 (List.of_mem_zip hx).1
    rw [h7]
    rcases this with e | e
    · exact .inl e
    · refine .inr ⟨e, ?_⟩
      obtain ⟨c, hc, _⟩ := cellsFrom_new x.1 0 sc.names (s.heap.objs.size + 1) [] (Nat.zero_le _) (.inr (mem_of_lookup e))
      rw [hc]; rfl
  refine wpAny_pure (wpAny_with_toks (n := s.toks) (Nat.le_refl _) (wpAny_newFunctionEnv_cells (by rw [h7]; exact F.kind) hkindP fun env he s₁ x => fun htk1 => ⟨hlim.keeps x.toInCall.keep, codeAny_func ?_⟩))
  have hsc : env.scope = sc := by rw [he]; exact h7
  have hloc : env.locals = s.heap.objs.size := by rw [he]; rfl
  have hcells : env.cells = cellsFrom (s.heap.objs.size + 1) sc.names [] := by rw [he, ← h7]; rfl
  have hΓ : env.scope.names = sc.names := by rw [hsc]
  have fresh : ∀ b, s.heap.objs.size ≤ b → s.heap.get? b = none := fun b hb => by
    cases e : s.heap.get? b with
    | none => rfl
    | some o => exact absurd (Heap.lt_size e) (Nat.not_lt.mpr hb)
  have h0none : ∀ b, s.heap.get? b = none → C.h0.get? b = none := fun b hb => by
    cases e : C.h0.get? b with
    | none => rfl
    | some o => rw [hbase b o e] at hb; cases hb
  have hcf : ∀ y c, env.cells.lookup y = some c → s.heap.get? c = none := fun y c hc => fresh c (by
    have := x.above y c (mem_of_lookup hc)
    rw [hloc] at this; exact Nat.le_of_lt this)
  have hlf : s.heap.get? env.locals = none := by rw [hloc]; exact fresh _ (Nat.le_refl _)
  have hcel : ∀ y c, env.cells.lookup y = some c → ∃ cv, s₁.heap.IsCell c cv := fun y c hc => ⟨_, x.cell y c hc⟩
  have hns : ∃ m, s₁.heap.Ns env.locals m := ⟨_, x.toInCall.ns⟩
  have hWf : ∀ a, Wof env (fun _ => none) a → s.heap.get? a = none := by
    rintro a (rfl | ⟨y, hy⟩ | h)
    · exact hlf
    · exact hcf y a hy
    · cases h
  have hkd : ∀ y ∈ params, env.kindOf y = some .local ∨ env.kindOf y = some .cell := fun y hy => by
    show env.scope.names.lookup y = _ ∨ env.scope.names.lookup y = _
    rw [hΓ]; exact F.own y hy
  have bz := bound_zip params args vs (fun _ => none) ρ0 (fun _ => none) (fun _ => none) hb rp hkd (fun _ _ h => by cases h)
  have er : ER C (fun a => Wof env (fun _ => none) a ∨ W a) env s₁ ρ0 (fun _ => none) := by
    refine ⟨by rw [hsc]; exact F.kind, by rw [he]; exact h4, by rw [he]; exact h5, fun b o e => x.toInCall.keep b o (hbase b o e), ?_, ⟨?_, fun a xs hx => by cases hx⟩, ?_, Nat.le_trans htk htk1, ?_, ?_, hcel⟩
    · rintro a (h | h)
      · exact h0none a (hWf a h)
      · exact hwb a h
    · rintro a ((rfl | ⟨y, hy⟩ | h) | h)
      · obtain ⟨m, o, _, _, ho, _⟩ := hns; exact ⟨o, ho⟩
      · obtain ⟨cv, o, ho, _⟩ := hcel y a hy; exact ⟨o, ho⟩
      · cases h
      · obtain ⟨o, ho⟩ := hwl a h; exact ⟨o, x.toInCall.keep a o ho⟩
    · intro y p hy
      obtain ⟨v, hv, rv⟩ := bz y p hy
      refine ⟨v, ?_, Rep.mono (fun a o z => ⟨x.toInCall.keep a o z.1, fun hw => hw.elim (fun h => by have := hWf a h; first | exact clash z.1 this | (rw [z.1] at this; cases this)) z.2⟩) _ _ rv⟩
      rcases hv with ⟨k1, k2⟩ | ⟨k1, k2⟩
      · exact .inl ⟨k1, _, x.toInCall.ns, k2⟩
      · have k1' : sc.names.lookup y = some .cell := by rw [← hΓ]; exact k1
        obtain ⟨c, hc, _⟩ := cellsFrom_new y 0 sc.names (s.heap.objs.size + 1) [] (Nat.zero_le _) (.inr (mem_of_lookup k1'))
        rw [← hcells] at hc
        have := x.cell y c hc
        rw [k2] at this
        exact .inr ⟨.inl k1, c, hc, this⟩
    · intro y hy
      rcases hy with k1 | k1
      · have k1' : sc.names.lookup y = some .cell := by rw [← hΓ]; exact k1
        obtain ⟨c, hc, _⟩ := cellsFrom_new y 0 sc.names (s.heap.objs.size + 1) [] (Nat.zero_le _) (.inr (mem_of_lookup k1'))
        rw [← hcells] at hc
        obtain ⟨cv, hcv⟩ := hcel y c hc
        exact ⟨c, cv, hc, hcv⟩
      · exact absurd (by rw [← hΓ]; exact k1) (F.nofree y)
    · intro y z c hy hz
      exact name_of_addr x.apart (mem_of_lookup hy) (mem_of_lookup hz)
  have fr : FR C env W (fun a o => s.heap.get? a = some o) s s₁ ρ0 (fun _ => none) :=
    ⟨er, hns, x.toInCall.same, fun a o g => x.toInCall.keep a o g, fun a o g hw => (by have := hWf a hw; first | exact clash g this | (rw [g] at this; cases this)), fun a hv hw => (by obtain ⟨o, ho⟩ := hwl a hv; have := hWf a hw; first | exact clash ho this | (rw [ho] at this; cases this))⟩
  have hroom : Room lv (A.deeper env) := ⟨hr.hd, by have := hr.dp; show A.depth + 1 + lv + 1 ≤ 900; lia, by have := hr.un; show A.units + 3 + 4 * lv + 100 ≤ 9000; lia⟩
  refine wpAny_mono (hsat body rfl (A.deeper env) _ W env _ s s₁ hroom hΓ fr) (fun fl s' ho => ?_) fun _ _ e => e
  obtain ⟨c, ρ', μ', ⟨p, rfl, hp⟩, hfl, fr'⟩ := ho
  obtain ⟨v, rfl, rv⟩ := hfl
  subst hp
  refine ⟨?_, ?_⟩
  · obtain ⟨h', tk', e⟩ := fr'.shape
    exact ⟨h', tk', e, fun b o hb => by have := fr'.prot b o hb; rw [e] at this; exact this⟩
  · refine Rep.mono (fun a o z => ⟨z.1, fun hw => z.2 ⟨.inr hw, ?_⟩⟩) _ _ (rs_rep fr'.er.sr rv)
    cases e : μ' a with
    | none => rfl
    | some xs =>
      obtain ⟨o', ho'⟩ := hwl a hw
      exact absurd (.inr (.inr (by rw [e]; rfl))) (fr'.apart a o' ho')
end
end Mine
end

section
open PySem PySem.W PyProof.Rows PySem.SeqAt
set_option linter.unusedVariables false
namespace Mine
section
variable {prog : Program} {w : World} {C : Cx} {lv : Nat} {Γ : Names} {A : Around} {E : Value → Shared → Prop} {V : Addr → Prop} {env : Env} {G : Gr} {s₀ s s₁ : Shared} {ρ ρ' : Rho} {μ μ' : Mu} {R R' : CPost} {T : Str → List PV → Option PV}

/-- two names take the two items of a tuple, in either order of the stores -/
theorem unpack_core {ts : List Expr} {k : Nat} {tp : Pos} {x y : Str} {p q : PV} {v : Value} {sw : Option (List Str)} (fr : FR C env V G s₀ s ρ μ) (hr : Room lv A) (hΓ : env.scope.names = Γ) (hn : namesOf ts = some [x, y]) (hx : ownOf Γ x) (hy : ownOf Γ y) (hxy : x ≠ y)
    (hsw : sw = none ∨ sw = some [x, y]) (rv : Rep (frz s.heap (fun a => Wof env μ a ∨ V a)) (.tup [p, q]) v) :
    wpAny (model prog w) A (assignStores env v sw ((assignEach [.Tuple ts k tp] env).map (·.2))) (fun fl s' => fl = .next ∧ FR C env V G s₀ s' (upd (upd ρ x p) y q) μ) E s := by
  rcases hsw with rfl | rfl
  · show wpAny _ _ (do assignAll v [assign (.Tuple ts k tp) env]; pure Flow.next) _ _ _
    refine wpAny_bind (wpAny_mono (fr_assign (tgt := .Tuple ts k tp) (q := .tup [p, q]) (ρ' := upd (upd ρ x p) y q) fr hr hΓ (by simp [trTgt, hn, bindT, updMany]) (fun z hz => ?_) rv) (fun _ s' h' => wpAny_pure ⟨rfl, h'⟩) fun _ _ e => e)
    simp [trTgt, hn, tgtNames] at hz
    rcases hz with rfl | rfl
    · exact hx
    · exact hy
  · obtain ⟨b, vs, n, rfl, hg, hl, hrp⟩ := rep_tup.mp rv
    obtain ⟨v1, v2, rfl, r1, r2⟩ := reps_two hrp
    show wpAny _ _ (do rule "assign.swapped-stores"; let items ← unpackItems (.ref b) ([v1, v2].toArray).size none; assignInOrder [bindName env y, bindName env x] items.reverse; pure Flow.next) _ _ _
    refine wpAny_bind (wpAny_rule (wpAny_bind (wpAny_unpackItems_tuple (items := [v1, v2].toArray) hr.hd (isTuple_of hg.1) fun h' he => ?_)))
    have hk : ∀ b o, s.heap.get? b = some o → h'.get? b = some o := fun b o e => he b o (Nat.ne_of_lt (Heap.lt_size e)) e
    have fr1 := fr.keeps (s₁ := { s with heap := h' }) ⟨h', s.toks, rfl, hk⟩ (Nat.le_refl _)
    show wpAny _ _ ((holding [v1] (bindName env y v2) >>= fun _ => assignInOrder [bindName env x] [v1]) >>= fun _ => pure Flow.next) _ _ _
    refine wpAny_bind (wpAny_bind (wpAny_holding (wpAny_bindName ?_)))
    have r1' : Rep (frz h' (fun a => Wof env μ a ∨ V a)) p v1 := r1.keep hk
    have r2' : Rep (frz h' (fun a => Wof env μ a ∨ V a)) q v2 := r2.keep hk
    obtain ⟨hky, hwy⟩ := slot_W fr1 hΓ hy
    refine wpAny_mono (store_KB (M := fun a => a = slotOf env y) fr1.er fr1.ns hky (.inl hwy) rfl r2') (fun _ s₂ h₂ => ?_) fun _ _ e => e
    have fr2 := fr1.step h₂.1 (fun a ha => ha ▸ hwy) h₂.2.1 h₂.2.2 fun a ha => .inl ha
    have r1'' : Rep (frz s₂.heap (fun a => Wof env μ a ∨ V a)) p v1 := Rep.mono (fun a o z => ⟨h₂.1.2.1 a o (fun e => z.2 (.inl (e ▸ hwy))) z.1, z.2⟩) _ _ r1'
    show wpAny _ _ (holding [] (bindName env x v1) >>= fun _ => assignInOrder [] []) _ _ _
    refine wpAny_bind (wpAny_holding (wpAny_bindName (wpAny_mono (fr_store fr2 hΓ hx r1'') (fun _ s₃ fr3 => ?_) fun _ _ e => e)))
    refine wpAny_pure (wpAny_pure ⟨rfl, ?_⟩)
    have : upd (upd ρ y q) x p = upd (upd ρ x p) y q := by
      funext z
      unfold upd
      by_cases e1 : z = x
      · subst e1; simp [hxy]
      · simp [e1]
    rw [← this]
    exact fr3

theorem exec_unpack {ts : List Expr} {k : Nat} {tp : Pos} {v : Expr} {pos : Pos} {x y : Str} {p q : PV} (hr : Room lv A) (hΓ : env.scope.names = Γ) (hn : namesOf ts = some [x, y]) (hs : swapOk v = true) (hx : ownOf Γ x) (hy : ownOf Γ y) (hxy : x ≠ y) {μ' : Mu}
    (hsole : swapsWithSole [.Tuple ts k tp] v pos.line env = pure false) (h : wpAny (model prog w) A (eval v env) (fun v s₁ => ∃ μ' p q, R .next (upd (upd ρ x p) y q) μ' ∧ FR C env V G s₀ s₁ ρ μ' ∧ Rep (frz s₁.heap (fun a => Wof env μ' a ∨ V a)) (.tup [p, q]) v) E s) :
    wpAny (model prog w) A (exec (.Assign [.Tuple ts k tp] v pos) env) (Out C env V G s₀ R) E s := by
  rw [PyProof.Rows.exec_Assign, hsole]
  refine wpAny_bind (wpAny_standAt (wpAny_bind (wpAny_pure ?_)))
  refine KFB.if_not rfl ?_
  refine wpAny_bind (wpAny_mono h (fun u s₁ h₁ => ?_) fun _ _ e => e)
  obtain ⟨μ', p, q, hR, fr, rv⟩ := h₁
  rcases swapped_cases (env := env) (k := k) (tp := tp) hn hs with e | e
  · refine wpAny_bind (wpAny_of_eq e ?_)
    exact wpAny_mono (unpack_core fr hr hΓ hn hx hy hxy (.inl rfl) rv) (fun fl s' h' => ⟨.next, _, _, hR, h'.1, h'.2⟩) fun _ _ e => e
  · refine wpAny_bind (wpAny_of_eq e ?_)
    exact wpAny_mono (unpack_core fr hr hΓ hn hx hy hxy (.inr rfl) rv) (fun fl s' h' => ⟨.next, _, _, hR, h'.1, h'.2⟩) fun _ _ e => e

theorem sole_tuple {ts : List Expr} {k : Nat} {tp : Pos} {v : Expr} {l : Nat} : swapsWithSole [.Tuple ts k tp] v l env = pure false := by
  show swapsWith v (some (.Tuple ts k tp)) l env = pure false
  unfold swapsWith
  cases v <;> rfl

theorem sat_unpack {x y : Str} {e : MExpr} {p q : PV} (hC : CxOk C) (hT : TOk prog w C lv T) (hx : ownOf Γ x) (hy : ownOf Γ y) (hxy : x ≠ y) (h : ev T μ e ρ = some (.tup [p, q])) (hR : R .next (upd (upd ρ x p) y q) μ) : Sat1 prog w C lv Γ (.unpack [x, y] e) ρ μ R := by
  intro st hst A E V env G s₀ s hr hΓ fr
  obtain ⟨ts, k, tp, v, pos, rfl, hn, rfl, hs⟩ := inv_unpack hst
  exact exec_unpack (p := p) (q := q) (μ' := μ) hr hΓ hn hs hx hy hxy sole_tuple (fr.evStep hC hT hr hΓ h fun u s₁ fr1 rv => ⟨μ, p, q, hR, fr1, rv⟩)

theorem fr_new {xs : List PV} {v : Value} (fr : FR C env V G s₀ s ρ μ) (h : PostL (fun a => Wof env μ a ∨ V a) s xs v s₁) (htk : s.toks ≤ s₁.toks) : ∃ a, v = .ref a ∧ μ a = none ∧ FR C env V G s₀ s₁ ρ (muSet μ a xs) := by
  obtain ⟨k, a, vs, n, rfl, ha, ha1, hvl, hrp⟩ := h
  refine ⟨a, rfl, fresh_mu fr ha, ?_⟩
  have er1 := er_congr (er_own fr.er k htk ha ha1 hvl hrp) fun b => (Wof_set (V := V) (env := env) (μ := μ) (a := a) (xs := xs) b).symm
  obtain ⟨m, hm⟩ := fr.ns
  refine fr.step (M := fun _ => False) (KB.of_keeps k htk) (fun _ h => h.elim) er1 ⟨m, hm.keeps (Keeps.k k)⟩ fun b hb => ?_
  unfold muSet at hb
  split at hb
  · rename_i e; subst e; exact .inr ha
  · exact .inl hb

/-- x, y = [..], e with the list made anew -/
theorem sat_unpack_own {x y : Str} {es : List MExpr} {e : MExpr} {xs : List PV} {q : PV} (hC : CxOk C) (hT : TOk prog w C lv T) (hx : ownOf Γ x) (hy : ownOf Γ y) (hxy : x ≠ y) (h : evs T μ es ρ = some xs) (hl : xs.length ≤ SZ) (hq : ∀ a, μ a = none → ev T (muSet μ a xs) e ρ = some q)
    (hR : ∀ a, μ a = none → R .next (upd (upd ρ x (.own a)) y q) (muSet μ a xs)) : Sat1 prog w C lv Γ (.unpack [x, y] (.tup [.lst es, e])) ρ μ R := by
  intro st hst A E V env G s₀ s hr hΓ fr
  obtain ⟨ts, k, tp, v, pos, rfl, hn, hv, hs⟩ := inv_unpack hst
  obtain ⟨es', k2, p2, rfl, he⟩ := inv_tup hv
  match es', he with
  | [v1, v2], he =>
    rw [trs, trs, trs] at he
    injection he with he1 he2
    injection he2 with he2 _
    obtain ⟨fs, pl, rfl, rfl⟩ := inv_lst he1
    refine exec_unpack (ρ := ρ) (p := .none) (q := q) (μ' := μ) hr hΓ hn hs hx hy hxy sole_tuple (wpAny_Tuple_spliced ?_)
    have hst1 : starEach [.List fs pl, v2] env = (false, eval (.List fs pl) env) :: starEach [v2] env := rfl
    have hq0 := hq s.heap.objs.size (fresh_mu fr (fresh_none _))
    rw [← he2] at hq0 hq
    have hst2 : starEach [v2] env = [(false, eval v2 env)] := tr_star hq0 [] env
    rw [hst1, hst2]
    show wpAny _ _ (spliced [(false, eval (.List fs pl) env), (false, eval v2 env)]) _ _ _
    refine Calls.spliced_cons (wpAny_with_toks (n := s.toks) (Nat.le_refl _) (wpAny_mono (list_sound (evs_sound hC hT h) hl hr hΓ fr.er) (fun u s₁ h₁ htk => ?_) fun _ _ e _ => e))
    obtain ⟨a, rfl, ha, fr1⟩ := fr_new fr h₁ htk
    refine Calls.spliced_cons (fr1.evStep hC hT hr hΓ (hq a ha) fun u2 s₂ fr2 rv2 => Calls.spliced_nil ⟨by simp [← SZ_eq, SZ], muSet μ a xs, .own a, q, hR a ha, ?_, ?_⟩)
    · exact fr2.keeps (Keeps.push _ _) (Nat.le_refl _)
    · have := post_tup (n := 0) (tk := s₂.toks) fr2.er.sr (vs := [.ref a, u2]) (xs := [.own a, q]) (by simp [SZ]) (Reps.cons (rep_own.mpr rfl) (Reps.cons rv2 Reps.nil))
      exact this.2
  | [], he => first | exact clash trs he | (rw [trs] at he; cases he)
  | [_], he => have := congrArg List.length he; simp [trs_len] at this
  | _ :: _ :: _ :: _, he => have := congrArg List.length he; simp [trs_len] at this

/-- x, y, z = l.pop() -/
theorem sat_pop {l : Str} {xs : List Str} {a : Addr} {ps : List PV} {qs : List PV} (hC : CxOk C) (hT : TOk prog w C lv T) (hl : ρ l = some (.own a)) (hμ : μ a = some (ps ++ [.tup qs])) (hx : ∀ x ∈ xs, ownOf Γ x) (hu : updMany ρ xs qs = some ρ') (hR : R .next ρ' (muSet μ a ps)) :
    Sat1 prog w C lv Γ (.popTo xs (.var l)) ρ μ R := by
  intro st hst A E V env G s₀ s hr hΓ fr
  obtain ⟨ts, k, tp, o, apos, pos, spos, rfl, hn, ho, hline⟩ := inv_pop hst
  obtain ⟨np, rfl⟩ := inv_var ho
  rw [PyProof.Rows.exec_Assign, sole_tuple]
  refine wpAny_bind (wpAny_standAt (wpAny_bind (wpAny_pure ?_)))
  refine KFB.if_not rfl ?_
  refine wpAny_bind (wpAny_Call_method0_late rfl hline ?_)
  refine fr.evStep hC hT hr hΓ (p := .own a) (by rw [ho, ev]; exact hl) fun v s₁ fr1 rv => ?_
  have := rep_own.mp rv; subst this
  obtain ⟨us, j, h1, h2, h3⟩ := fr1.er.sr.ls a _ hμ
  refine ⟨"list", "list.pop", F.plainAttrs_list, F.slot_list_pop, F.type_list_pop, ⟨_, h1, rfl⟩, fun b hb => ⟨lObj us j, (by cases hb; exact h1), rfl⟩, ?_⟩
  refine Calls.callWith_builtin rfl (PyProof.Rows.evalArgs_nil3 ?_)
  have hlen : us.length = ps.length + 1 := by rw [h3.length]; simp
  obtain ⟨y, hy, ry⟩ := h3.get ps.length (.tup qs) (by simp)
  obtain ⟨k', hk', hs'⟩ := upd_list (h := s₁.heap) (fun z => z.eraseIdxIfInBounds (us.toArray.size - 1)) h1
  refine call_meets F.slot_list_pop ⟨_, h1, rfl⟩ F.entry_list_pop (F.args_list_pop_1 _) (MeetsSeq.list_pop_last a us.toArray j y (by rw [List.size_toArray, hlen, Nat.add_sub_cancel, List.getElem?_toArray]; exact hy) (by simp [← SZ_eq]; exact h2)) ⟨h1, ?_⟩
  have he : (us.toArray.eraseIdxIfInBounds (us.toArray.size - 1)).toList = us.take ps.length := by
    have hlt : us.toArray.size - 1 < us.toArray.size := by simp [hlen]
    rw [Array.eraseIdxIfInBounds, dif_pos hlt, Array.toList_eraseIdx, List.eraseIdx_eq_take_drop_succ]
    simp [hlen]
  have fr2 : FR C env V G s₀ { s₁ with heap := s₁.heap.update a (Obj.mapSeq fun xs => xs.eraseIdxIfInBounds (us.toArray.size - 1)) } ρ (muSet μ a ps) :=
    fr_mut (vs := us.take ps.length) (n := k') fr1 hμ (fun b o hb e => hs'.extBut b o hb e) (by rw [hk', he]) (by simp; lia) (by simpa using h3.take ps.length)
  have ry' : Rep (frz (s₁.heap.update a (Obj.mapSeq fun xs => xs.eraseIdxIfInBounds (us.toArray.size - 1))) (fun b => Wof env (muSet μ a ps) b ∨ V b)) (.tup qs) y := by
    rw [Wof_set' hμ]
    exact Rep.mono (fun b o z => ⟨hs'.extBut b o (fun e => z.2 (.inl (.inr (.inr (by rw [e, hμ]; rfl))))) z.1, z.2⟩) _ _ ry
  refine wpAny_bind (wpAny_pure ?_)
  show wpAny _ _ (do assignAll y [assign (.Tuple ts k tp) env]; pure Flow.next) _ _ _
  refine wpAny_bind (wpAny_mono (fr_assign (tgt := .Tuple ts k tp) (q := .tup qs) (ρ' := ρ') fr2 hr hΓ (by simp [trTgt, hn, bindT, hu]) (fun z hz => ?_) ry') (fun _ s' h' => wpAny_pure ⟨.next, _, _, hR, rfl, h'⟩) fun _ _ e => e)
  simp [trTgt, hn, tgtNames] at hz
  exact hx z hz

/-- an owned list is written no more -/
noncomputable def froze (μ : Mu) (a : Addr) (p : PV) : PV := match p with
  | .own b => if b = a then (match μ a with | some xs => .lst xs | none => p) else p
  | p => p
noncomputable def muDel (μ : Mu) (a : Addr) : Mu := fun b => if b = a then none else μ b

end
end Mine
end

section
open PySem PySem.W PyProof.Rows PySem.SeqAt
set_option linter.unusedVariables false
namespace Mine

theorem cx_of {p : Program} {loose : List Str} {mean : ExcName → Option Value} {mg mb : Str → Option Value} {h : Heap} (T : Top p loose mean mg mb h) (tk0 : Nat)
    (hb : biNames.all (fun x => !startupNames.contains x && !loose.contains x && !((recsOf p).map (·.name)).contains x && !((litsOf p).map (·.1)).contains x && !((clssOf p loose).map (·.name)).contains x && x != "__name__") = true) : CxOk ⟨h, mg, mb, tk0⟩ := by
  refine ⟨T.g, T.b, T.nolimit, fun x hx => ?_⟩
  have := List.all_eq_true.mp hb x hx
  simp only [Bool.and_eq_true, Bool.not_eq_true', bne_iff_ne, ne_eq] at this
  obtain ⟨⟨⟨⟨⟨h1, h2⟩, h3⟩, h4⟩, h5⟩, h6⟩ := this
  have nm : ∀ {l : List Str}, l.contains x = false → x ∉ l := fun h hm => by
    rw [List.contains_iff_mem.mpr hm] at h; cases h
  exact ⟨T.free x (nm h1) (nm h2) (nm h3) (nm h4) (nm h5), T.builtins x h6⟩

/-- names of the parameters, plain ones alone -/
noncomputable def plainParams (a : Arguments) : Option (List Str) :=
  match a.posonlyargs, a.vararg, a.kwonlyargs, a.kw_defaults, a.kwarg, a.defaults with
  | [], none, [], [], none, [] => some (a.args.map (·.arg))
  | _, _, _, _, _, _ => none

theorem fn_of {p : Program} {loose : List Str} {mean : ExcName → Option Value} {mg mb : Str → Option Value} {h : Heap} (T : Top p loose mean mg mb h) (tk0 : Nat) (d : DefRec) (hd : d ∈ recsOf p) (params : List Str)
    (hp : ∀ (pm code doc : Value) (vals : List Value), vals.length = params.length → bindArgs (Calls.docDef d.name d.params d.body d.scope pm code doc) ⟨vals, []⟩ = pure (params.zip vals))
    (hk : d.scope.kind = .function) (hco : d.scope.isCoroutine = false) (hgen : d.scope.isGenerator = false) (hown : ∀ x ∈ params, ownOf d.scope.names x) (hfree : ∀ x, d.scope.names.lookup x ≠ some .free) :
    FnAt ⟨h, mg, mb, tk0⟩ d.name params d.scope d.body := by
  obtain ⟨a, o, pm, code, doc, h1, h2, h3, h4⟩ := T.fn d hd
  exact ⟨⟨a, o, _, h1, h2, h3, rfl, rfl, rfl, rfl, rfl, h4, fun vals hv => hp pm code doc vals hv⟩, hk, hco, hgen, hown, hfree⟩

theorem nofree_of {ns : Names} (h : ns.all (fun x => x.2 != .free) = true) : ∀ x, ns.lookup x ≠ some .free := by
  intro x hx
  have := List.all_eq_true.mp h (x, .free) (mem_of_lookup hx)
  cases this

/-- the script: a list of whole numbers -/
theorem script_of {P : Params} {h : Heap} {vals : List Value} {is : List Int} (hw : WellAll P h vals [.list (is.map .int)]) (hl : is.length ≤ 63) : Reps (frz h (fun _ => False)) [.lst (is.map .int)] vals := by
  cases hw with
  | cons h1 h2 =>
    cases h2
    cases h1 with
    | @list a vs _ ho hvs =>
      have key : ∀ (is : List Int) (vs : List Value), WellAll P h vs (is.map .int) → Reps (frz h (fun _ => False)) (is.map .int) vs := by
        intro is
        induction is with
        | nil => intro vs hv; cases hv; exact Reps.nil
        | cons i is ih =>
          intro vs hv
          cases hv with
          | cons g1 g2 =>
            cases g1
            exact Reps.cons (rep_int.mpr ⟨_, rfl⟩) (ih _ g2)
      have hr := key is vs hvs
      exact Reps.cons (rep_lst.mpr ⟨a, vs, 0, rfl, ⟨ho, fun h => h⟩, by rw [hr.length]; simp [SZ]; lia, hr⟩) Reps.nil

theorem pre_ints {R : WRecords} {args : List WData} (h : WShape.hasAll R args [.list .int] = true) : ∃ is : List Int, args = [.list (is.map .int)] := by
  obtain ⟨d, r, rfl, h1, h2⟩ := hasAllW_cons h
  have := hasAllW_nil h2; subst this
  obtain ⟨xs, rfl, h3⟩ := hasW_list h1
  have key : ∀ xs : List WData, WShape.hasItems R xs .int = true → ∃ is : List Int, xs = is.map .int := by
    intro xs
    induction xs with
    | nil => intro _; exact ⟨[], rfl⟩
    | cons x xs ih =>
      intro hx
      simp only [WShape.hasItems, Bool.and_eq_true] at hx
      obtain ⟨i, rfl⟩ := hasW_int hx.1
      obtain ⟨is, rfl⟩ := ih hx.2
      exact ⟨i :: is, rfl⟩
  obtain ⟨is, rfl⟩ := key xs h3
  exact ⟨is, rfl⟩

theorem pre_len {R : WRecords} {is : List Int} (h : WTm.holds R (((WTm.lit (WData.int (Int.ofNat 63))).lt (WTm.arg 0).len).not.and (WTm.lit (WData.bool true))) { args := [.list (is.map .int)] } = true) : is.length ≤ 63 := by
  rcases Nat.lt_or_ge 63 is.length with hh | hh
  · exfalso
    have hl : less? (WData.int 63) (WData.int is.length) = some true := by
      show some (decide ((63 : Int) < (is.length : Int))) = some true
      rw [decide_eq_true (by lia)]
    simp [WTm.holds, WTm.value, hl] at h
  · exact hh

/-- the end of the law: True comes back, all else is kept -/
theorem good_true {c : ClaimW} {cl : Str → Option Addr} {mean : ExcName → Option Value} {args : List WData} {s s' : Shared} {v : Value} {W : Addr → Prop} (hg : s.gens = #[]) (hra : ∀ cls, c.raises args cls = false) (hpost : c.post args (.bool true) args = true)
    (h : Post W s (.bool true) v s') : GoodWG c cl mean args s (.ok (.ret v)) s' := by
  have := rep_bool.mp h.2; subst this
  obtain ⟨h', tk, rfl, hk⟩ := h.1
  exact GoodW.toG ⟨.inl ⟨_, _, _, rfl, hra, .bool true, hpost, fun _ => ⟨List.nodup_nil, fun a ha => (nomatch ha)⟩⟩, hk, rfl, hg⟩
end Mine
end

section
open PySem PySem.W PyProof.Rows PySem.SeqAt
set_option linter.unusedVariables false
set_option maxRecDepth 10000
namespace Mine

/-- a part: the star, or a text -/
noncomputable def encP (s : Addr) : Option (List Nat) → PV
  | none => .obj s
  | some x => .str x

noncomputable def isTxt : Option (List Nat) → Bool
  | some _ => true
  | none => false
/-- the texts at the front, and what comes behind them -/
noncomputable def txts : List (Option (List Nat)) → List (List Nat)
  | some x :: r => x :: txts r
  | _ => []
noncomputable def behind : List (Option (List Nat)) → List (Option (List Nat))
  | some _ :: r => behind r
  | r => r
theorem txts_behind : ∀ ps, ps = (txts ps).map some ++ behind ps
  | [] => rfl
  | none :: r => rfl
  | some x :: r => by simp only [txts, behind, List.map_cons, List.cons_append]; rw [← txts_behind r]
theorem behind_len : ∀ ps, (behind ps).length ≤ ps.length
  | [] => Nat.le_refl _
  | none :: r => Nat.le_refl _
  | some x :: r => by simp only [behind, List.length_cons]; exact Nat.le_succ_of_le (behind_len r)

/-- what is written for the parts from the first star on -/
noncomputable def tailOf : Nat → List (Option (List Nat)) → Option (List (List Nat))
  | 0, _ => none
  | _ + 1, [] => some []
  | _ + 1, some _ :: _ => none
  | _ + 1, [none] => some [[46, 42]]
  | _ + 1, none :: none :: _ => none
  | k + 1, none :: some x :: r =>
    if behind (some x :: r) = [] then some [[46, 42], (txts (some x :: r)).flatten]
    else (tailOf k (behind (some x :: r))).map fun t => ([40, 63, 62, 46, 42, 63] ++ (txts (some x :: r)).flatten ++ [41]) :: t

noncomputable def joinTxt (ps : List (Option (List Nat))) : Option (List Nat) :=
  (tailOf (ps.length + 1) (behind ps)).map fun t => [40, 63, 115, 58] ++ (txts ps ++ t).flatten ++ [41, 92, 90]

noncomputable def bJoin : List MStmt := [
  .assign "res" (.lst []),
  .bindApp "add" (.var "res"),
  .unpack ["i", "n"] (.tup [(.const (.int 0)), (.call "len" [(.var "inp")])]),
  .while_ (.and (.cmp .Lt (.var "i") (.var "n")) (.cmp .IsNot (.idx (.var "inp") (.var "i")) (.var "STAR"))) [
    .callv "add" (.idx (.var "inp") (.var "i")),
    .aug "i" .Add (.const (.int 1))],
  .while_ (.cmp .Lt (.var "i") (.var "n")) [
    .assert_ (.cmp .Is (.idx (.var "inp") (.var "i")) (.var "STAR")),
    .aug "i" .Add (.const (.int 1)),
    .if_ (.cmp .Eq (.var "i") (.var "n")) [
      .callv "add" (.const (.str [46, 42])),
      .brk] [],
    .assert_ (.cmp .IsNot (.idx (.var "inp") (.var "i")) (.var "STAR")),
    .assign "fixed" (.lst []),
    .while_ (.and (.cmp .Lt (.var "i") (.var "n")) (.cmp .IsNot (.idx (.var "inp") (.var "i")) (.var "STAR"))) [
      .mcall (.var "fixed") "append" (.idx (.var "inp") (.var "i")),
      .aug "i" .Add (.const (.int 1))],
    .assign "fixed" (.meth (.const (.str [])) "join" [(.var "fixed")]),
    .if_ (.cmp .Eq (.var "i") (.var "n")) [
      .callv "add" (.const (.str [46, 42])),
      .callv "add" (.var "fixed")] [
      .callv "add" (.fstr [(.const (.str [40, 63, 62, 46, 42, 63])), (.fmt (.var "fixed")), (.const (.str [41]))])]],
  .assert_ (.cmp .Eq (.var "i") (.var "n")),
  .assign "res" (.meth (.const (.str [])) "join" [(.var "res")]),
  .ret (.fstr [(.const (.str [40, 63, 115, 58])), (.fmt (.var "res")), (.const (.str [41, 92, 90]))])]

noncomputable def nJoin : Names := [("inp", .local), ("STAR", .local), ("res", .local), ("add", .local), ("i", .local), ("n", .local), ("fixed", .local), ("len", .globalImplicit)]

structure JV (ps : List (Option (List Nat))) (s a : Addr) (k : Nat) (out : List (List Nat)) (ρ : Rho) (μ : Mu) : Prop where
  inp : ρ "inp" = some (.lst (ps.map (encP s)))
  star : ρ "STAR" = some (.obj s)
  n : ρ "n" = some (.int ps.length)
  i : ρ "i" = some (.int k)
  add : ρ "add" = some (.app a)
  res : ρ "res" = some (.own a)
  mu : μ a = some (out.map .str)
  le : k ≤ ps.length

noncomputable abbrev T0 : Str → List PV → Option PV := fun _ _ => none

section
variable {prog : Program} {w : World} {C : Cx} {lv : Nat} {ρ : Rho} {μ : Mu} {R : CPost} {ps : List (Option (List Nat))} {s a : Addr} {k : Nat} {out : List (List Nat)}

theorem t0ok : TOk prog w C lv T0 := fun _ _ _ h => by cases h

theorem JV.push (h : JV ps s a k out ρ μ) (x : List Nat) : JV ps s a k (out ++ [x]) ρ (muSet μ a (out.map .str ++ [.str x])) :=
  { h with mu := by simp [muSet] }
theorem JV.inc (h : JV ps s a k out ρ μ) (hk : k < ps.length) : JV ps s a (k + 1) out (upd ρ "i" (.int (k + 1 : Nat))) μ :=
  ⟨by rw [← h.inp]; rfl, by rw [← h.star]; rfl, by rw [← h.n]; rfl, rfl, by rw [← h.add]; rfl, by rw [← h.res]; rfl, h.mu, hk⟩
theorem JV.fixed (h : JV ps s a k out ρ μ) (p : PV) : JV ps s a k out (upd ρ "fixed" p) μ :=
  ⟨by rw [← h.inp]; rfl, by rw [← h.star]; rfl, by rw [← h.n]; rfl, by rw [← h.i]; rfl, by rw [← h.add]; rfl, by rw [← h.res]; rfl, h.mu, h.le⟩
theorem JV.muNe (h : JV ps s a k out ρ μ) {b : Addr} (hb : b ≠ a) (xs : List PV) : JV ps s a k out ρ (muSet μ b xs) :=
  { h with mu := by unfold muSet; rw [if_neg (Ne.symm hb)]; exact h.mu }

theorem idx_enc (h : JV ps s a k out ρ μ) {x : Option (List Nat)} (hx : ps[k]? = some x) : ev T0 μ (.idx (.var "inp") (.var "i")) ρ = some (encP s x) := by
  simp [ev, h.inp, h.i, evIdx, rs, getI, hx]
theorem lt_enc (h : JV ps s a k out ρ μ) : ev T0 μ (.cmp .Lt (.var "i") (.var "n")) ρ = some (.bool (decide (k < ps.length))) := by
  simp [ev, h.i, h.n, evCmp, int2]
theorem eq_enc (h : JV ps s a k out ρ μ) : ev T0 μ (.cmp .Eq (.var "i") (.var "n")) ρ = some (.bool (decide (k = ps.length))) := by
  simp only [ev, h.i, h.n, evCmp, int2, pveq8_i, pveq8_s, pveq8_b, pveq8_nb, pveq8_bn, pveq8_nn, pveq8_l, pveq7_s, pveq7_i, rs, Option.map_some]
  congr 2
  rw [Bool.eq_iff_iff]; simp; lia
theorem isnot_enc (h : JV ps s a k out ρ μ) {x : Option (List Nat)} (hx : ps[k]? = some x) : ev T0 μ (.cmp .IsNot (.idx (.var "inp") (.var "i")) (.var "STAR")) ρ = some (.bool (isTxt x)) := by
  rw [ev, idx_enc h hx]
  cases x <;> simp [ev, h.star, evCmp, int2, encP, pvis, isTxt]
theorem is_enc (h : JV ps s a k out ρ μ) {x : Option (List Nat)} (hx : ps[k]? = some x) : ev T0 μ (.cmp .Is (.idx (.var "inp") (.var "i")) (.var "STAR")) ρ = some (.bool (!isTxt x)) := by
  rw [ev, idx_enc h hx]
  cases x <;> simp [ev, h.star, evCmp, int2, encP, pvis, isTxt]
/-- the loops' condition -/
theorem cond_enc (h : JV ps s a k out ρ μ) {rest : List (Option (List Nat))} (hr : ps.drop k = rest) : ev T0 μ (.and (.cmp .Lt (.var "i") (.var "n")) (.cmp .IsNot (.idx (.var "inp") (.var "i")) (.var "STAR"))) ρ = some (.bool (rest.head?.any isTxt)) := by
  rw [ev, lt_enc h]
  cases rest with
  | nil =>
    have : ps.length ≤ k := List.drop_eq_nil_iff.mp hr
    have hd : decide (k < ps.length) = false := by simp; lia
    simp [hd, truth]
  | cons x r =>
    have hlt : k < ps.length := by
      rcases Nat.lt_or_ge k ps.length with h | h
      · exact h
      · rw [List.drop_eq_nil_iff.mpr h] at hr; cases hr
    have hx : ps[k]? = some x := by
      have := congrArg List.head? hr
      rw [List.head?_drop] at this; simpa using this
    simp [hlt, truth, isnot_enc h hx]
end
end Mine
end

section
open PySem PySem.W PyProof.Rows PySem.SeqAt
set_option linter.unusedVariables false
set_option maxRecDepth 10000
namespace Mine

noncomputable def wt : List (Option (List Nat)) → Nat
  | [] => 0
  | none :: r => 10 + wt r
  | some x :: r => x.length + 1 + wt r
noncomputable def wo : List (List Nat) → Nat
  | [] => 0
  | x :: r => x.length + 1 + wo r
theorem wo_app : ∀ a b, wo (a ++ b) = wo a + wo b
  | [], b => by simp [wo]
  | x :: a, b => by simp [wo, wo_app a b]; lia
theorem wo_flat : ∀ a, a.flatten.length + a.length = wo a
  | [] => rfl
  | x :: a => by have := wo_flat a; simp [wo] at this ⊢; lia
theorem wt_split : ∀ ps, wo (txts ps) + wt (behind ps) = wt ps
  | [] => rfl
  | none :: r => by simp [txts, behind, wo]
  | some x :: r => by have := wt_split r; simp [txts, behind, wo, wt]; lia

theorem joinStrs_nil : ∀ fx : List (List Nat), joinStrs [] (fx.map .str) = some fx.flatten
  | [] => rfl
  | [x] => by simp [joinStrs]
  | x :: y :: r => by
    have := joinStrs_nil (y :: r)
    simp only [List.map_cons] at this ⊢
    rw [joinStrs]
    · rw [this]; simp
    · intro h; cases h

theorem drop_succ {α : Type} {ps : List α} {k : Nat} {x : α} {r : List α} (h : ps.drop k = x :: r) : ps.drop (k + 1) = r ∧ ps[k]? = some x ∧ k < ps.length := by
  have hlt : k < ps.length := by
    rcases Nat.lt_or_ge k ps.length with h' | h'
    · exact h'
    · rw [List.drop_eq_nil_iff.mpr h'] at h; cases h
  refine ⟨?_, ?_, hlt⟩
  · rw [← List.drop_drop, h]; rfl
  · have := congrArg List.head? h
    rw [List.head?_drop] at this; simpa using this

theorem own_n {x : Str} (h : (nJoin.lookup x == some .local) = true) : ownOf nJoin x := .inl (beq_iff_eq.mp h)

section
variable {prog : Program} {w : World} {C : Cx} {lv : Nat} {ρ : Rho} {μ : Mu} {R : CPost} {ps : List (Option (List Nat))} {s a : Addr} {k : Nat} {out : List (List Nat)}

theorem aug_i (hC : CxOk C) (h : JV ps s a k out ρ μ) (hR : R .next (upd ρ "i" (.int (k + 1 : Nat))) μ) : Sat1 prog w C lv nJoin (.aug "i" .Add (.const (.int 1))) ρ μ R :=
  sat_aug (T := T0) (p := .int k) (q := .int 1) hC t0ok rfl (own_n rfl) h.i rfl rfl (by simpa using hR)
theorem add_s (hC : CxOk C) (h : JV ps s a k out ρ μ) {e : MExpr} {x : List Nat} (he : ev T0 μ e ρ = some (.str x)) (hl : out.length + 1 ≤ SZ) (hR : R .next ρ (muSet μ a (out.map .str ++ [.str x]))) : Sat1 prog w C lv nJoin (.callv "add" e) ρ μ R :=
  sat_callv (T := T0) hC t0ok rfl h.add h.mu he (by simpa using hl) hR

/-- the end: all is written -/
theorem join_end (hC : CxOk C) (h : JV ps s a ps.length out ρ μ) (hw : wo out + 20 ≤ SZ) :
    SatM prog w C lv nJoin [.assert_ (.cmp .Eq (.var "i") (.var "n")), .assign "res" (.meth (.const (.str [])) "join" [(.var "res")]),
      .ret (.fstr [(.const (.str [40, 63, 115, 58])), (.fmt (.var "res")), (.const (.str [41, 92, 90]))])] ρ μ (Ret (.str ([40, 63, 115, 58] ++ out.flatten ++ [41, 92, 90]))) := by
  have hf := wo_flat out
  refine sat_cons (sat_assert (T := T0) (x := .bool true) hC t0ok (by rw [eq_enc h]; simp) rfl ?_)
  refine sat_cons (sat_assign (T := T0) (.str out.flatten) hC t0ok (own_n rfl) ?_ ?_)
  · have hr : ρ "res" = some (.own a) := h.res
    simp only [ev, evs, hr, evMeth, if_true, rs, h.mu, joinStrs_nil]
    rw [if_pos (by simp only [List.length_nil]; lia)]
  · refine sat_cons (sat_ret (T := T0) (.str ([40, 63, 115, 58] ++ out.flatten ++ [41, 92, 90])) hC t0ok ?_ ⟨_, rfl, rfl⟩)
    have hr : (upd ρ "res" (PV.str out.flatten)) "res" = some (.str out.flatten) := rfl
    simp only [ev, evs, hr, catStrs, Option.map_some]
    rw [if_pos (by simp only [List.length_append, List.length_cons, List.length_nil]; lia)]
    simp

inductive JI1 (ps : List (Option (List Nat))) (s a : Addr) (m : Nat) (ρ : Rho) (μ : Mu) : Prop
  | mk (k : Nat) (out : List (List Nat)) (rest : List (Option (List Nat))) (hd : ps.drop k = rest) (hm : m = rest.length) (hj : JV ps s a k out ρ μ) (h1 : out ++ txts rest = txts ps) (h2 : behind rest = behind ps) (h3 : wo out + wt rest ≤ wt ps)
inductive JI3 (ps : List (Option (List Nat))) (s a : Addr) (out : List (List Nat)) (b : Addr) (r : List (Option (List Nat))) (m : Nat) (ρ : Rho) (μ : Mu) : Prop
  | mk (k : Nat) (fx : List (List Nat)) (rest : List (Option (List Nat))) (hd : ps.drop k = rest) (hm : m = rest.length) (hj : JV ps s a k out ρ μ) (hf1 : ρ "fixed" = some (.own b)) (hf2 : μ b = some (fx.map .str)) (h1 : fx ++ txts rest = txts r) (h2 : behind rest = behind r) (h3 : wo fx + wt rest ≤ wt r)
/-- the texts ahead of the first star -/
theorem join_w1 (hC : CxOk C) (hsz : wt ps + 20 ≤ SZ) (h : JV ps s a 0 [] ρ μ) {ms : List MStmt}
    (hR : ∀ k ρ μ, JV ps s a k (txts ps) ρ μ → ps.drop k = behind ps → SatM prog w C lv nJoin ms ρ μ R) :
    SatM prog w C lv nJoin (.while_ (.and (.cmp .Lt (.var "i") (.var "n")) (.cmp .IsNot (.idx (.var "inp") (.var "i")) (.var "STAR"))) [
      .callv "add" (.idx (.var "inp") (.var "i")),
      .aug "i" .Add (.const (.int 1))] :: ms) ρ μ R := by
  refine sat_cons (sat_while (T := T0) (JI1 ps s a) ps.length hC t0ok
    ⟨0, [], ps, rfl, rfl, h, rfl, rfl, by simp [wo]⟩ ?_)
  rintro m ρ μ ⟨k, out, rest, hd, rfl, hj, h1, h2, h3⟩
  refine ⟨_, _, cond_enc hj hd, rfl, ?_⟩
  have hstop : rest.head?.any isTxt = false → txts rest = [] ∧ behind rest = rest := by
    cases rest with
    | nil => intro _; exact ⟨rfl, rfl⟩
    | cons x r => cases x with
      | none => intro _; exact ⟨rfl, rfl⟩
      | some y => intro h; cases h
  cases hb : rest.head?.any isTxt with
  | false =>
    obtain ⟨e1, e2⟩ := hstop hb
    simp only [Bool.false_eq_true, if_false]
    rw [e1, List.append_nil] at h1
    subst h1
    exact hR k ρ μ hj (by rw [hd, ← h2, e2])
  | true =>
    simp only [if_true]
    cases rest with
    | nil => cases hb
    | cons x r =>
      cases x with
      | none => cases hb
      | some y =>
        obtain ⟨d1, d2, d3⟩ := drop_succ hd
        have hf := wo_flat out
        simp only [wt] at h3
        refine sat_cons (add_s hC hj (x := y) (idx_enc hj d2) (by lia) ?_)
        have hj1 := hj.push y
        refine sat_cons (aug_i hC hj1 ?_)
        refine sat_nil ⟨r.length, by simp, ⟨k + 1, out ++ [y], r, d1, rfl, hj1.inc d3, by simpa [txts] using h1, h2, ?_⟩⟩
        rw [wo_app]; simp [wo]; lia

/-- the texts behind a star -/
theorem join_w3 (hC : CxOk C) {b : Addr} {ms : List MStmt} {r : List (Option (List Nat))} {k0 : Nat} (hsz : wo out + wt r + 20 ≤ SZ) (h : JV ps s a k0 out ρ μ) (hd0 : ps.drop k0 = r) (hba : b ≠ a) (hfx : ρ "fixed" = some (.own b)) (hμb : μ b = some [])
    (hR : ∀ k ρ μ, JV ps s a k out ρ μ → ps.drop k = behind r → ρ "fixed" = some (.own b) → μ b = some ((txts r).map .str) → SatM prog w C lv nJoin ms ρ μ R) :
    SatM prog w C lv nJoin (.while_ (.and (.cmp .Lt (.var "i") (.var "n")) (.cmp .IsNot (.idx (.var "inp") (.var "i")) (.var "STAR"))) [
      .mcall (.var "fixed") "append" (.idx (.var "inp") (.var "i")),
      .aug "i" .Add (.const (.int 1))] :: ms) ρ μ R := by
  refine sat_cons (sat_while (T := T0) (JI3 ps s a out b r) r.length hC t0ok
    ⟨k0, [], r, hd0, rfl, h, hfx, hμb, rfl, rfl, by simp [wo]⟩ ?_)
  rintro m ρ μ ⟨k, fx, rest, hd, rfl, hj, hf1, hf2, h1, h2, h3⟩
  refine ⟨_, _, cond_enc hj hd, rfl, ?_⟩
  have hstop : rest.head?.any isTxt = false → txts rest = [] ∧ behind rest = rest := by
    cases rest with
    | nil => intro _; exact ⟨rfl, rfl⟩
    | cons x r => cases x with
      | none => intro _; exact ⟨rfl, rfl⟩
      | some y => intro h; cases h
  cases hb : rest.head?.any isTxt with
  | false =>
    obtain ⟨e1, e2⟩ := hstop hb
    simp only [Bool.false_eq_true, if_false]
    rw [e1, List.append_nil] at h1
    subst h1
    exact hR k ρ μ hj (by rw [hd, ← h2, e2]) hf1 hf2
  | true =>
    simp only [if_true]
    cases rest with
    | nil => cases hb
    | cons x r' =>
      cases x with
      | none => cases hb
      | some y =>
        obtain ⟨d1, d2, d3⟩ := drop_succ hd
        have hf := wo_flat fx
        simp only [wt] at h3
        refine sat_cons (sat_append (T := T0) (p := .str y) hC t0ok hf1 hf2 (idx_enc hj d2) (by simp only [List.length_map]; lia) ?_)
        have hj1 := hj.muNe hba (fx.map .str ++ [.str y])
        refine sat_cons (aug_i hC hj1 ?_)
        refine sat_nil ⟨r'.length, by simp, ⟨k + 1, fx ++ [y], r', d1, rfl, hj1.inc d3, by rw [← hf1]; rfl, by simp [muSet], by simpa [txts] using h1, h2, ?_⟩⟩
        rw [wo_app]; simp [wo]; lia
end
end Mine
end

section
open PySem PySem.W PyProof.Rows PySem.SeqAt
set_option linter.unusedVariables false
set_option maxRecDepth 10000
namespace Mine
section
variable {prog : Program} {w : World} {C : Cx} {lv : Nat} {ρ : Rho} {μ : Mu} {R : CPost} {ps : List (Option (List Nat))} {s a : Addr} {k : Nat} {out : List (List Nat)}

theorem tail_step {f : Nat} {x : List Nat} {r : List (Option (List Nat))} {tl : List (List Nat)} (h : tailOf f (none :: some x :: r) = some tl) :
    (behind (some x :: r) = [] ∧ tl = [[46, 42], (txts (some x :: r)).flatten]) ∨
    (behind (some x :: r) ≠ [] ∧ ∃ t, tailOf (f - 1) (behind (some x :: r)) = some t ∧ tl = ([40, 63, 62, 46, 42, 63] ++ (txts (some x :: r)).flatten ++ [41]) :: t) := by
  cases f with
  | zero => simp [tailOf] at h
  | succ f =>
    rw [tailOf] at h
    split at h
    · rename_i e; cases h; exact .inl ⟨e, rfl⟩
    · rename_i e
      simp only [Option.map_eq_some_iff] at h
      obtain ⟨t, h1, h2⟩ := h
      exact .inr ⟨e, t, h1, h2.symm⟩

theorem behind_head : ∀ ps x r, behind ps = x :: r → x = none
  | [], x, r, h => by simp [behind] at h
  | none :: q, x, r, h => by simp [behind] at h; exact h.1.symm
  | some y :: q, x, r, h => behind_head q x r (by simpa [behind] using h)

inductive JI2 (ps : List (Option (List Nat))) (s a : Addr) (all : List (List Nat)) (m : Nat) (ρ : Rho) (μ : Mu) : Prop
  | mk (k : Nat) (o : List (List Nat)) (rest : List (Option (List Nat))) (f : Nat) (tl : List (List Nat)) (hd : ps.drop k = rest) (hk : k ≤ ps.length) (hm : m = rest.length) (hj : JV ps s a k o ρ μ) (ht : tailOf f rest = some tl) (h1 : o ++ tl = all) (h2 : wo o + wt rest ≤ wt ps) (h3 : ∀ x r, rest = x :: r → x = none)
theorem join_w2 (hC : CxOk C) {ms : List MStmt} {f0 k0 : Nat} {tl0 : List (List Nat)} (hsz : wt ps + 20 ≤ SZ) (h : JV ps s a k0 out ρ μ) (hd0 : ps.drop k0 = behind ps) (hout : wo out + wt (behind ps) ≤ wt ps) (ht0 : tailOf f0 (behind ps) = some tl0)
    (hR : ∀ ρ μ out', JV ps s a ps.length out' ρ μ → out' = out ++ tl0 → wo out' + 20 ≤ SZ → SatM prog w C lv nJoin ms ρ μ R) :
    SatM prog w C lv nJoin (.while_ (.cmp .Lt (.var "i") (.var "n")) [
      .assert_ (.cmp .Is (.idx (.var "inp") (.var "i")) (.var "STAR")),
      .aug "i" .Add (.const (.int 1)),
      .if_ (.cmp .Eq (.var "i") (.var "n")) [
        .callv "add" (.const (.str [46, 42])),
        .brk] [],
      .assert_ (.cmp .IsNot (.idx (.var "inp") (.var "i")) (.var "STAR")),
      .assign "fixed" (.lst []),
      .while_ (.and (.cmp .Lt (.var "i") (.var "n")) (.cmp .IsNot (.idx (.var "inp") (.var "i")) (.var "STAR"))) [
        .mcall (.var "fixed") "append" (.idx (.var "inp") (.var "i")),
        .aug "i" .Add (.const (.int 1))],
      .assign "fixed" (.meth (.const (.str [])) "join" [(.var "fixed")]),
      .if_ (.cmp .Eq (.var "i") (.var "n")) [
        .callv "add" (.const (.str [46, 42])),
        .callv "add" (.var "fixed")] [
        .callv "add" (.fstr [(.const (.str [40, 63, 62, 46, 42, 63])), (.fmt (.var "fixed")), (.const (.str [41]))])]] :: ms) ρ μ R := by
  have len0 : ∀ k, k ≤ ps.length → ps.drop k = [] → k = ps.length := fun k hk hd => Nat.le_antisymm hk (List.drop_eq_nil_iff.mp hd)
  refine sat_cons (sat_while (T := T0) (JI2 ps s a (out ++ tl0)) (behind ps).length hC t0ok
    ⟨k0, out, behind ps, f0, tl0, hd0, h.le, rfl, h, ht0, rfl, hout, behind_head ps⟩ ?_)
  rintro m ρ μ ⟨k, o, rest, f, tl, hd, hkl, rfl, hj, ht, h1, h2, h3⟩
  refine ⟨_, _, lt_enc hj, rfl, ?_⟩
  cases rest with
  | nil =>
    have hk := len0 k hkl hd
    have hdec : decide (k < ps.length) = false := by simp; lia
    rw [hdec]
    simp only [Bool.false_eq_true, if_false]
    have htl : tl = [] := by
      cases f with
      | zero => simp [tailOf] at ht
      | succ f => simpa [tailOf] using ht.symm
    subst htl
    rw [List.append_nil] at h1
    subst hk
    exact hR ρ μ o hj h1 (by simp [wt] at h2; lia)
  | cons x r =>
    obtain ⟨d1, d2, d3⟩ := drop_succ hd
    have := h3 x r rfl; subst this
    rw [decide_eq_true d3]
    simp only [if_true]
    have hwo := wo_flat o
    simp only [wt] at h2
    refine sat_cons (sat_assert (T := T0) (x := .bool true) hC t0ok (is_enc hj d2) rfl ?_)
    refine sat_cons (aug_i hC hj ?_)
    have hj1 := hj.inc d3
    cases r with
    | nil =>
      have hk : k + 1 = ps.length := len0 (k + 1) d3 d1
      have htl : tl = [[46, 42]] := by
        cases f with
        | zero => simp [tailOf] at ht
        | succ f => simpa [tailOf] using ht.symm
      subst htl
      refine sat_cons (sat_if (T := T0) true (x := .bool true) hC t0ok (by rw [eq_enc hj1, decide_eq_true hk]) rfl ?_)
      simp only [if_true]
      refine sat_cons (add_s hC hj1 (x := [46, 42]) rfl (by lia) (sat_cons (sat_brk ?_)))
      have hj2 := hj1.push [46, 42]
      have key : ∀ n, k + 1 = n → JV ps s a (k + 1) (o ++ [[46, 42]]) (upd ρ "i" (.int (k + 1 : Nat))) (muSet μ a (o.map .str ++ [.str [46, 42]])) → JV ps s a n (o ++ [[46, 42]]) (upd ρ "i" (.int (k + 1 : Nat))) (muSet μ a (o.map .str ++ [.str [46, 42]])) := by
        rintro n rfl h; exact h
      exact hR _ _ _ (key _ hk hj2) h1 (by rw [wo_app]; simp [wo, wt] at h2 ⊢; lia)
    | cons y r =>
      obtain ⟨e1, e2, e3⟩ := drop_succ d1
      cases y with
      | none =>
        exfalso
        cases f with
        | zero => simp [tailOf] at ht
        | succ f => simp [tailOf] at ht
      | some z =>
        refine sat_cons (sat_if (T := T0) false (x := .bool false) hC t0ok (by rw [eq_enc hj1]; simp; lia) rfl ?_)
        simp only [Bool.false_eq_true, if_false]
        refine sat_nil ?_
        refine sat_cons (sat_assert (T := T0) (x := .bool true) hC t0ok (isnot_enc hj1 e2) rfl ?_)
        refine sat_cons (sat_own (T := T0) [] hC t0ok (own_n rfl) rfl (by simp [SZ]) fun b hb => ?_)
        have hba : b ≠ a := by rintro rfl; first | exact clash hj1.mu hb | (rw [hj1.mu] at hb; cases hb)
        have hj2 := (hj1.fixed (.own b)).muNe hba []
        have hsplit := wt_split (some z :: r)
        refine join_w3 hC (r := some z :: r) (b := b) (by lia) hj2 d1 hba rfl (by simp [muSet]) ?_
        intro k3 ρ3 μ3 hj3 hd3 hf3 hμ3
        have hwf := wo_flat (txts (some z :: r))
        refine sat_cons (sat_assign (T := T0) (.str (txts (some z :: r)).flatten) hC t0ok (own_n rfl) ?_ ?_)
        · simp only [ev, evs, hf3, evMeth, if_true, rs, hμ3, joinStrs_nil]
          rw [if_pos (by simp only [List.length_nil]; lia)]
        · have hj4 := hj3.fixed (.str (txts (some z :: r)).flatten)
          rcases tail_step ht with ⟨hb1, rfl⟩ | ⟨hb1, t, ht1, rfl⟩
          · rw [hb1] at hd3
            have hk3 : k3 = ps.length := len0 k3 hj3.le hd3
            refine sat_cons (sat_if (T := T0) true (x := .bool true) hC t0ok (by rw [eq_enc hj4, decide_eq_true hk3]) rfl ?_)
            simp only [if_true]
            refine sat_cons (add_s hC hj4 (x := [46, 42]) rfl (by lia) ?_)
            have hj5 := hj4.push [46, 42]
            refine sat_cons (add_s hC hj5 (x := (txts (some z :: r)).flatten) rfl (by simp; lia) (sat_nil (sat_nil ?_)))
            have hj6 := hj5.push (txts (some z :: r)).flatten
            refine ⟨0, by simp, ⟨k3, _, [], 1, [], hd3, by lia, rfl, hj6, rfl, by simpa using h1, ?_, fun x r h => by cases h⟩⟩
            rw [wo_app, wo_app]; simp only [wo, wt, List.length_cons, List.length_nil]; lia
          · have hk3 : k3 < ps.length := by
              rcases Nat.lt_or_ge k3 ps.length with hh | hh
              · exact hh
              · rw [List.drop_eq_nil_iff.mpr hh] at hd3; exact absurd hd3.symm hb1
            refine sat_cons (sat_if (T := T0) false (x := .bool false) hC t0ok (by rw [eq_enc hj4]; simp; lia) rfl ?_)
            simp only [Bool.false_eq_true, if_false]
            refine sat_cons (add_s hC hj4 (x := [40, 63, 62, 46, 42, 63] ++ (txts (some z :: r)).flatten ++ [41]) ?_ (by lia) (sat_nil (sat_nil ?_)))
            · have hr : (upd ρ3 "fixed" (PV.str (txts (some z :: r)).flatten)) "fixed" = some (.str (txts (some z :: r)).flatten) := rfl
              simp only [ev, evs, hr, catStrs, Option.map_some]
              rw [if_pos (by simp only [List.length_append, List.length_cons, List.length_nil]; lia)]
              simp
            · have hj5 := hj4.push ([40, 63, 62, 46, 42, 63] ++ (txts (some z :: r)).flatten ++ [41])
              refine ⟨(behind (some z :: r)).length, ?_, ⟨k3, _, behind (some z :: r), f - 1, t, hd3, by lia, rfl, hj5, ht1, by simpa using h1, ?_, behind_head _⟩⟩
              · have := behind_len (some z :: r); simp at this ⊢; lia
              · rw [wo_app]; simp only [wo, List.length_append, List.length_cons, List.length_nil]; lia

theorem join_sat (hC : CxOk C) {txt : List Nat} (hsz : wt ps + 20 ≤ SZ) (ht : joinTxt ps = some txt) :
    SatM prog w C lv nJoin bJoin (upd (upd (fun _ => none) "inp" (.lst (ps.map (encP s)))) "STAR" (.obj s)) (fun _ => none) (Ret (.str txt)) := by
  unfold joinTxt at ht
  simp only [Option.map_eq_some_iff] at ht
  obtain ⟨tl, ht, rfl⟩ := ht
  have hsplit := wt_split ps
  have hlen : ps.length ≤ wt ps := by
    clear ht hsplit hsz
    induction ps with
    | nil => exact Nat.le_refl _
    | cons x r ih => cases x <;> simp [wt] <;> lia
  refine sat_cons (sat_own (T := T0) [] hC t0ok (own_n rfl) rfl (by simp [SZ]) fun a ha => ?_)
  refine sat_cons (sat_bindApp (T := T0) (a := a) (xs := []) hC t0ok (own_n rfl) rfl (by simp [muSet]) ?_)
  refine sat_cons (sat_unpack (T := T0) (p := .int 0) (q := .int ps.length) hC t0ok (own_n rfl) (own_n rfl) (by decide) ?_ ?_)
  · have hl : (Str.ofString "len") ∈ biNames := by decide
    simp only [ev, evs, if_pos hl]
    rw [show upd (upd (upd (upd (fun _ => none) "inp" (PV.lst (ps.map (encP s)))) "STAR" (.obj s)) "res" (.own a)) "add" (.app a) "inp" = some (PV.lst (ps.map (encP s))) from rfl]
    simp [evCall, arg1, lenV, rs, SZ]
  refine join_w1 (s := s) (a := a) hC hsz ⟨rfl, rfl, rfl, rfl, rfl, rfl, by simp [muSet], Nat.zero_le _⟩ fun k ρ μ hj hd => ?_
  refine join_w2 hC hsz hj hd (by lia) ht fun ρ μ o hj ho hw => ?_
  subst ho
  exact join_end hC hj hw
end
end Mine
end

section
open PySem PySem.W PyProof.Rows PySem.SeqAt
set_option linter.unusedVariables false
namespace Mine
section
variable {prog : Program} {w : World} {C : Cx} {lv : Nat} {Γ : Names} {A : Around} {E : Value → Shared → Prop} {V W : Addr → Prop} {env : Env} {G : Gr} {s₀ s s₁ : Shared} {ρ ρ' : Rho} {μ μ' : Mu} {R R' : CPost} {T : Str → List PV → Option PV}

theorem PostL.tr {xs : List PV} {v : Value} {s' : Shared} (k : Keeps s s₁) (h : PostL W s₁ xs v s') : PostL W s xs v s' := by
  obtain ⟨k1, a, vs, n, e1, e2, e3⟩ := h
  refine ⟨Keeps.tr k k1, a, vs, n, e1, ?_, e3⟩
  cases e : s.heap.get? a with
  | none => rfl
  | some o => rw [Keeps.k k _ _ e] at e2; cases e2

theorem slcL_sound {value : Expr} {lo hi st : Option Expr} {p pos : Pos} {x l h : PV} {xs : List PV} {lo' hi' : Option Int} (hv : SE prog w C lv μ Γ value ρ x)
    (hl : ∀ (A : Around) (E : Value → Shared → Prop) (W : Addr → Prop) (env : Env) (s : Shared), Room lv A → env.scope.names = Γ → ER C W env s ρ μ → wpAny (model prog w) A (evalPart lo env) (fun v s' => Post W s l v s' ∧ s.toks ≤ s'.toks) E s)
    (hh : ∀ (A : Around) (E : Value → Shared → Prop) (W : Addr → Prop) (env : Env) (s : Shared), Room lv A → env.scope.names = Γ → ER C W env s ρ μ → wpAny (model prog w) A (evalPart hi env) (fun v s' => Post W s h v s' ∧ s.toks ≤ s'.toks) E s)
    (hk : ∀ (A : Around) (E : Value → Shared → Prop) (W : Addr → Prop) (env : Env) (s : Shared), Room lv A → env.scope.names = Γ → ER C W env s ρ μ → wpAny (model prog w) A (evalPart st env) (fun v s' => Post W s .none v s' ∧ s.toks ≤ s'.toks) E s)
    (e1 : rs μ x = .lst xs) (e2 : optI l = some lo') (e3 : optI h = some hi') (hr : Room lv A) (hΓ : env.scope.names = Γ) (er : ER C W env s ρ μ) :
    wpAny (model prog w) A (eval (.Subscript value (.Slice lo hi st p) pos) env) (PostL W s (sl xs lo' hi')) E s := by
  rw [eval_Subscript]
  refine wpAny_bind (hv.step hr hΓ er fun o s₁ k1 er1 ro => wpAny_bind (wpAny_holding (wpAny_Slice ?_)))
  refine wpAny_mono (hl A _ W env s₁ hr hΓ er1) (fun vl s₂ h₂ => ?_) fun _ _ e => e
  obtain ⟨⟨k2, rl⟩, t2⟩ := h₂
  have er2 := er1.keeps k2 t2
  refine wpAny_mono (hh A _ W env s₂ hr hΓ er2) (fun vh s₃ h₃ => ?_) fun _ _ e => e
  obtain ⟨⟨k3, rh⟩, t3⟩ := h₃
  have er3 := er2.keeps k3 t3
  refine wpAny_mono (hk A _ W env s₃ hr hΓ er3) (fun vk s₄ h₄ => wpAny_bind (wpAny_standAt ?_)) fun _ _ e => e
  obtain ⟨⟨k4, rk⟩, t4⟩ := h₄
  have er4 := er3.keeps k4 t4
  have kp : Keeps s₄ { s₄ with heap := s₄.heap.push { cls := .type "slice", data := .fields #[vl, vh, vk] } } := Keeps.push _ _
  have er5 := er4.keeps kp (Nat.le_refl _)
  have hs5 : ({ s₄ with heap := s₄.heap.push { cls := .type "slice", data := .fields #[vl, vh, vk] } } : Shared).heap.get? s₄.heap.objs.size = some (slObj vl vh vk) := Heap.get?_push_size _ rfl
  generalize ({ s₄ with heap := s₄.heap.push { cls := .type "slice", data := .fields #[vl, vh, vk] } } : Shared) = s₅ at kp er5 hs5
  generalize s₄.heap.objs.size = a at hs5
  have K15 : Keeps s₁ s₅ := Keeps.tr k2 (Keeps.tr k3 (Keeps.tr k4 kp))
  have ro5 := ro.keep (Keeps.k K15)
  have := rep_none.mp rk; subst this
  obtain ⟨b, vs, n, rfl, q1, q2, q3⟩ := rs_lst er5.sr e1 ro5
  refine sub_any (T := "list") F.slot_list_getitem.lookup ⟨_, q1, rfl⟩ ?_
  exact wpAny_mono (slc_list q1 q2 q3 hs5 (part_of e2 rl).1 (part_of e3 rh).1) (fun v s' hp => hp.tr (Keeps.tr k1 K15)) fun _ _ e => e

theorem part_ev (hC : CxOk C) (hT : TOk prog w C lv T) {o : Option Expr} {z : PV} (hz : ev T μ (trOpt Γ o) ρ = some z) : ∀ (A : Around) (E : Value → Shared → Prop) (W : Addr → Prop) (env : Env) (s : Shared), Room lv A → env.scope.names = Γ → ER C W env s ρ μ →
    wpAny (model prog w) A (evalPart o env) (fun v s' => Post W s z v s' ∧ s.toks ≤ s'.toks) E s := by
  cases o with
  | none => simp [trOpt, ev] at hz; subst hz; exact part_none
  | some e => rw [trOpt] at hz; exact part_some (ev_sound hC hT hz)

/-- x = y[lo:hi], a new list that may be written -/
theorem sat_own_slc {x : Str} {e lo hi st : MExpr} {p l h : PV} {lo' hi' : Option Int} (xs : List PV) (hC : CxOk C) (hT : TOk prog w C lv T) (hx : ownOf Γ x) (he : ev T μ e ρ = some p) (e1 : rs μ p = .lst xs) (hl : ev T μ lo ρ = some l) (e2 : optI l = some lo') (hh : ev T μ hi ρ = some h) (e3 : optI h = some hi') (hst : ev T μ st ρ = some .none)
    (hR : ∀ a, μ a = none → R .next (upd ρ x (.own a)) (muSet μ a (sl xs lo' hi'))) : Sat1 prog w C lv Γ (.assign x (.slc e lo hi st)) ρ μ R := by
  intro stm hstm A E V env G s₀ s hr hΓ fr
  obtain ⟨px, v, pos, rfl, hv⟩ := inv_assign hstm
  obtain ⟨v', lo1, hi1, st1, p1, pos1, rfl, rfl, rfl, rfl, rfl⟩ := inv_slc hv
  rw [PySem.exec_Assign_Name (hs := rfl)]
  refine wpAny_bind (wpAny_standAt (wpAny_bind (wpAny_with_toks (n := s.toks) (Nat.le_refl _) (wpAny_mono (slcL_sound (ev_sound hC hT he) (part_ev hC hT hl) (part_ev hC hT hh) (part_ev hC hT hst) e1 e2 e3 hr hΓ fr.er) (fun u s₁ h₁ htk => ?_) fun _ _ e _ => e))))
  obtain ⟨a, rfl, ha, fr1⟩ := fr_new fr h₁ htk
  refine wpAny_bind (wpAny_standAt (wpAny_bind (wpAny_bindName ?_)))
  exact wpAny_mono (fr_store fr1 hΓ hx (rep_own.mpr rfl)) (fun _ s' h' => wpAny_pure ⟨.next, _, _, hR a ha, rfl, h'⟩) fun _ _ e => e

/-- x = [..], of which the identity alone counts -/
theorem sat_lst_obj {x : Str} {es : List MExpr} {xs : List PV} (hC : CxOk C) (hT : TOk prog w C lv T) (hx : ownOf Γ x) (h : evs T μ es ρ = some xs) (hl : xs.length ≤ SZ) (hR : ∀ a, R .next (upd ρ x (.obj a)) μ) : Sat1 prog w C lv Γ (.assign x (.lst es)) ρ μ R := by
  intro st hst A E V env G s₀ s hr hΓ fr
  obtain ⟨px, v, pos, rfl, hv⟩ := inv_assign hst
  obtain ⟨es', q, rfl, rfl⟩ := inv_lst hv
  rw [PySem.exec_Assign_Name (hs := rfl)]
  refine wpAny_bind (wpAny_standAt (wpAny_bind (wpAny_with_toks (n := s.toks) (Nat.le_refl _) (wpAny_mono (list_sound (evs_sound hC hT h) hl hr hΓ fr.er) (fun v s₁ h₁ htk => ?_) fun _ _ e _ => e))))
  obtain ⟨k, a, vs, n, rfl, _⟩ := h₁
  refine wpAny_bind (wpAny_standAt (wpAny_bind (wpAny_bindName ?_)))
  exact wpAny_mono (fr_store (p := .obj a) (fr.keeps k htk) hΓ hx (rep_obj.mpr rfl)) (fun _ s' h' => wpAny_pure ⟨.next, _, _, hR a, rfl, h'⟩) fun _ _ e => e
end
end Mine
end

section
open PySem PySem.W PyProof.Rows PySem.SeqAt
set_option linter.unusedVariables false
set_option maxRecDepth 10000
namespace Mine

theorem compRun_flat {f : PV → Option (List PV)} {F : PV → List PV} : ∀ {items : List PV}, (∀ q ∈ items, f q = some (F q)) → compRun f items = some (items.flatMap F)
  | [], _ => rfl
  | q :: r, h => by
    rw [compRun, h q List.mem_cons_self, compRun_flat fun x hx => h x (List.mem_cons_of_mem _ hx)]
    simp
theorem ev_comp1 {T : Str → List PV → Option PV} {μ : Mu} {ρ : Rho} {elt it : MExpr} {t : MTgt} {ifs : List MExpr} {fr : List Str} {x : PV} {items : List PV} (F : PV → List PV) (h1 : ev T μ it ρ = some x) (h2 : iter μ x = some items)
    (h3 : ∀ q ∈ items, ∃ ρ' b, bindT (restr fr ρ) t q = some ρ' ∧ evAll T μ ifs ρ' = some b ∧ (b = true → ∃ y, ev T μ elt ρ' = some y ∧ F q = [y]) ∧ (b = false → F q = []))
    (hl : (items.flatMap F).length ≤ SZ) (hi : items.length ≤ SZ) : ev T μ (.comp1 elt t it ifs fr) ρ = some (.lst (items.flatMap F)) := by
  rw [ev, h1]
  simp only [h2]
  rw [compRun_flat (F := F) (items := items)]
  · simp only
    rw [if_pos ⟨hl, hi⟩]
  · intro q hq
    obtain ⟨ρ', b, e1, e2, e3, e4⟩ := h3 q hq
    simp only [e1, e2]
    cases b with
    | true => obtain ⟨y, e5, e6⟩ := e3 rfl; simp [e5, e6]
    | false => simp [e4 rfl]

/-- the marks that a text is cut into -/
noncomputable def marks : List (List Nat) := [[40, 63, 115, 58], [40, 63, 62], [46, 42, 63], [46, 42], [41], [92, 90], [46], [97], [98]]
noncomputable def fitsOf (text : List Nat) : List (List Nat) := marks.filter fun m => decide (text.take m.length = m)
noncomputable def stepsOf : Nat → List Nat → Option (List (List Nat))
  | 0, _ => none
  | k + 1, text => if text = [] then some [] else match fitsOf text with
    | [] => none
    | m :: _ => (stepsOf k (text.drop m.length)).map (m :: ·)

noncomputable def bSteps : List MStmt := [
  .assign "steps" (.lst []),
  .while_ (.cmp .NotEq (.var "text") (.const (.str []))) [
    .assign "fits" (.comp1 (.var "mark") (.one "mark") (.lst [(.const (.str [40, 63, 115, 58])), (.const (.str [40, 63, 62])), (.const (.str [46, 42, 63])), (.const (.str [46, 42])), (.const (.str [41])), (.const (.str [92, 90])), (.const (.str [46])), (.const (.str [97])), (.const (.str [98]))]) [(.cmp .Eq (.slc (.var "text") (.const .none) (.call "len" [(.var "mark")]) (.const .none)) (.var "mark"))] ["text"]),
    .if_ (.cmp .Eq (.var "fits") (.lst [])) [
      .ret (.const .none)] [],
    .mcall (.var "steps") "append" (.idx (.var "fits") (.const (.int 0))),
    .assign "text" (.slc (.var "text") (.call "len" [(.idx (.var "fits") (.const (.int 0)))]) (.const .none) (.const .none))],
  .ret (.var "steps")]
noncomputable def nSteps : Names := [("text", .cell), ("steps", .local), ("fits", .local), ("len", .globalImplicit)]

theorem sl_take {α : Type} (xs : List α) (k : Nat) : sl xs none (some (k : Int)) = xs.take k := by
  unfold sl clip
  simp only [Option.elim]
  have : ¬ ((k : Int) < 0) := by omega
  simp only [this, if_false, List.drop_zero, Nat.sub_zero]
  rcases Nat.lt_or_ge k xs.length with h | h
  · congr 1; omega
  · rw [List.take_of_length_le h, List.take_of_length_le (by omega)]
theorem sl_drop {α : Type} (xs : List α) (k : Nat) : sl xs (some (k : Int)) none = xs.drop k := by
  unfold sl clip
  simp only [Option.elim]
  have : ¬ ((k : Int) < 0) := by omega
  simp only [this, if_false]
  rcases Nat.lt_or_ge k xs.length with h | h
  · have e : (max 0 (min (k : Int) xs.length)).toNat = k := by omega
    rw [e, List.take_of_length_le (by simp)]
  · have e : (max 0 (min (k : Int) xs.length)).toNat = xs.length := by omega
    rw [e]; simp [List.drop_eq_nil_iff.mpr h]

section
variable {prog : Program} {w : World} {C : Cx} {lv : Nat} {ρ : Rho} {μ : Mu} {R : CPost}

theorem ev_nil {T : Str → List PV → Option PV} : ev T μ (.lst []) ρ = some (.lst []) := by simp [ev, evs, SZ]
theorem pveq_nil (xs : List PV) : pveq 8 (.lst xs) (.lst []) = some xs.isEmpty := by
  cases xs with
  | nil => rfl
  | cons x r => simp [pveq8_i, pveq8_s, pveq8_b, pveq8_nb, pveq8_bn, pveq8_nn, pveq8_l, pveq7_s, pveq7_i]
theorem ev_eq_nil {T : Str → List PV → Option PV} {x : Str} {p : PV} {xs : List PV} (h : ρ x = some p) (hr : rs μ p = .lst xs) : ev T μ (.cmp .Eq (.var x) (.lst [])) ρ = some (.bool xs.isEmpty) := by
  rw [ev, ev_nil, ev, h]
  simp only [evCmp, int2]
  rw [hr, show rs μ (.lst []) = .lst [] from rfl, pveq_nil]; rfl
theorem ev_ne_nil {T : Str → List PV → Option PV} {x : Str} {p : PV} {xs : List PV} (h : ρ x = some p) (hr : rs μ p = .lst xs) : ev T μ (.cmp .NotEq (.var x) (.lst [])) ρ = some (.bool !xs.isEmpty) := by
  rw [ev, ev_nil, ev, h]
  simp only [evCmp, int2]
  rw [hr, show rs μ (.lst []) = .lst [] from rfl, pveq_nil]; rfl

noncomputable def fitF (text : List Nat) : PV → List PV
  | .str m => if text.take m.length = m then [.str m] else []
  | _ => []
theorem fitF_flat (text : List Nat) : ∀ ms : List (List Nat), (ms.map PV.str).flatMap (fitF text) = (ms.filter fun m => decide (text.take m.length = m)).map .str
  | [] => rfl
  | m :: r => by
    have ih := fitF_flat text r
    rw [List.map_cons, List.flatMap_cons, ih, List.filter_cons]
    by_cases h : text.take m.length = m
    · simp [fitF, h]
    · simp [fitF, h]

theorem fits_ev {text : List Nat} (ht : ρ "text" = some (.str text)) :
    ev T0 μ (.comp1 (.var "mark") (.one "mark") (.lst [(.const (.str [40, 63, 115, 58])), (.const (.str [40, 63, 62])), (.const (.str [46, 42, 63])), (.const (.str [46, 42])), (.const (.str [41])), (.const (.str [92, 90])), (.const (.str [46])), (.const (.str [97])), (.const (.str [98]))]) [(.cmp .Eq (.slc (.var "text") (.const .none) (.call "len" [(.var "mark")]) (.const .none)) (.var "mark"))] ["text"]) ρ = some (.lst ((fitsOf text).map .str)) := by
  have hl : (Str.ofString "len") ∈ biNames := by decide
  rw [ev_comp1 (x := .lst (marks.map .str)) (items := marks.map .str) (fitF text) rfl rfl ?_ ?_ (by simp [marks, SZ]), fitF_flat]
  · rfl
  · intro q hq
    obtain ⟨m, hm, rfl⟩ := List.mem_map.mp hq
    refine ⟨_, decide (text.take m.length = m), rfl, ?_, fun hb => ⟨.str m, rfl, ?_⟩, fun hb => ?_⟩
    · have e1 : upd (restr ["text"] ρ) "mark" (.str m) "mark" = some (.str m) := rfl
      have e2 : upd (restr ["text"] ρ) "mark" (.str m) "text" = some (.str text) := by rw [← ht]; rfl
      have e3 : ev T0 μ (.call "len" [.var "mark"]) (upd (restr ["text"] ρ) "mark" (.str m)) = some (.int m.length) := by
        simp only [ev, evs, e1, if_pos hl]; rfl
      have e4 : ev T0 μ (.slc (.var "text") (.const .none) (.call "len" [.var "mark"]) (.const .none)) (upd (restr ["text"] ρ) "mark" (.str m)) = some (.str (text.take m.length)) := by
        rw [ev, e3]
        simp only [ev, e2, evSlc, slcV, rs, optI, sl_take]
      have e5 : ev T0 μ (.cmp .Eq (.slc (.var "text") (.const .none) (.call "len" [.var "mark"]) (.const .none)) (.var "mark")) (upd (restr ["text"] ρ) "mark" (.str m)) = some (.bool (text.take m.length == m)) := by
        rw [ev, e4]
        simp only [ev, e1, evCmp, int2, rs, pveq8_i, pveq8_s, pveq8_b, pveq8_nb, pveq8_bn, pveq8_nn, pveq8_l, pveq7_s, pveq7_i, Option.map_some]
      rw [evAll, e5]
      by_cases hh : text.take m.length = m
      · simp [hh, truth, evAll]
      · have hb2 : (text.take m.length == m) = false := by simpa using hh
        simp [hb2, hh, truth]
    · simp [fitF, of_decide_eq_true hb]
    · simp [fitF, of_decide_eq_false hb]
  · rw [fitF_flat]
    have := List.length_filter_le (fun m => decide (text.take m.length = m)) marks
    simp only [List.length_map]
    exact Nat.le_trans this (by simp [marks, SZ])

inductive StI (a : Addr) (ts : List (List Nat)) (m : Nat) (ρ : Rho) (μ : Mu) : Prop
  | mk (text : List Nat) (done : List (List Nat)) (f : Nat) (rest : List (List Nat)) (h1 : ρ "text" = some (.str text)) (h2 : ρ "steps" = some (.own a)) (h3 : μ a = some (done.map .str)) (h4 : stepsOf f text = some rest) (h5 : done ++ rest = ts) (hm : m = text.length) (h6 : done.length + text.length ≤ SZ)
/-- the steps that a text is cut into -/
theorem steps_sat (hC : CxOk C) {text : List Nat} {f : Nat} {ts : List (List Nat)} (ht : stepsOf f text = some ts) (hsz : text.length ≤ SZ) :
    SatM prog w C lv nSteps bSteps (upd (fun _ => none) "text" (.str text)) (fun _ => none) (Ret (.lst (ts.map .str))) := by
  refine sat_cons (sat_own (T := T0) [] hC t0ok (.inl rfl) rfl (by simp [SZ]) fun a ha => ?_)
  refine sat_cons (sat_while (T := T0) (StI a ts) text.length hC t0ok
    ⟨text, [], f, ts, rfl, rfl, by simp [muSet], ht, rfl, rfl, by simpa using hsz⟩ ?_)
  rintro m ρ μ ⟨x, done, f, rest, h1, h2, h3, h4, h5, rfl, h6⟩
  have hl : (Str.ofString "len") ∈ biNames := by decide
  refine ⟨.bool (!(x == [])), !(x == []), by simp [ev, h1, evCmp, int2, rs, pveq8_i, pveq8_s, pveq8_b, pveq8_nb, pveq8_bn, pveq8_nn, pveq8_l, pveq7_s, pveq7_i], rfl, ?_⟩
  cases f with
  | zero => simp [stepsOf] at h4
  | succ f =>
    rw [stepsOf] at h4
    by_cases hx : x = []
    · subst hx
      simp only [if_true] at h4
      cases h4
      have e : (!(([] : List Nat) == [])) = false := rfl
      rw [e]
      simp only [Bool.false_eq_true, if_false]
      refine sat_cons (sat_ret (T := T0) (.own a) hC t0ok (by rw [ev]; exact h2) ⟨_, rfl, ?_⟩)
      rw [rs, h3, ← h5]; simp
    · rw [if_neg hx] at h4
      have e : (!(x == [])) = true := by simpa using hx
      rw [e]
      simp only [if_true]
      cases hf : fitsOf x with
      | nil => first | exact clash hf h4 | (rw [hf] at h4; cases h4)
      | cons mk more =>
        rw [hf] at h4
        simp only [Option.map_eq_some_iff] at h4
        obtain ⟨rest', h7, rfl⟩ := h4
        have hmk : mk ∈ fitsOf x := by rw [hf]; exact List.mem_cons_self
        have hmk2 : mk ∈ marks ∧ x.take mk.length = mk := by simpa [fitsOf] using hmk
        have hpos : 0 < mk.length := by
          have := hmk2.1
          simp [marks] at this
          rcases this with h | h | h | h | h | h | h | h | h <;> subst h <;> simp
        have hle : mk.length ≤ x.length := by
          have := congrArg List.length hmk2.2
          simp at this; omega
        refine sat_cons (sat_assign (T := T0) (.lst ((fitsOf x).map .str)) hC t0ok (.inl rfl) (fits_ev h1) ?_)
        rw [hf]
        have g1 : upd ρ "fits" (PV.lst ((mk :: more).map .str)) "fits" = some (PV.lst ((mk :: more).map .str)) := rfl
        have g2 : upd ρ "fits" (PV.lst ((mk :: more).map .str)) "steps" = some (.own a) := by rw [← h2]; rfl
        have g3 : upd ρ "fits" (PV.lst ((mk :: more).map .str)) "text" = some (.str x) := by rw [← h1]; rfl
        refine sat_cons (sat_if (T := T0) false (x := .bool false) hC t0ok (by rw [ev_eq_nil g1 rfl]; rfl) rfl ?_)
        simp only [Bool.false_eq_true, if_false]
        refine sat_nil ?_
        have g4 : ev T0 μ (.idx (.var "fits") (.const (.int 0))) (upd ρ "fits" (PV.lst ((mk :: more).map .str))) = some (.str mk) := by
          simp only [ev, g1]; rfl
        refine sat_cons (sat_append (T := T0) (p := .str mk) hC t0ok g2 h3 g4 (by simp only [List.length_map]; omega) ?_)
        have g5 : ev T0 (muSet μ a (done.map .str ++ [.str mk])) (.idx (.var "fits") (.const (.int 0))) (upd ρ "fits" (PV.lst ((mk :: more).map .str))) = some (.str mk) := by
          simp only [ev, g1]; rfl
        have g6 : ev T0 (muSet μ a (done.map .str ++ [.str mk])) (.call "len" [.idx (.var "fits") (.const (.int 0))]) (upd ρ "fits" (PV.lst ((mk :: more).map .str))) = some (.int mk.length) := by
          rw [ev, evs, g5]
          simp only [evs, if_pos hl]; rfl
        refine sat_cons (sat_assign (T := T0) (.str (x.drop mk.length)) hC t0ok (.inr rfl) ?_ ?_)
        · rw [ev, g6]
          simp only [ev, g3, evSlc, slcV, rs, optI, sl_drop]
        · refine sat_nil ⟨(x.drop mk.length).length, by simp; omega, ⟨x.drop mk.length, done ++ [mk], f, rest', rfl, by rw [← g2]; rfl, by simp [muSet], h7, by simpa using h5, rfl, by simp; omega⟩⟩
end
end Mine
end

section
open PySem PySem.W PyProof.Rows PySem.SeqAt
set_option linter.unusedVariables false
set_option maxRecDepth 10000
namespace Mine

theorem ev_comp_range {T : Str → List PV → Option PV} {μ : Mu} {ρ : Rho} {elt it : MExpr} {x : Str} {fr : List Str} {lo N : Nat} (g : Nat → PV) (h1 : ev T μ it ρ = some (.rng lo N 1)) (h3 : ∀ k, k < N → ev T μ elt (upd (restr fr ρ) x (.int (lo + k : Nat))) = some (g k)) (hN : N ≤ SZ) :
    ev T μ (.comp1 elt (.one x) it [] fr) ρ = some (.lst ((List.range N).map g)) := by
  have hfl : (intsFrom lo N 1).flatMap (fun q => match q with | .int i => [g (i - lo).toNat] | _ => []) = (List.range N).map g := by
    unfold intsFrom
    rw [List.flatMap_map]
    have : ∀ l : List Nat, l.flatMap (fun (k : Nat) => [g (((lo : Int) + (k : Int) * 1) - lo).toNat]) = l.map g := by
      intro l
      induction l with
      | nil => rfl
      | cons k r ih =>
        rw [List.flatMap_cons, ih, List.map_cons]
        have : (((lo : Int) + (k : Int) * 1) - lo).toNat = k := by lia
        rw [this]; rfl
    exact this _
  rw [ev_comp1 (x := .rng lo N 1) (items := intsFrom lo N 1) _ h1 rfl ?_ (by rw [hfl]; simpa using hN) (by simpa [intsFrom] using hN), hfl]
  intro q hq
  unfold intsFrom at hq
  obtain ⟨k, hk, rfl⟩ := List.mem_map.mp hq
  have hk := List.mem_range.mp hk
  refine ⟨_, true, rfl, rfl, fun _ => ⟨g k, ?_, ?_⟩, fun h => by cases h⟩
  · have := h3 k hk
    rw [show ((lo : Int) + (k : Int) * 1) = ((lo + k : Nat) : Int) by lia]; exact this
  · have : (((lo : Int) + (k : Int) * 1) - lo).toNat = k := by lia
    show [g (((lo : Int) + (k : Int) * 1) - lo).toNat] = [g k]
    rw [this]

theorem rep_one {α : Type} (b : α) : ∀ n, rep n [b] = List.replicate n b
  | 0 => rfl
  | n + 1 => by
    have ih := rep_one b n
    unfold rep at ih ⊢
    rw [List.replicate_succ, List.flatten_cons, ih, List.replicate_succ]; rfl

theorem anyEq_true : ∀ e : List Bool, anyEq (.bool true) (e.map .bool) = some (e.contains true)
  | [] => rfl
  | b :: r => by
    rw [List.map_cons, anyEq, anyEq_true r]
    cases b <;> simp [pveq8_i, pveq8_s, pveq8_b, pveq8_nb, pveq8_bn, pveq8_nn, pveq8_l, pveq7_s, pveq7_i]

section
variable {prog : Program} {w : World} {C : Cx} {lv : Nat} {Γ : Names} {ρ : Rho} {μ : Mu} {R : CPost} {T : Str → List PV → Option PV}

theorem Loop.mono {K : Rho → Mu → Prop} {N N' : Rho → Mu → Prop} (h : ∀ ρ μ, N ρ μ → N' ρ μ) : ∀ c ρ μ, Loop K R N c ρ μ → Loop K R N' c ρ μ
  | .next, ρ, μ, x => h ρ μ x
  | .brk, ρ, μ, x => x
  | .ret p, ρ, μ, x => x
theorem forS_inv {t : MTgt} {b : List MStmt} {K : Rho → Mu → Prop} (I : List PV → Rho → Mu → Prop) (hend : ∀ ρ μ, I [] ρ μ → K ρ μ)
    (step : ∀ p ps ρ μ, I (p :: ps) ρ μ → ∃ ρ1, bindT ρ t p = some ρ1 ∧ SatM prog w C lv Γ b ρ1 μ (Loop K R (I ps))) : ∀ items ρ μ, I items ρ μ → ForS prog w C lv Γ t b K R items ρ μ
  | [], ρ, μ, h => hend ρ μ h
  | p :: ps, ρ, μ, h => by
    obtain ⟨ρ1, h1, h2⟩ := step p ps ρ μ h
    exact ⟨ρ1, h1, h2.mono (Loop.mono fun ρ μ hI => forS_inv I hend step ps ρ μ hI)⟩

theorem len_str {x : Str} {s : List Nat} (h : ρ x = some (.str s)) : ev T μ (.call "len" [.var x]) ρ = some (.int s.length) := by
  have hl : (Str.ofString "len") ∈ biNames := by decide
  simp only [ev, evs, h, if_pos hl]; rfl
theorem len_lst {x : Str} {p : PV} {s : List PV} (h : ρ x = some p) (hr : rs μ p = .lst s) : ev T μ (.call "len" [.var x]) ρ = some (.int s.length) := by
  have hl : (Str.ofString "len") ∈ biNames := by decide
  simp only [ev, evs, h, if_pos hl, evCall, if_true, hr, arg1, lenV]
theorem range_one {e : MExpr} {n : Nat} (h : ev T μ e ρ = some (.int n)) (hn : n < 2 ^ 60) : ev T μ (.call "range" [e]) ρ = some (.rng 0 n 1) := by
  have hl : (Str.ofString "range") ∈ biNames := by decide
  have hne : Str.ofString "range" ≠ Str.ofString "len" := by decide
  simp only [ev, evs, h, if_pos hl, evCall, if_neg hne, if_true, rangeV, int1, int2]
  rw [if_pos (by simpa using hn)]; simp
theorem range_two {e e2 : MExpr} {a b : Nat} (h : ev T μ e ρ = some (.int a)) (h2 : ev T μ e2 ρ = some (.int b)) (ha : a < 2 ^ 60) (hb : b < 2 ^ 60) : ev T μ (.call "range" [e, e2]) ρ = some (.rng a (b - a) 1) := by
  have hl : (Str.ofString "range") ∈ biNames := by decide
  have hne : Str.ofString "range" ≠ Str.ofString "len" := by decide
  simp only [ev, evs, h, h2, if_pos hl, evCall, if_neg hne, if_true, rangeV, int1, int2]
  rw [if_pos ⟨by simpa using ha, by simpa using hb⟩]
  have : ((b : Int) - (a : Int)).toNat = b - a := by lia
  rw [this]
end

/-- the ends that a row of words leaves open -/
noncomputable def starE (n : Nat) (e : List Bool) : List Bool := (List.range (n + 1)).map fun k => (e.take (k + 1)).contains true
noncomputable def signE (name : List Nat) (c : Nat) (e : List Bool) : List Bool := false :: (List.range name.length).map fun k => e.getD k false && (c == 46 || c == name.getD k 0)
noncomputable def wordE (name : List Nat) (e : List Bool) (w : List Nat) : List Bool := if w = [42] then starE name.length e else w.foldl (fun e c => signE name c e) e
noncomputable def meansOf (words : List (List Nat)) (name : List Nat) : Bool := (words.foldl (wordE name) (true :: List.replicate name.length false)).getD name.length false

noncomputable def bMeans : List MStmt := [
  .assign "ends" (.bin .Add (.lst [(.const (.bool true))]) (.bin .Mult (.lst [(.const (.bool false))]) (.call "len" [(.var "name")]))),
  .for_ (.one "word") (.var "words") [
    .if_ (.cmp .Eq (.var "word") (.const (.str [42]))) [
      .assign "ends" (.comp1 (.cmp .In (.const (.bool true)) (.slc (.var "ends") (.const .none) (.bin .Add (.var "k") (.const (.int 1))) (.const .none))) (.one "k") (.call "range" [(.bin .Add (.call "len" [(.var "name")]) (.const (.int 1)))]) [] ["ends"])] [
      .for_ (.one "sign") (.var "word") [
        .assign "ends" (.bin .Add (.lst [(.const (.bool false))]) (.comp1 (.and (.idx (.var "ends") (.var "k")) (.cmp .In (.var "sign") (.lst [(.const (.str [46])), (.idx (.var "name") (.var "k"))]))) (.one "k") (.call "range" [(.call "len" [(.var "name")])]) [] ["ends", "name", "sign"]))]]],
  .ret (.idx (.var "ends") (.call "len" [(.var "name")]))]
noncomputable def nMeans : Names := [("words", .local), ("name", .cell), ("ends", .cell), ("word", .local), ("sign", .cell), ("len", .globalImplicit), ("range", .globalImplicit)]
end Mine
end

section
open PySem PySem.W PyProof.Rows PySem.SeqAt
set_option linter.unusedVariables false
set_option maxRecDepth 10000
namespace Mine
section
variable {prog : Program} {w : World} {C : Cx} {lv : Nat} {Γ : Names} {ρ : Rho} {μ : Mu} {R : CPost}

structure MV (name : List Nat) (e : List Bool) (ρ : Rho) : Prop where
  nm : ρ "name" = some (.str name)
  ends : ρ "ends" = some (.lst (e.map .bool))
  len : e.length = name.length + 1

theorem getI_nat {α : Type} (xs : List α) (k : Nat) : getI xs (k : Int) = xs[k]? := by
  unfold getI
  rw [if_pos (by lia)]; simp
theorem signE_len (name : List Nat) (c : Nat) (e : List Bool) : (signE name c e).length = name.length + 1 := by simp [signE]
theorem starE_len (n : Nat) (e : List Bool) : (starE n e).length = n + 1 := by simp [starE]

theorem mean_star {name : List Nat} {e : List Bool} (h : MV name e ρ) (hn : name.length + 1 < 2 ^ 20) :
    ev T0 μ (.comp1 (.cmp .In (.const (.bool true)) (.slc (.var "ends") (.const .none) (.bin .Add (.var "k") (.const (.int 1))) (.const .none))) (.one "k") (.call "range" [(.bin .Add (.call "len" [(.var "name")]) (.const (.int 1)))]) [] ["ends"]) ρ
      = some (.lst ((starE name.length e).map .bool)) := by
  rw [ev_comp_range (lo := 0) (N := name.length + 1) (fun k => .bool ((e.take (k + 1)).contains true)) ?_ ?_ (by simp [SZ]; lia)]
  · simp [starE]
  · refine range_one (n := name.length + 1) ?_ (by lia)
    rw [ev, len_str h.nm]; simp only [ev]; simp [evBin, rs, int2, addV, mulV]
  · intro k hk
    have e1 : upd (restr ["ends"] ρ) "k" (.int (0 + k : Nat)) "ends" = some (.lst (e.map .bool)) := by rw [← h.ends]; rfl
    have e2 : upd (restr ["ends"] ρ) "k" (.int (0 + k : Nat)) "k" = some (.int (0 + k : Nat)) := rfl
    have e3 : ev T0 μ (.bin .Add (.var "k") (.const (.int 1))) (upd (restr ["ends"] ρ) "k" (.int (0 + k : Nat))) = some (.int (k + 1 : Nat)) := by
      simp only [ev, e2]; simp [evBin, rs, int2, addV, mulV]
    have e4 : ev T0 μ (.slc (.var "ends") (.const .none) (.bin .Add (.var "k") (.const (.int 1))) (.const .none)) (upd (restr ["ends"] ρ) "k" (.int (0 + k : Nat))) = some (.lst ((e.take (k + 1)).map .bool)) := by
      rw [ev, e3]
      simp only [ev, e1, evSlc, slcV, rs, optI, sl_take, List.map_take]
    rw [ev, e4]
    simp only [ev, evCmp, int2, rs, pvin, anyEq_true, Option.map_some]

theorem mean_sign {name : List Nat} {e : List Bool} {c : Nat} (h : MV name e ρ) (hs : ρ "sign" = some (.str [c])) (hn : name.length + 1 < 2 ^ 20) :
    ev T0 μ (.bin .Add (.lst [(.const (.bool false))]) (.comp1 (.and (.idx (.var "ends") (.var "k")) (.cmp .In (.var "sign") (.lst [(.const (.str [46])), (.idx (.var "name") (.var "k"))]))) (.one "k") (.call "range" [(.call "len" [(.var "name")])]) [] ["ends", "name", "sign"])) ρ
      = some (.lst ((signE name c e).map .bool)) := by
  have hc : ev T0 μ (.comp1 (.and (.idx (.var "ends") (.var "k")) (.cmp .In (.var "sign") (.lst [(.const (.str [46])), (.idx (.var "name") (.var "k"))]))) (.one "k") (.call "range" [(.call "len" [(.var "name")])]) [] ["ends", "name", "sign"]) ρ
      = some (.lst ((List.range name.length).map fun k => .bool (e.getD k false && (c == 46 || c == name.getD k 0)))) := by
    refine ev_comp_range (lo := 0) (N := name.length) _ (range_one (len_str h.nm) (by lia)) ?_ (by simp [SZ]; lia)
    intro k hk
    rw [Nat.zero_add]
    have e1 : upd (restr ["ends", "name", "sign"] ρ) "k" (.int (k : Nat)) "ends" = some (.lst (e.map .bool)) := by rw [← h.ends]; rfl
    have e2 : upd (restr ["ends", "name", "sign"] ρ) "k" (.int (k : Nat)) "name" = some (.str name) := by rw [← h.nm]; rfl
    have e3 : upd (restr ["ends", "name", "sign"] ρ) "k" (.int (k : Nat)) "sign" = some (.str [c]) := by rw [← hs]; rfl
    have e4 : upd (restr ["ends", "name", "sign"] ρ) "k" (.int (k : Nat)) "k" = some (.int (k : Nat)) := rfl
    have he : e[k]? = some (e.getD k false) := by
      have := h.len
      rw [List.getElem?_eq_getElem (by lia), List.getD_eq_getElem?_getD, List.getElem?_eq_getElem (by lia)]; rfl
    have hnm : name[k]? = some (name.getD k 0) := by
      rw [List.getElem?_eq_getElem hk, List.getD_eq_getElem?_getD, List.getElem?_eq_getElem hk]; rfl
    have f1 : ev T0 μ (.idx (.var "ends") (.var "k")) (upd (restr ["ends", "name", "sign"] ρ) "k" (.int (k : Nat))) = some (.bool (e.getD k false)) := by
      simp only [ev, e1, e4, evIdx, rs, getI_nat, List.getElem?_map]
      rw [he]; rfl
    have f2 : ev T0 μ (.idx (.var "name") (.var "k")) (upd (restr ["ends", "name", "sign"] ρ) "k" (.int (k : Nat))) = some (.str [name.getD k 0]) := by
      simp only [ev, e2, e4, evIdx, rs, getI_nat]
      rw [hnm]; rfl
    have f3 : ev T0 μ (.lst [(.const (.str [46])), (.idx (.var "name") (.var "k"))]) (upd (restr ["ends", "name", "sign"] ρ) "k" (.int (k : Nat))) = some (.lst [.str [46], .str [name.getD k 0]]) := by
      rw [ev, evs, evs, f2]; simp [ev, evs, SZ]
    have f4 : ev T0 μ (.cmp .In (.var "sign") (.lst [(.const (.str [46])), (.idx (.var "name") (.var "k"))])) (upd (restr ["ends", "name", "sign"] ρ) "k" (.int (k : Nat))) = some (.bool (c == 46 || c == name.getD k 0)) := by
      rw [ev, f3]
      simp only [ev, e3, evCmp, int2, rs, pvin, anyEq, pveq8_i, pveq8_s, pveq8_b, pveq8_nb, pveq8_bn, pveq8_nn, pveq8_l, pveq7_s, pveq7_i, Option.map_some]
      congr 2
      rw [Bool.eq_iff_iff]
      simp
      constructor
      · rintro (h | h)
        · exact .inl h.symm
        · exact .inr h.symm
      · rintro (h | h)
        · exact .inl h.symm
        · exact .inr h.symm
    rw [ev, f1]
    simp only [truth]
    cases hb : e.getD k false with
    | true => simp only [f4, Bool.true_and]
    | false => simp
  rw [ev, hc]
  have hl : ev T0 μ (.lst [(.const (.bool false))]) ρ = some (.lst [.bool false]) := by simp [ev, evs, SZ]
  rw [hl]
  simp only [evBin, rs, int2, addV, mulV]
  rw [if_pos (by simp [SZ]; lia)]
  simp [signE]

theorem means_sat (hC : CxOk C) {words : List (List Nat)} {name : List Nat} (hn : name.length + 1 < 2 ^ 20) (hw : words.length ≤ SZ) :
    SatM prog w C lv nMeans bMeans (upd (upd (fun _ => none) "words" (.lst (words.map .str))) "name" (.str name)) (fun _ => none) (Ret (.bool (meansOf words name))) := by
  refine sat_cons (sat_assign (T := T0) (.lst ((true :: List.replicate name.length false).map .bool)) hC t0ok (.inr rfl) ?_ ?_)
  · have h1 : ev T0 (fun _ => none) (.bin .Mult (.lst [(.const (.bool false))]) (.call "len" [(.var "name")])) (upd (upd (fun _ => none) "words" (.lst (words.map .str))) "name" (.str name)) = some (.lst (List.replicate name.length (.bool false))) := by
      rw [ev, len_str (s := name) rfl]
      have hl : ∀ ρ, ev T0 (fun _ => none) (.lst [(.const (.bool false))]) ρ = some (.lst [.bool false]) := fun ρ => by simp [ev, evs, SZ]
      rw [hl]
      simp only [evBin, rs, int2, addV, mulV]
      rw [if_pos ⟨by lia, by simp [SZ]; lia, by lia⟩]
      simp [rep_one]
    rw [ev, h1]
    have hl : ∀ ρ, ev T0 (fun _ => none) (.lst [(.const (.bool true))]) ρ = some (.lst [.bool true]) := fun ρ => by simp [ev, evs, SZ]
    rw [hl]
    simp only [evBin, rs, int2, addV, mulV]
    rw [if_pos (by simp [SZ]; lia)]
    simp
  have MV0 : MV name (true :: List.replicate name.length false) (upd (upd (upd (fun _ => none) "words" (.lst (words.map .str))) "name" (.str name)) "ends" (.lst ((true :: List.replicate name.length false).map .bool))) := ⟨rfl, rfl, by simp⟩
  refine sat_cons (sat_for (T := T0) (x := .lst (words.map .str)) (words.map .str) hC t0ok rfl rfl rfl (by intro y hy; simp [tgtNames] at hy; subst hy; exact .inl rfl) ?_)
  refine forS_inv (fun items ρ μ => ∃ rest e, items = rest.map .str ∧ MV name e ρ ∧ rest.foldl (wordE name) e = words.foldl (wordE name) (true :: List.replicate name.length false)) ?_ ?_ _ _ _ ⟨words, _, rfl, MV0, rfl⟩
  · rintro ρ μ ⟨rest, e, h1, h2, h3⟩
    have : rest = [] := by cases rest with | nil => rfl | cons _ _ => cases h1
    subst this
    refine sat_cons (sat_ret (T := T0) (.bool (meansOf words name)) hC t0ok ?_ ⟨_, rfl, rfl⟩)
    rw [ev, len_str h2.nm]
    simp only [ev, h2.ends, evIdx, rs, getI_nat, List.getElem?_map]
    unfold meansOf
    rw [← h3]
    have := h2.len
    rw [List.foldl_nil, List.getD_eq_getElem?_getD, List.getElem?_eq_getElem (by lia)]; rfl
  · rintro p ps ρ μ ⟨rest, e, h1, h2, h3⟩
    cases rest with
    | nil => cases h1
    | cons wd rest =>
      simp only [List.map_cons] at h1
      injection h1 with h1 h4
      subst h1; subst h4
      refine ⟨upd ρ "word" (.str wd), rfl, ?_⟩
      have g1 : MV name e (upd ρ "word" (.str wd)) := ⟨by rw [← h2.nm]; rfl, by rw [← h2.ends]; rfl, h2.len⟩
      have gw : upd ρ "word" (.str wd) "word" = some (.str wd) := rfl
      refine sat_cons (sat_if (T := T0) (decide (wd = [42])) (x := .bool (wd == [42])) hC t0ok (by simp only [ev, gw, evCmp, int2, rs, pveq8_i, pveq8_s, pveq8_b, pveq8_nb, pveq8_bn, pveq8_nn, pveq8_l, pveq7_s, pveq7_i, Option.map_some]) (by simp only [truth, Option.some.injEq]; rw [Bool.eq_iff_iff]; simp) ?_)
      by_cases hwd : wd = [42]
      · simp only [hwd, decide_true, if_true]
        refine sat_cons (sat_assign (T := T0) (.lst ((starE name.length e).map .bool)) hC t0ok (.inr rfl) (mean_star (hwd ▸ g1) hn) (sat_nil (sat_nil ?_)))
        refine ⟨rest, starE name.length e, rfl, ⟨by rw [← h2.nm]; rfl, rfl, starE_len _ _⟩, ?_⟩
        rw [← h3, List.foldl_cons]
        simp [wordE, hwd]
      · simp only [hwd, decide_false, Bool.false_eq_true, if_false]
        refine sat_cons (sat_for (T := T0) (x := .str wd) (wd.map fun c => .str [c]) hC t0ok gw rfl rfl (by intro y hy; simp [tgtNames] at hy; subst hy; exact .inr rfl) ?_)
        refine forS_inv (fun items ρ μ => ∃ cs e', items = (cs.map fun c => PV.str [c]) ∧ MV name e' ρ ∧ cs.foldl (fun e c => signE name c e) e' = wd.foldl (fun e c => signE name c e) e) ?_ ?_ _ _ _ ⟨wd, e, rfl, g1, rfl⟩
        · rintro ρ μ ⟨cs, e', k1, k2, k3⟩
          have : cs = [] := by cases cs with | nil => rfl | cons _ _ => cases k1
          subst this
          refine sat_nil (sat_nil ⟨rest, e', rfl, k2, ?_⟩)
          rw [← h3, List.foldl_cons]
          simp only [wordE, hwd, if_false]
          rw [← k3]; rfl
        · rintro p ps ρ μ ⟨cs, e', k1, k2, k3⟩
          cases cs with
          | nil => cases k1
          | cons c cs =>
            simp only [List.map_cons] at k1
            injection k1 with k1 k4
            subst k1; subst k4
            refine ⟨upd ρ "sign" (.str [c]), rfl, ?_⟩
            have m1 : MV name e' (upd ρ "sign" (.str [c])) := ⟨by rw [← k2.nm]; rfl, by rw [← k2.ends]; rfl, k2.len⟩
            refine sat_cons (sat_assign (T := T0) (.lst ((signE name c e').map .bool)) hC t0ok (.inr rfl) (mean_sign m1 rfl hn) (sat_nil ?_))
            exact ⟨cs, signE name c e', rfl, ⟨by rw [← k2.nm]; rfl, rfl, signE_len _ _ _⟩, by rw [← k3]; rfl⟩
end
end Mine
end

section
open PySem PySem.W PyProof.Rows PySem.SeqAt
set_option linter.unusedVariables false
set_option maxRecDepth 10000
namespace Mine

noncomputable abbrev Way := Nat × Nat × List Int
noncomputable def encW (x : Way) : PV := .tup [.int x.1, .int x.2.1, .lst (x.2.2.map .int)]

/-- how far a run of any signs may go -/
noncomputable def farOf (name : List Nat) (all : Bool) (place : Nat) : Nat := place + ((name.drop place).takeWhile fun c => all || c != 10).length
noncomputable def waysOf (step place far : Nat) (held : List Int) : List Way := (List.range (far + 1 - place)).map fun k => (step, place + k, held)

/-- one way gone through, up to its end or to the next run -/
noncomputable def inner (name : List Nat) : List (List Nat) → Nat → Nat → List Int → List Way → Bool × List Int × List Way
  | [], _, _, held, unt => (true, held, unt)
  | mark :: r, step, place, held, unt =>
    if mark = [40, 63, 115, 58] then inner name r (step + 1) place (held ++ [-1]) unt
    else if mark = [40, 63, 62] then inner name r (step + 1) place (held ++ [(unt.length : Int)]) unt
    else if mark = [41] ∧ held ≠ [] then inner name r (step + 1) place held.dropLast (if 0 ≤ held.getLastD 0 then unt.take (held.getLastD 0).toNat else unt)
    else if mark = [46, 42, 63] ∨ mark = [46, 42] then
      (false, held, unt ++ (if mark = [46, 42] then waysOf (step + 1) place (farOf name (held.contains (-1)) place) held else (waysOf (step + 1) place (farOf name (held.contains (-1)) place) held).reverse))
    else if mark = [92, 90] then if place = name.length then inner name r (step + 1) place held unt else (false, held, unt)
    else if place < name.length ∧ (mark = [name.getD place 0] ∨ (mark = [46] ∧ (held.contains (-1) = true ∨ name.getD place 0 ≠ 10))) then inner name r (step + 1) (place + 1) held unt else (false, held, unt)

/-- the ways tried, at most so many -/
noncomputable def outer (steps : List (List Nat)) (name : List Nat) : Nat → List Way → Option Bool
  | 0, unt => if unt = [] then some false else none
  | m + 1, unt => match unt.getLast? with
    | none => some false
    | some x => match inner name (steps.drop x.1) x.1 x.2.1 x.2.2 unt.dropLast with
      | (true, held, _) => some (decide (held = []))
      | (false, _, unt') => outer steps name m unt'

structure GV (steps : List (List Nat)) (name : List Nat) (most : Nat) (u : Addr) (tr st pl : Nat) (hd : List Int) (unt : List Way) (ρ : Rho) (μ : Mu) : Prop where
  fS : ρ "steps" = some (.lst (steps.map .str))
  nm : ρ "name" = some (.str name)
  fM : ρ "most" = some (.int most)
  tried : ρ "tried" = some (.int tr)
  step : ρ "step" = some (.int st)
  place : ρ "place" = some (.int pl)
  held : ρ "held" = some (.lst (hd.map .int))
  fU : ρ "untried" = some (.own u)
  mu : μ u = some (unt.map encW)

noncomputable def nGoes : Names := [("steps", .local), ("name", .local), ("most", .local), ("untried", .local), ("tried", .local), ("step", .cell), ("place", .local), ("held", .cell), ("going", .local), ("mark", .local), ("far", .local), ("ways", .cell), ("len", .globalImplicit), ("range", .globalImplicit)]

section
variable {prog : Program} {w : World} {C : Cx} {lv : Nat} {Γ : Names} {ρ : Rho} {μ : Mu} {R : CPost} {steps : List (List Nat)} {name : List Nat} {most tr st pl : Nat} {hd : List Int} {unt : List Way} {u : Addr}

theorem GV.keep (h : GV steps name most u tr st pl hd unt ρ μ) {x : Str} (p : PV) (hx : x = "going" ∨ x = "mark" ∨ x = "far" ∨ x = "ways") : GV steps name most u tr st pl hd unt (upd ρ x p) μ := by
  rcases hx with rfl | rfl | rfl | rfl
  all_goals exact ⟨by rw [← h.fS]; rfl, by rw [← h.nm]; rfl, by rw [← h.fM]; rfl, by rw [← h.tried]; rfl, by rw [← h.step]; rfl, by rw [← h.place]; rfl, by rw [← h.held]; rfl, by rw [← h.fU]; rfl, h.mu⟩
theorem GV.setStep (h : GV steps name most u tr st pl hd unt ρ μ) (k : Nat) : GV steps name most u tr k pl hd unt (upd ρ "step" (.int k)) μ :=
  ⟨by rw [← h.fS]; rfl, by rw [← h.nm]; rfl, by rw [← h.fM]; rfl, by rw [← h.tried]; rfl, rfl, by rw [← h.place]; rfl, by rw [← h.held]; rfl, by rw [← h.fU]; rfl, h.mu⟩
theorem GV.setPlace (h : GV steps name most u tr st pl hd unt ρ μ) (k : Nat) : GV steps name most u tr st k hd unt (upd ρ "place" (.int k)) μ :=
  ⟨by rw [← h.fS]; rfl, by rw [← h.nm]; rfl, by rw [← h.fM]; rfl, by rw [← h.tried]; rfl, by rw [← h.step]; rfl, rfl, by rw [← h.held]; rfl, by rw [← h.fU]; rfl, h.mu⟩
theorem GV.setHeld (h : GV steps name most u tr st pl hd unt ρ μ) (k : List Int) : GV steps name most u tr st pl k unt (upd ρ "held" (.lst (k.map .int))) μ :=
  ⟨by rw [← h.fS]; rfl, by rw [← h.nm]; rfl, by rw [← h.fM]; rfl, by rw [← h.tried]; rfl, by rw [← h.step]; rfl, by rw [← h.place]; rfl, rfl, by rw [← h.fU]; rfl, h.mu⟩
theorem GV.setUnt (h : GV steps name most u tr st pl hd unt ρ μ) (v : Addr) (ws : List Way) : GV steps name most v tr st pl hd ws (upd ρ "untried" (.own v)) (muSet μ v (ws.map encW)) :=
  ⟨by rw [← h.fS]; rfl, by rw [← h.nm]; rfl, by rw [← h.fM]; rfl, by rw [← h.tried]; rfl, by rw [← h.step]; rfl, by rw [← h.place]; rfl, by rw [← h.held]; rfl, rfl, by simp [muSet]⟩

theorem eq_str {x : Str} {a b : List Nat} (h : ρ x = some (.str a)) : ev T0 μ (.cmp .Eq (.var x) (.const (.str b))) ρ = some (.bool (decide (a = b))) := by
  simp only [ev, h, evCmp, int2, rs, pveq8_i, pveq8_s, pveq8_b, pveq8_nb, pveq8_bn, pveq8_nn, pveq8_l, pveq7_s, pveq7_i, Option.map_some]
  congr 2
  rw [Bool.eq_iff_iff]; simp
theorem anyEq_int (k : Int) : ∀ e : List Int, anyEq (.int k) (e.map .int) = some (e.contains k)
  | [] => rfl
  | b :: r => by
    rw [List.map_cons, anyEq, anyEq_int k r]
    simp only [pveq8_i, pveq8_s, pveq8_b, pveq8_nb, pveq8_bn, pveq8_nn, pveq8_l, pveq7_s, pveq7_i]
    congr 1
    rw [List.contains_cons, Bool.eq_iff_iff]
    simp
    constructor
    · rintro (h | h)
      · exact .inl h.symm
      · exact .inr h
    · rintro (h | h)
      · exact .inl h.symm
      · exact .inr h
theorem all_ev (h : GV steps name most u tr st pl hd unt ρ μ) : ev T0 μ (.cmp .In (.neg (.const (.int 1))) (.var "held")) ρ = some (.bool (hd.contains (-1))) := by
  simp only [ev, h.held, evCmp, int2, rs, pvin]
  rw [anyEq_int]; rfl

theorem far_next {all : Bool} {q : Nat} (hq : q < name.length) (hok : (all || name.getD q 0 != 10) = true) : farOf name all (q + 1) = farOf name all q := by
  unfold farOf
  have hd : name.drop q = name.getD q 0 :: name.drop (q + 1) := by
    rw [List.drop_eq_getElem_cons hq, List.getD_eq_getElem?_getD, List.getElem?_eq_getElem hq]; rfl
  rw [hd, List.takeWhile_cons, if_pos hok, List.length_cons]; omega
theorem far_stop {all : Bool} {q : Nat} (h : ¬ (q < name.length ∧ (all || name.getD q 0 != 10) = true)) : farOf name all q = q := by
  unfold farOf
  by_cases hq : q < name.length
  · have hd : name.drop q = name.getD q 0 :: name.drop (q + 1) := by
      rw [List.drop_eq_getElem_cons hq, List.getD_eq_getElem?_getD, List.getElem?_eq_getElem hq]; rfl
    rw [hd, List.takeWhile_cons, if_neg (fun hh => h ⟨hq, hh⟩)]; rfl
  · rw [List.drop_eq_nil_iff.mpr (by omega)]; rfl

theorem sign_ne {x y : Str} {q : Nat} (hn : ρ x = some (.str name)) (hy : ρ y = some (.int q)) (hq : q < name.length) : ev T0 μ (.cmp .NotEq (.idx (.var x) (.var y)) (.const (.str [10]))) ρ = some (.bool (name.getD q 0 != 10)) := by
  have hnm : name[q]? = some (name.getD q 0) := by
    rw [List.getD_eq_getElem?_getD, List.getElem?_eq_getElem hq]; rfl
  simp only [ev, hn, hy, evIdx, rs, getI_nat, hnm, Option.map_some, evCmp, int2, pveq8_i, pveq8_s, pveq8_b, pveq8_nb, pveq8_bn, pveq8_nn, pveq8_l, pveq7_s, pveq7_i]
  congr 2
  rw [Bool.eq_iff_iff]; simp

inductive FarI (steps : List (List Nat)) (name : List Nat) (most : Nat) (u : Addr) (tr st pl : Nat) (hd : List Int) (unt : List Way) (ρ : Rho) (μ : Mu) (m : Nat) (ρ' : Rho) (μ' : Mu) : Prop
  | mk (q : Nat) (e : μ' = μ) (g : GV steps name most u tr st pl hd unt ρ' μ) (g1 : ρ' "far" = some (.int q)) (g2 : ρ' "mark" = ρ "mark") (g3 : farOf name (hd.contains (-1)) q = farOf name (hd.contains (-1)) pl) (hm : m = name.length - q)
/-- far, step by step -/
theorem far_sat (hC : CxOk C) {ms : List MStmt} (h : GV steps name most u tr st pl hd unt ρ μ) (hf : ρ "far" = some (.int pl))
    (hR : ∀ ρ', GV steps name most u tr st pl hd unt ρ' μ → ρ' "far" = some (.int (farOf name (hd.contains (-1)) pl)) → ρ' "mark" = ρ "mark" → SatM prog w C lv nGoes ms ρ' μ R) :
    SatM prog w C lv nGoes (.while_ (.and (.cmp .Lt (.var "far") (.call "len" [(.var "name")])) (.or (.cmp .In (.neg (.const (.int 1))) (.var "held")) (.cmp .NotEq (.idx (.var "name") (.var "far")) (.const (.str [10]))))) [
                .aug "far" .Add (.const (.int 1))] :: ms) ρ μ R := by
  refine sat_cons (sat_while (T := T0) (FarI steps name most u tr st pl hd unt ρ μ) (name.length - pl) hC t0ok
    ⟨pl, rfl, h, hf, rfl, rfl, rfl⟩ ?_)
  rintro m ρ' μ' ⟨q, rfl, g, g1, g2, g3, rfl⟩
  have e1 : ev T0 μ' (.cmp .Lt (.var "far") (.call "len" [(.var "name")])) ρ' = some (.bool (decide (q < name.length))) := by
    rw [ev, len_str g.nm]; simp only [ev, g1, evCmp, int2]; simp
  refine ⟨.bool (decide (q < name.length ∧ (hd.contains (-1) || name.getD q 0 != 10) = true)), decide (q < name.length ∧ (hd.contains (-1) || name.getD q 0 != 10) = true), ?_, rfl, ?_⟩
  · rw [ev, e1]
    by_cases hq : q < name.length
    · simp only [hq, decide_true, truth, true_and]
      rw [ev, all_ev g, sign_ne g.nm g1 hq]
      cases hc : hd.contains (-1) with
      | true => simp [truth]
      | false => simp only [truth, Bool.false_or, Bool.decide_eq_true]
    · simp [hq, truth]
  · by_cases hok : q < name.length ∧ (hd.contains (-1) || name.getD q 0 != 10) = true
    · rw [decide_eq_true hok]
      simp only [if_true]
      refine sat_cons (sat_aug (T := T0) (p := .int q) (q := .int 1) hC t0ok rfl (.inl rfl) g1 rfl rfl (sat_nil ?_))
      refine ⟨name.length - (q + 1), by omega, ⟨q + 1, rfl, g.keep _ (.inr (.inr (.inl rfl))), ?_, by rw [← g2]; rfl, by rw [far_next hok.1 hok.2, g3], rfl⟩⟩
      show some (PV.int ((q : Int) + 1)) = _
      simp
    · rw [decide_eq_false hok]
      simp only [Bool.false_eq_true, if_false]
      refine hR ρ' g ?_ g2
      rw [g1, ← g3, far_stop hok]
end
end Mine
end

section
open PySem PySem.W PyProof.Rows PySem.SeqAt
set_option linter.unusedVariables false
set_option maxRecDepth 10000
namespace Mine

noncomputable def bRun : List MStmt := [
              .assign "far" (.var "place"),
              .while_ (.and (.cmp .Lt (.var "far") (.call "len" [(.var "name")])) (.or (.cmp .In (.neg (.const (.int 1))) (.var "held")) (.cmp .NotEq (.idx (.var "name") (.var "far")) (.const (.str [10]))))) [
                .aug "far" .Add (.const (.int 1))],
              .assign "ways" (.comp1 (.tup [(.var "step"), (.var "k"), (.var "held")]) (.one "k") (.call "range" [(.var "place"), (.bin .Add (.var "far") (.const (.int 1)))]) [] ["held", "step"]),
              .mcall (.var "untried") "extend" (.ite (.cmp .Eq (.var "mark") (.const (.str [46, 42]))) (.var "ways") (.comp1 (.idx (.var "ways") (.bin .Sub (.neg (.const (.int 1))) (.var "k"))) (.one "k") (.call "range" [(.call "len" [(.var "ways")])]) [] ["ways"])),
              .assign "going" (.const (.bool false))]
noncomputable def bTurn : List MStmt := [
      .assign "mark" (.idx (.var "steps") (.var "step")),
      .aug "step" .Add (.const (.int 1)),
      .if_ (.cmp .Eq (.var "mark") (.const (.str [40, 63, 115, 58]))) [
        .assign "held" (.bin .Add (.var "held") (.lst [(.neg (.const (.int 1)))]))] [
        .if_ (.cmp .Eq (.var "mark") (.const (.str [40, 63, 62]))) [
          .assign "held" (.bin .Add (.var "held") (.lst [(.call "len" [(.var "untried")])]))] [
          .if_ (.and (.cmp .Eq (.var "mark") (.const (.str [41]))) (.cmp .NotEq (.var "held") (.lst []))) [
            .if_ (.cmp .GtE (.idx (.var "held") (.neg (.const (.int 1)))) (.const (.int 0))) [
              .assign "untried" (.slc (.var "untried") (.const .none) (.idx (.var "held") (.neg (.const (.int 1)))) (.const .none))] [],
            .assign "held" (.slc (.var "held") (.const .none) (.neg (.const (.int 1))) (.const .none))] [
            .if_ (.or (.cmp .Eq (.var "mark") (.const (.str [46, 42, 63]))) (.cmp .Eq (.var "mark") (.const (.str [46, 42])))) bRun [
              .if_ (.cmp .Eq (.var "mark") (.const (.str [92, 90]))) [
                .assign "going" (.cmp .Eq (.var "place") (.call "len" [(.var "name")]))] [
                .assign "going" (.and (.cmp .Lt (.var "place") (.call "len" [(.var "name")])) (.or (.cmp .Eq (.var "mark") (.idx (.var "name") (.var "place"))) (.and (.cmp .Eq (.var "mark") (.const (.str [46]))) (.or (.cmp .In (.neg (.const (.int 1))) (.var "held")) (.cmp .NotEq (.idx (.var "name") (.var "place")) (.const (.str [10]))))))),
                .aug "place" .Add (.const (.int 1))]]]]]]

theorem sl_last {α : Type} (xs : List α) : sl xs none (some (-1)) = xs.dropLast := by
  unfold sl clip
  simp only [Option.elim]
  rw [List.dropLast_eq_take]
  simp
  congr 1; lia
theorem getI_last (xs : List Int) (h : xs ≠ []) : getI xs (-1) = some (xs.getLastD 0) := by
  unfold getI
  rw [if_neg (by lia)]
  have hl : 0 < xs.length := List.length_pos_iff.mpr h
  rw [if_pos (by lia)]
  have e : (-1 + (xs.length : Int)).toNat = xs.length - 1 := by lia
  rw [e, List.getLastD_eq_getLast?, List.getLast?_eq_getElem?, List.getElem?_eq_getElem (by lia)]; rfl

section
variable {prog : Program} {w : World} {C : Cx} {lv : Nat} {Γ : Names} {ρ : Rho} {μ : Mu} {R : CPost} {steps : List (List Nat)} {name : List Nat} {most tr st pl : Nat} {hd : List Int} {unt : List Way} {u : Addr}

theorem held_push (h : GV steps name most u tr st pl hd unt ρ μ) {e : MExpr} {i : Int} (he : ev T0 μ e ρ = some (.int i)) (hl : hd.length + 1 ≤ SZ) : ev T0 μ (.bin .Add (.var "held") (.lst [e])) ρ = some (.lst ((hd ++ [i]).map .int)) := by
  have h1 : ev T0 μ (.lst [e]) ρ = some (.lst [.int i]) := by
    rw [ev, evs, he]; simp [evs, SZ]
  rw [ev, h1, ev, h.held]
  simp only [evBin, rs, int2, addV, mulV]
  rw [if_pos (by simpa using hl)]
  simp
theorem held_last (h : GV steps name most u tr st pl hd unt ρ μ) (hne : hd ≠ []) : ev T0 μ (.idx (.var "held") (.neg (.const (.int 1)))) ρ = some (.int (hd.getLastD 0)) := by
  simp only [ev, h.held, evIdx, rs]
  have := getI_last hd hne
  unfold getI at this ⊢
  simp only [List.length_map, List.getElem?_map] at this ⊢
  rw [if_neg (by lia)] at this ⊢
  split at this
  · rename_i hh; rw [if_pos hh, this]; rfl
  · cases this
theorem held_cut (h : GV steps name most u tr st pl hd unt ρ μ) : ev T0 μ (.slc (.var "held") (.const .none) (.neg (.const (.int 1))) (.const .none)) ρ = some (.lst (hd.dropLast.map .int)) := by
  simp only [ev, h.held, evSlc, slcV, rs, optI]
  rw [show (-1 : Int) = -1 from rfl, sl_last, List.map_dropLast]

/-- the state at a turn's end -/
noncomputable def WFs (steps : List (List Nat)) (name : List Nat) (unt : List Way) : Prop := ∀ x ∈ unt, x.2.2.length ≤ x.1 ∧ x.1 ≤ steps.length ∧ x.2.1 ≤ name.length
noncomputable def JT (steps : List (List Nat)) (name : List Nat) (most tr B : Nat) (res : Bool × List Int × List Way) (m : Nat) (ρ : Rho) (μ : Mu) : Prop :=
  ∃ st pl hd unt u g, GV steps name most u tr st pl hd unt ρ μ ∧ ρ "going" = some (.bool g) ∧ WFs steps name unt ∧ hd.length ≤ st ∧ st ≤ steps.length ∧
    (g = true → m = steps.length - st + 1 ∧ pl ≤ name.length ∧ unt.length + (name.length + 1) ≤ B ∧ inner name (steps.drop st) st pl hd unt = res) ∧ (g = false → m = 0 ∧ unt.length ≤ B ∧ res = (false, hd, unt))

theorem ways_ev (h : GV steps name most u tr st pl hd unt ρ μ) {far : Nat} (hf : ρ "far" = some (.int far)) (hb : far + 1 < 2 ^ 20) (hp : pl < 2 ^ 20) :
    ev T0 μ (.comp1 (.tup [(.var "step"), (.var "k"), (.var "held")]) (.one "k") (.call "range" [(.var "place"), (.bin .Add (.var "far") (.const (.int 1)))]) [] ["held", "step"]) ρ = some (.lst ((waysOf st pl far hd).map encW)) := by
  rw [ev_comp_range (lo := pl) (N := far + 1 - pl) (fun k => encW (st, pl + k, hd)) ?_ ?_ (by simp [SZ]; lia)]
  · simp [waysOf]
  · refine range_two (a := pl) (b := far + 1) (by rw [ev]; exact h.place) ?_ (by lia) (by lia)
    simp only [ev, hf]; simp [evBin, rs, int2, addV, mulV]
  · intro k hk
    have e1 : upd (restr ["held", "step"] ρ) "k" (.int (pl + k : Nat)) "step" = some (.int st) := by rw [← h.step]; rfl
    have e2 : upd (restr ["held", "step"] ρ) "k" (.int (pl + k : Nat)) "held" = some (.lst (hd.map .int)) := by rw [← h.held]; rfl
    have e3 : upd (restr ["held", "step"] ρ) "k" (.int (pl + k : Nat)) "k" = some (.int (pl + k : Nat)) := rfl
    simp only [ev, evs, e1, e2, e3]
    rw [if_pos (by simp [SZ])]; rfl
theorem rev_ev {ws : List PV} (h : ρ "ways" = some (.lst ws)) (hb : ws.length < 2 ^ 20) :
    ev T0 μ (.comp1 (.idx (.var "ways") (.bin .Sub (.neg (.const (.int 1))) (.var "k"))) (.one "k") (.call "range" [(.call "len" [(.var "ways")])]) [] ["ways"]) ρ = some (.lst ws.reverse) := by
  rw [ev_comp_range (lo := 0) (N := ws.length) (fun k => ws.reverse.getD k .none) (range_one (len_lst h rfl) (by lia)) ?_ (by simp [SZ]; lia)]
  · congr 2
    apply List.ext_getElem
    · simp
    · intro i h1 h2
      simp at h1
      simp [List.getD_eq_getElem?_getD, h1]
  · intro k hk
    rw [Nat.zero_add]
    have e1 : upd (restr ["ways"] ρ) "k" (.int (k : Nat)) "ways" = some (.lst ws) := by rw [← h]; rfl
    have e2 : upd (restr ["ways"] ρ) "k" (.int (k : Nat)) "k" = some (.int (k : Nat)) := rfl
    have e3 : ev T0 μ (.bin .Sub (.neg (.const (.int 1))) (.var "k")) (upd (restr ["ways"] ρ) "k" (.int (k : Nat))) = some (.int (-1 - k)) := by
      simp only [ev, e2]; rfl
    rw [ev, e3]
    simp only [ev, e1, evIdx, rs, getI]
    rw [if_neg (by lia), if_pos (by lia)]
    have : ((-1 - (k : Int)) + (ws.length : Int)).toNat = ws.length - 1 - k := by lia
    rw [this, List.getD_eq_getElem?_getD, List.getElem?_reverse hk]
    rw [List.getElem?_eq_getElem (by lia)]; rfl
end
end Mine
end

section
open PySem PySem.W PyProof.Rows PySem.SeqAt
set_option linter.unusedVariables false
set_option maxRecDepth 10000
namespace Mine
section
variable {prog : Program} {w : World} {C : Cx} {lv : Nat} {Γ : Names} {ρ : Rho} {μ : Mu} {R R' : CPost} {steps : List (List Nat)} {name : List Nat} {most tr st pl B : Nat} {hd : List Int} {unt : List Way} {u : Addr}

theorem Sat1.mono {m : MStmt} (h : Sat1 prog w C lv Γ m ρ μ R) (hR : ∀ c ρ μ, R c ρ μ → R' c ρ μ) : Sat1 prog w C lv Γ m ρ μ R' :=
  fun st hst A E V env G s₀ s hr hΓ fr => wpAny_mono (h st hst A E V env G s₀ s hr hΓ fr) (fun fl s' ho => ho.mono hR) fun _ _ e => e
theorem sat_last {m : MStmt} (h : Sat1 prog w C lv Γ m ρ μ R) : SatM prog w C lv Γ [m] ρ μ R :=
  sat_cons (h.mono fun c ρ μ x => by cases c <;> first | exact sat_nil x | exact x)

theorem wfs_take {n : Nat} (h : WFs steps name unt) : WFs steps name (unt.take n) := fun x hx => h x (List.mem_of_mem_take hx)

theorem run_sat (hC : CxOk C) {mark : List Nat} (h : GV steps name most u tr st pl hd unt ρ μ) (hm : ρ "mark" = some (.str mark)) (hw : WFs steps name unt) (hhd : hd.length ≤ st) (hst : st ≤ steps.length) (hpl : pl ≤ name.length) (hn : name.length + 2 < 2 ^ 20) (hB : B ≤ SZ) (hub : unt.length + (name.length + 1) ≤ B)
    (hR : ∀ ρ' μ', JT steps name most tr B (false, hd, unt ++ (if mark = [46, 42] then waysOf st pl (farOf name (hd.contains (-1)) pl) hd else (waysOf st pl (farOf name (hd.contains (-1)) pl) hd).reverse)) 0 ρ' μ' → R .next ρ' μ') :
    SatM prog w C lv nGoes bRun ρ μ R := by
  have hfar : farOf name (hd.contains (-1)) pl ≤ name.length := by
    unfold farOf
    have := (List.takeWhile_sublist (l := name.drop pl) (fun c => hd.contains (-1) || c != 10)).length_le
    rw [List.length_drop] at this; lia
  refine sat_cons (sat_assign (T := T0) (.int pl) hC t0ok (.inl rfl) (by rw [ev]; exact h.place) ?_)
  refine far_sat hC (h.keep (.int pl) (.inr (.inr (.inl rfl)))) rfl fun ρ1 g1 f1 m1 => ?_
  have m1 : ρ1 "mark" = some (.str mark) := by rw [m1, ← hm]; rfl
  generalize farOf name (hd.contains (-1)) pl = far at *
  refine sat_cons (sat_assign (T := T0) (.lst ((waysOf st pl far hd).map encW)) hC t0ok (.inr rfl) (ways_ev g1 f1 (by lia) (by lia)) ?_)
  have g2 := g1.keep (.lst ((waysOf st pl far hd).map encW)) (x := "ways") (.inr (.inr (.inr rfl)))
  have m2 : upd ρ1 "ways" (.lst ((waysOf st pl far hd).map encW)) "mark" = some (.str mark) := by rw [← m1]; rfl
  have hwl : (waysOf st pl far hd).length ≤ name.length + 1 := by simp only [waysOf, List.length_map, List.length_range]; lia
  have hex : ev T0 μ (.ite (.cmp .Eq (.var "mark") (.const (.str [46, 42]))) (.var "ways") (.comp1 (.idx (.var "ways") (.bin .Sub (.neg (.const (.int 1))) (.var "k"))) (.one "k") (.call "range" [(.call "len" [(.var "ways")])]) [] ["ways"])) (upd ρ1 "ways" (.lst ((waysOf st pl far hd).map encW)))
      = some (.lst ((if mark = [46, 42] then waysOf st pl far hd else (waysOf st pl far hd).reverse).map encW)) := by
    rw [ev, eq_str m2]
    simp only [truth]
    by_cases hk : mark = [46, 42]
    · simp only [hk, decide_true, if_true]; rfl
    · simp only [hk, decide_false, if_false]
      rw [rev_ev rfl (by simp only [List.length_map]; lia), List.map_reverse]
  refine sat_cons (sat_extend (T := T0) hC t0ok g2.fU g2.mu hex (by simp only [List.length_map]; split <;> (try rw [List.length_reverse]) <;> lia) ?_)
  refine sat_last (sat_assign (T := T0) (.bool false) hC t0ok (.inl rfl) rfl (hR _ _ ?_))
  refine ⟨st, pl, hd, unt ++ (if mark = [46, 42] then waysOf st pl far hd else (waysOf st pl far hd).reverse), u, false, ⟨by rw [← g2.fS]; rfl, by rw [← g2.nm]; rfl, by rw [← g2.fM]; rfl, by rw [← g2.tried]; rfl, by rw [← g2.step]; rfl, by rw [← g2.place]; rfl, by rw [← g2.held]; rfl, by rw [← g2.fU]; rfl, by simp only [muSet, if_true, List.map_append]⟩, rfl, ?_, hhd, hst, fun h => (by cases h), fun _ => ⟨rfl, ?_, rfl⟩⟩
  · intro x hx
    rcases List.mem_append.mp hx with hx | hx
    · exact hw x hx
    · have hx' : x ∈ waysOf st pl far hd := by
        split at hx
        · exact hx
        · exact List.mem_reverse.mp hx
      obtain ⟨k, hk, rfl⟩ := List.mem_map.mp hx'
      have := List.mem_range.mp hk
      exact ⟨hhd, hst, by show pl + k ≤ name.length; lia⟩
  · rw [List.length_append]; split <;> (try rw [List.length_reverse]) <;> lia
end
end Mine
end

section
open PySem PySem.W PyProof.Rows PySem.SeqAt
set_option linter.unusedVariables false
set_option maxRecDepth 10000
namespace Mine
section
variable {prog : Program} {w : World} {C : Cx} {lv : Nat} {Γ : Names} {ρ : Rho} {μ : Mu} {R R' : CPost} {steps : List (List Nat)} {name : List Nat} {most tr st pl B : Nat} {hd : List Int} {unt : List Way} {u : Addr}

theorem turn_sat (hC : CxOk C) {mark : List Nat} {r : List (List Nat)} {res : Bool × List Int × List Way} (h : GV steps name most u tr st pl hd unt ρ μ) (hg : ρ "going" = some (.bool true)) (hd0 : steps.drop st = mark :: r) (hw : WFs steps name unt) (hhd : hd.length ≤ st) (hpl : pl ≤ name.length) (hn : name.length + 2 < 2 ^ 20) (hB : B ≤ SZ)
    (hss : steps.length + 1 ≤ SZ) (hub : unt.length + (name.length + 1) ≤ B) (hres : inner name (mark :: r) st pl hd unt = res)
    (hR : ∀ m' ρ' μ', m' < steps.length - st + 1 → JT steps name most tr B res m' ρ' μ' → R .next ρ' μ') : SatM prog w C lv nGoes bTurn ρ μ R := by
  obtain ⟨d1, d2, d3⟩ := drop_succ hd0
  refine sat_cons (sat_assign (T := T0) (.str mark) hC t0ok (.inl rfl) ?_ ?_)
  · simp only [ev, h.fS, h.step, evIdx, rs, getI_nat, List.getElem?_map, d2]; rfl
  have g1 := h.keep (.str mark) (x := "mark") (.inr (.inl rfl))
  refine sat_cons (sat_aug (T := T0) (p := .int st) (q := .int 1) (r := .int (st + 1 : Nat)) hC t0ok rfl (.inr rfl) g1.step rfl (by simp [evAug]) ?_)
  have g2 := g1.setStep (st + 1)
  have hm : upd (upd ρ "mark" (.str mark)) "step" (.int (st + 1 : Nat)) "mark" = some (.str mark) := rfl
  have hgo : upd (upd ρ "mark" (.str mark)) "step" (.int (st + 1 : Nat)) "going" = some (.bool true) := by rw [← hg]; rfl
  generalize upd (upd ρ "mark" (.str mark)) "step" (.int (st + 1 : Nat)) = ρ2 at g2 hm hgo ⊢
  -- the state goes on with going
  have cont : ∀ (ρ' : Rho) (μ' : Mu) (pl' : Nat) (hd' : List Int) (unt' : List Way) (u' : Addr), GV steps name most u' tr (st + 1) pl' hd' unt' ρ' μ' → ρ' "going" = some (.bool true) → WFs steps name unt' → hd'.length ≤ st + 1 → pl' ≤ name.length → unt'.length ≤ unt.length → inner name r (st + 1) pl' hd' unt' = res → R .next ρ' μ' := by
    intro ρ' μ' pl' hd' unt' u' k1 k2 k3 k4 k5 k6 k7
    exact hR (steps.length - (st + 1) + 1) ρ' μ' (by lia) ⟨st + 1, pl', hd', unt', u', true, k1, k2, k3, k4, d3, fun _ => ⟨rfl, k5, by lia, by rw [d1]; exact k7⟩, fun h => (by cases h)⟩
  have stop : ∀ (ρ' : Rho) (μ' : Mu) (pl' : Nat), GV steps name most u tr (st + 1) pl' hd unt ρ' μ' → ρ' "going" = some (.bool false) → res = (false, hd, unt) → R .next ρ' μ' := by
    intro ρ' μ' pl' k1 k2 k3
    exact hR 0 ρ' μ' (by lia) ⟨st + 1, pl', hd, unt, u, false, k1, k2, hw, by lia, d3, fun h => (by cases h), fun _ => ⟨rfl, by lia, k3⟩⟩
  rw [inner] at hres
  refine sat_last (sat_if (T := T0) (decide (mark = [40, 63, 115, 58])) hC t0ok (eq_str hm) rfl ?_)
  by_cases c1 : mark = [40, 63, 115, 58]
  · rw [decide_eq_true c1]; simp only [if_true]
    rw [if_pos c1] at hres
    refine sat_last (sat_assign (T := T0) (.lst ((hd ++ [-1]).map .int)) hC t0ok (.inr rfl) (held_push g2 rfl (by lia)) ?_)
    exact cont _ _ pl (hd ++ [-1]) unt u (g2.setHeld _) (by rw [← hgo]; rfl) hw (by simp; lia) hpl (Nat.le_refl _) hres
  rw [decide_eq_false c1]; simp only [Bool.false_eq_true, if_false]
  rw [if_neg c1] at hres
  refine sat_last (sat_if (T := T0) (decide (mark = [40, 63, 62])) hC t0ok (eq_str hm) rfl ?_)
  by_cases c2 : mark = [40, 63, 62]
  · rw [decide_eq_true c2]; simp only [if_true]
    rw [if_pos c2] at hres
    refine sat_last (sat_assign (T := T0) (.lst ((hd ++ [(unt.length : Int)]).map .int)) hC t0ok (.inr rfl) (held_push g2 ?_ (by lia)) ?_)
    · rw [len_lst (s := unt.map encW) g2.fU (by rw [rs, g2.mu])]; simp
    · exact cont _ _ pl (hd ++ [(unt.length : Int)]) unt u (g2.setHeld _) (by rw [← hgo]; rfl) hw (by simp; lia) hpl (Nat.le_refl _) hres
  rw [decide_eq_false c2]; simp only [Bool.false_eq_true, if_false]
  rw [if_neg c2] at hres
  have e3 : ev T0 μ (.and (.cmp .Eq (.var "mark") (.const (.str [41]))) (.cmp .NotEq (.var "held") (.lst []))) ρ2 = some (.bool (decide (mark = [41] ∧ hd ≠ []))) := by
    rw [ev, eq_str hm]
    simp only [truth]
    by_cases hh : mark = [41]
    · rw [decide_eq_true hh]
      simp only
      rw [ev_ne_nil g2.held rfl]
      congr 2
      rw [Bool.eq_iff_iff]; simp [hh]
    · simp [hh]
  refine sat_last (sat_if (T := T0) (decide (mark = [41] ∧ hd ≠ [])) hC t0ok e3 rfl ?_)
  by_cases c3 : mark = [41] ∧ hd ≠ []
  · rw [decide_eq_true c3]; simp only [if_true]
    rw [if_pos c3] at hres
    have e4 : ev T0 μ (.cmp .GtE (.idx (.var "held") (.neg (.const (.int 1)))) (.const (.int 0))) ρ2 = some (.bool (decide (0 ≤ hd.getLastD 0))) := by
      rw [ev, held_last g2 c3.2]; simp only [ev, evCmp, int2]
    refine sat_cons (sat_if (T := T0) (decide (0 ≤ hd.getLastD 0)) hC t0ok e4 rfl ?_)
    by_cases c4 : 0 ≤ hd.getLastD 0
    · rw [decide_eq_true c4]; simp only [if_true]
      rw [if_pos c4] at hres
      refine sat_last (sat_own_slc (T := T0) (p := .own u) (l := .none) (h := .int (hd.getLastD 0)) (unt.map encW) hC t0ok (.inl rfl) (by rw [ev]; exact g2.fU) (by rw [rs, g2.mu]) rfl rfl (held_last g2 c3.2) rfl rfl fun v hv => ?_)
      have e5 : sl (unt.map encW) none (some (hd.getLastD 0)) = (unt.take (hd.getLastD 0).toNat).map encW := by
        obtain ⟨n, hn'⟩ : ∃ n : Nat, hd.getLastD 0 = (n : Int) := ⟨_, (Int.toNat_of_nonneg c4).symm⟩
        rw [hn', sl_take, Int.toNat_natCast, List.map_take]
      rw [e5]
      have g3 := g2.setUnt v (unt.take (hd.getLastD 0).toNat)
      refine sat_last (sat_assign (T := T0) (.lst (hd.dropLast.map .int)) hC t0ok (.inr rfl) (held_cut g3) ?_)
      exact cont _ _ pl hd.dropLast _ v (g3.setHeld _) (by rw [← hgo]; rfl) (wfs_take hw) (by simp; lia) hpl (by simp; lia) hres
    · rw [decide_eq_false c4]; simp only [Bool.false_eq_true, if_false]
      rw [if_neg c4] at hres
      refine sat_nil ?_
      refine sat_last (sat_assign (T := T0) (.lst (hd.dropLast.map .int)) hC t0ok (.inr rfl) (held_cut g2) ?_)
      exact cont _ _ pl hd.dropLast _ u (g2.setHeld _) (by rw [← hgo]; rfl) hw (by simp; lia) hpl (Nat.le_refl _) hres
  rw [decide_eq_false c3]; simp only [Bool.false_eq_true, if_false]
  rw [if_neg c3] at hres
  have e6 : ev T0 μ (.or (.cmp .Eq (.var "mark") (.const (.str [46, 42, 63]))) (.cmp .Eq (.var "mark") (.const (.str [46, 42])))) ρ2 = some (.bool (decide (mark = [46, 42, 63] ∨ mark = [46, 42]))) := by
    rw [ev, eq_str hm]
    simp only [truth]
    by_cases hh : mark = [46, 42, 63]
    · simp [hh]
    · rw [decide_eq_false hh]
      simp only
      rw [eq_str hm]; simp [hh]
  refine sat_last (sat_if (T := T0) (decide (mark = [46, 42, 63] ∨ mark = [46, 42])) hC t0ok e6 rfl ?_)
  by_cases c5 : mark = [46, 42, 63] ∨ mark = [46, 42]
  · rw [decide_eq_true c5]; simp only [if_true]
    rw [if_pos c5] at hres
    refine run_sat (B := B) hC g2 hm hw (by lia) d3 hpl hn hB hub fun ρ' μ' hj => hR 0 ρ' μ' (by lia) ?_
    rw [hres] at hj
    exact hj
  rw [decide_eq_false c5]; simp only [Bool.false_eq_true, if_false]
  rw [if_neg c5] at hres
  refine sat_last (sat_if (T := T0) (decide (mark = [92, 90])) hC t0ok (eq_str hm) rfl ?_)
  by_cases c6 : mark = [92, 90]
  · rw [decide_eq_true c6]; simp only [if_true]
    rw [if_pos c6] at hres
    have e7 : ev T0 μ (.cmp .Eq (.var "place") (.call "len" [(.var "name")])) ρ2 = some (.bool (decide (pl = name.length))) := by
      rw [ev, len_str g2.nm]; simp only [ev, g2.place, evCmp, int2, rs, pveq8_i, pveq8_s, pveq8_b, pveq8_nb, pveq8_bn, pveq8_nn, pveq8_l, pveq7_s, pveq7_i, Option.map_some]
      congr 2
      rw [Bool.eq_iff_iff]; simp; lia
    refine sat_last (sat_assign (T := T0) _ hC t0ok (.inl rfl) e7 ?_)
    have g3 := g2.keep (.bool (decide (pl = name.length))) (x := "going") (.inl rfl)
    by_cases c7 : pl = name.length
    · rw [if_pos c7] at hres
      rw [decide_eq_true c7] at g3 ⊢
      exact cont _ _ pl hd unt u g3 rfl hw (by lia) hpl (Nat.le_refl _) hres
    · rw [if_neg c7] at hres
      rw [decide_eq_false c7] at g3 ⊢
      exact stop _ _ pl g3 rfl hres.symm
  rw [decide_eq_false c6]; simp only [Bool.false_eq_true, if_false]
  rw [if_neg c6] at hres
  have e8 : ev T0 μ (.and (.cmp .Lt (.var "place") (.call "len" [(.var "name")])) (.or (.cmp .Eq (.var "mark") (.idx (.var "name") (.var "place"))) (.and (.cmp .Eq (.var "mark") (.const (.str [46]))) (.or (.cmp .In (.neg (.const (.int 1))) (.var "held")) (.cmp .NotEq (.idx (.var "name") (.var "place")) (.const (.str [10]))))))) ρ2
      = some (.bool (decide (pl < name.length ∧ (mark = [name.getD pl 0] ∨ (mark = [46] ∧ (hd.contains (-1) = true ∨ name.getD pl 0 ≠ 10)))))) := by
    have a1 : ev T0 μ (.cmp .Lt (.var "place") (.call "len" [(.var "name")])) ρ2 = some (.bool (decide (pl < name.length))) := by
      rw [ev, len_str g2.nm]; simp only [ev, g2.place, evCmp, int2]; simp
    rw [ev, a1]
    by_cases hp : pl < name.length
    · rw [decide_eq_true hp]
      simp only [truth, true_and, hp]
      have hnm : name[pl]? = some (name.getD pl 0) := by
        rw [List.getD_eq_getElem?_getD, List.getElem?_eq_getElem hp]; rfl
      have a2 : ev T0 μ (.cmp .Eq (.var "mark") (.idx (.var "name") (.var "place"))) ρ2 = some (.bool (decide (mark = [name.getD pl 0]))) := by
        simp only [ev, hm, g2.nm, g2.place, evIdx, rs, getI_nat, hnm, Option.map_some, evCmp, int2, pveq8_i, pveq8_s, pveq8_b, pveq8_nb, pveq8_bn, pveq8_nn, pveq8_l, pveq7_s, pveq7_i]
        congr 2
        rw [Bool.eq_iff_iff]; simp
      rw [ev, a2]
      simp only [truth]
      by_cases h1 : mark = [name.getD pl 0]
      · rw [decide_eq_true h1]; simp only [h1, true_or, decide_true]
      · rw [decide_eq_false h1]
        simp only [h1, false_or]
        rw [ev, eq_str hm]
        simp only [truth]
        by_cases h2 : mark = [46]
        · rw [decide_eq_true h2]
          simp only [h2, true_and]
          rw [ev, all_ev g2]
          simp only [truth]
          cases hc : hd.contains (-1) with
          | true => simp
          | false =>
            simp only
            rw [sign_ne g2.nm g2.place hp]
            congr 2
            rw [Bool.eq_iff_iff]; simp
        · rw [decide_eq_false h2]; simp only [h2, false_and, decide_false]
    · rw [decide_eq_false hp]
      simp only [truth, hp, false_and, decide_false]
  refine sat_cons (sat_assign (T := T0) _ hC t0ok (.inl rfl) e8 ?_)
  have g3 := g2.keep (.bool (decide (pl < name.length ∧ (mark = [name.getD pl 0] ∨ (mark = [46] ∧ (hd.contains (-1) = true ∨ name.getD pl 0 ≠ 10)))))) (x := "going") (.inl rfl)
  refine sat_last (sat_aug (T := T0) (p := .int pl) (q := .int 1) (r := .int (pl + 1 : Nat)) hC t0ok rfl (.inl rfl) g3.place rfl (by simp [evAug]) ?_)
  have g4 := g3.setPlace (pl + 1)
  by_cases c8 : pl < name.length ∧ (mark = [name.getD pl 0] ∨ (mark = [46] ∧ (hd.contains (-1) = true ∨ name.getD pl 0 ≠ 10)))
  · rw [if_pos c8] at hres
    rw [decide_eq_true c8] at g4 ⊢
    exact cont _ _ (pl + 1) hd unt u g4 rfl hw (by lia) c8.1 (Nat.le_refl _) hres
  · rw [if_neg c8] at hres
    rw [decide_eq_false c8] at g4 ⊢
    exact stop _ _ (pl + 1) g4 rfl hres.symm
end
end Mine
end

section
open PySem PySem.W PyProof.Rows PySem.SeqAt
set_option linter.unusedVariables false
set_option maxRecDepth 10000
namespace Mine

noncomputable def bGoes : List MStmt := [
  .assign "untried" (.lst [(.tup [(.const (.int 0)), (.const (.int 0)), (.lst [])])]),
  .assign "tried" (.const (.int 0)),
  .while_ (.cmp .NotEq (.var "untried") (.lst [])) [
    .if_ (.cmp .Eq (.var "tried") (.var "most")) [
      .ret (.const .none)] [],
    .aug "tried" .Add (.const (.int 1)),
    .popTo ["step", "place", "held"] (.var "untried"),
    .assign "going" (.const (.bool true)),
    .while_ (.and (.var "going") (.cmp .Lt (.var "step") (.call "len" [(.var "steps")]))) bTurn,
    .if_ (.var "going") [
      .ret (.cmp .Eq (.var "held") (.lst []))] []],
  .ret (.const (.bool false))]

noncomputable def obPV : Option Bool → PV
  | none => .none
  | some b => .bool b

structure OV (steps : List (List Nat)) (name : List Nat) (most : Nat) (u : Addr) (tr : Nat) (unt : List Way) (ρ : Rho) (μ : Mu) : Prop where
  fS : ρ "steps" = some (.lst (steps.map .str))
  nm : ρ "name" = some (.str name)
  fM : ρ "most" = some (.int most)
  tried : ρ "tried" = some (.int tr)
  fU : ρ "untried" = some (.own u)
  mu : μ u = some (unt.map encW)

section
variable {prog : Program} {w : World} {C : Cx} {lv : Nat} {Γ : Names} {ρ : Rho} {μ : Mu} {R R' : CPost} {steps : List (List Nat)} {name : List Nat} {most tr st pl B : Nat} {hd : List Int} {unt : List Way} {u : Addr}

/-- one way, gone through -/
theorem inner_sat (hC : CxOk C) {res : Bool × List Int × List Way} {ms : List MStmt} (h : GV steps name most u tr st pl hd unt ρ μ) (hg : ρ "going" = some (.bool true)) (hw : WFs steps name unt) (hhd : hd.length ≤ st) (hst : st ≤ steps.length) (hpl : pl ≤ name.length) (hn : name.length + 2 < 2 ^ 20) (hB : B ≤ SZ)
    (hss : steps.length + 1 ≤ SZ) (hub : unt.length + (name.length + 1) ≤ B) (hres : inner name (steps.drop st) st pl hd unt = res)
    (hR : ∀ ρ' μ' st' pl' u', GV steps name most u' tr st' pl' res.2.1 res.2.2 ρ' μ' → ρ' "going" = some (.bool res.1) → WFs steps name res.2.2 → res.2.2.length ≤ B → SatM prog w C lv nGoes ms ρ' μ' R) :
    SatM prog w C lv nGoes (.while_ (.and (.var "going") (.cmp .Lt (.var "step") (.call "len" [(.var "steps")]))) bTurn :: ms) ρ μ R := by
  refine sat_cons (sat_while (T := T0) (JT steps name most tr B res) (steps.length - st + 1) hC t0ok ⟨st, pl, hd, unt, u, true, h, hg, hw, hhd, hst, fun _ => ⟨rfl, hpl, hub, hres⟩, fun h => (by cases h)⟩ ?_)
  rintro m ρ' μ' ⟨st', pl', hd', unt', u', g, k1, k2, k3, k4, k5, k6, k7⟩
  have e1 : ev T0 μ' (.cmp .Lt (.var "step") (.call "len" [(.var "steps")])) ρ' = some (.bool (decide (st' < steps.length))) := by
    rw [ev, len_lst (s := steps.map .str) k1.fS rfl]; simp only [ev, k1.step, evCmp, int2]; simp
  cases g with
  | false =>
    obtain ⟨_, q1, q2⟩ := k7 rfl
    refine ⟨.bool false, false, by rw [ev, ev, k2]; rfl, rfl, ?_⟩
    simp only [Bool.false_eq_true, if_false]
    subst q2
    exact hR ρ' μ' st' pl' u' k1 k2 k3 q1
  | true =>
    obtain ⟨q0, q1, q2, q3⟩ := k6 rfl
    refine ⟨.bool (decide (st' < steps.length)), decide (st' < steps.length), by rw [ev, ev, k2]; exact e1, rfl, ?_⟩
    by_cases hlt : st' < steps.length
    · rw [decide_eq_true hlt]; simp only [if_true]
      have hdr : steps.drop st' = steps[st'] :: steps.drop (st' + 1) := List.drop_eq_getElem_cons hlt
      refine turn_sat (B := B) (res := res) hC k1 k2 hdr k3 k4 q1 hn hB hss q2 (by rw [← hdr]; exact q3) fun m' ρ'' μ'' hm hj => ?_
      exact ⟨m', by lia, hj⟩
    · rw [decide_eq_false hlt]; simp only [Bool.false_eq_true, if_false]
      rw [List.drop_eq_nil_iff.mpr (by lia), inner] at q3
      subst q3
      exact hR ρ' μ' st' pl' u' k1 k2 k3 (by show unt'.length ≤ B; lia)

inductive GoI (steps : List (List Nat)) (name : List Nat) (most : Nat) (ob : Option Bool) (m : Nat) (ρ : Rho) (μ : Mu) : Prop
  | mk (t : Nat) (unt : List Way) (u : Addr) (ov : OV steps name most u t unt ρ μ) (ht : t ≤ most) (hw : WFs steps name unt) (hul : unt.length ≤ t * (name.length + 1) + 1) (ho : outer steps name (most - t) unt = ob) (hm : m = most - t + 1)
theorem goes_sat (hC : CxOk C) {ob : Option Bool} (hn : name.length + 2 < 2 ^ 20) (hss : steps.length + 1 ≤ SZ) (hB : (most + 1) * (name.length + 1) + 1 ≤ SZ) (hob : outer steps name most [(0, 0, [])] = ob) :
    SatM prog w C lv nGoes bGoes (upd (upd (upd (fun _ => none) "steps" (.lst (steps.map .str))) "name" (.str name)) "most" (.int most)) (fun _ => none) (Ret (obPV ob)) := by
  refine sat_cons (sat_own (T := T0) [encW (0, 0, [])] hC t0ok (.inl rfl) ?_ (by simp [SZ]) fun u0 hu0 => ?_)
  · simp [evs, ev, SZ, encW]
  refine sat_cons (sat_assign (T := T0) (.int 0) hC t0ok (.inl rfl) rfl ?_)
  refine sat_cons (sat_while (T := T0) (GoI steps name most ob) (most + 1) hC t0ok
    ⟨0, [(0, 0, [])], u0, ⟨rfl, rfl, rfl, rfl, rfl, by simp [muSet]⟩, Nat.zero_le _, ?_, by simp, hob, rfl⟩ ?_)
  · intro x hx
    simp at hx; subst hx; simp
  rintro m ρ μ ⟨t, unt, u, ov, ht, hw, hul, ho, rfl⟩
  refine ⟨_, _, ev_ne_nil (xs := unt.map encW) ov.fU (by rw [rs, ov.mu]), rfl, ?_⟩
  rcases List.eq_nil_or_concat unt with rfl | ⟨unt0, x, rfl⟩
  · simp only [List.map_nil, List.isEmpty_nil, Bool.not_true, Bool.false_eq_true, if_false]
    have : ob = some false := by
      rw [← ho]
      cases most - t <;> simp [outer]
    subst this
    exact sat_last (sat_ret (T := T0) (.bool false) hC t0ok rfl ⟨_, rfl, rfl⟩)
  · simp only [List.concat_eq_append] at ov hw hul ho ⊢
    rw [show ((List.map encW (unt0 ++ [x])).isEmpty) = false by simp]
    simp only [Bool.not_false, if_true]
    have e1 : ev T0 μ (.cmp .Eq (.var "tried") (.var "most")) ρ = some (.bool (decide (t = most))) := by
      simp only [ev, ov.tried, ov.fM, evCmp, int2, rs, pveq8_i, pveq8_s, pveq8_b, pveq8_nb, pveq8_bn, pveq8_nn, pveq8_l, pveq7_s, pveq7_i, Option.map_some]
      congr 2
      rw [Bool.eq_iff_iff]; simp; lia
    refine sat_cons (sat_if (T := T0) (decide (t = most)) hC t0ok e1 rfl ?_)
    by_cases htm : t = most
    · rw [decide_eq_true htm]; simp only [if_true]
      have : ob = none := by
        rw [← ho, htm, Nat.sub_self]; simp [outer]
      subst this
      exact sat_last (sat_ret (T := T0) .none hC t0ok rfl ⟨_, rfl, rfl⟩)
    · rw [decide_eq_false htm]; simp only [Bool.false_eq_true, if_false]
      refine sat_nil ?_
      refine sat_cons (sat_aug (T := T0) (p := .int t) (q := .int 1) (r := .int (t + 1 : Nat)) hC t0ok rfl (.inl rfl) ov.tried rfl (by simp [evAug]) ?_)
      have hx := hw x (by simp)
      refine sat_cons (sat_pop (T := T0) (a := u) (ps := unt0.map encW) (qs := [.int x.1, .int x.2.1, .lst (x.2.2.map .int)]) (ρ' := upd (upd (upd (upd ρ "tried" (.int (t + 1 : Nat))) "step" (.int x.1)) "place" (.int x.2.1)) "held" (.lst (x.2.2.map .int))) hC t0ok (by rw [← ov.fU]; rfl) (by rw [ov.mu]; simp [encW])
        (by intro y hy; simp at hy; rcases hy with rfl | rfl | rfl <;> first | exact .inr rfl | exact .inl rfl) rfl ?_)
      refine sat_cons (sat_assign (T := T0) (.bool true) hC t0ok (.inl rfl) rfl ?_)
      have hm1 : most - t = (most - (t + 1)) + 1 := by lia
      rw [hm1, outer] at ho
      simp only [List.getLast?_append, List.getLast?_singleton, Option.some_or, List.dropLast_concat] at ho
      have hul' : unt0.length ≤ t * (name.length + 1) := by simp at hul; lia
      have hBt : t * (name.length + 1) + (name.length + 1) ≤ (most + 1) * (name.length + 1) := by
        have : (t + 1) * (name.length + 1) ≤ (most + 1) * (name.length + 1) := Nat.mul_le_mul_right _ (by lia)
        rw [Nat.add_mul, Nat.one_mul] at this; lia
      generalize hres : inner name (steps.drop x.1) x.1 x.2.1 x.2.2 unt0 = res at ho
      refine inner_sat (B := (t + 1) * (name.length + 1) + 1) (u := u) (tr := t + 1) (st := x.1) (pl := x.2.1) (hd := x.2.2) (unt := unt0) hC ⟨by rw [← ov.fS]; rfl, by rw [← ov.nm]; rfl, by rw [← ov.fM]; rfl, rfl, rfl, rfl, rfl, by rw [← ov.fU]; rfl, by simp [muSet]⟩ rfl (fun y hy => hw y (by simp [hy])) hx.1 hx.2.1 hx.2.2 hn ?_ hss ?_ hres ?_
      · rw [Nat.add_mul, Nat.one_mul]; lia
      · rw [Nat.add_mul, Nat.one_mul]; lia
      · intro ρ' μ' st' pl' u' k1 k2 k3 k4
        obtain ⟨g, hd', unt'⟩ := res
        cases g with
        | true =>
          refine sat_last (sat_if (T := T0) true (x := .bool true) hC t0ok (by rw [ev]; exact k2) rfl ?_)
          simp only [if_true]
          simp only at ho
          refine sat_last (sat_ret (T := T0) (.bool (decide (hd' = []))) hC t0ok ?_ ⟨_, rfl, by rw [← ho]; rfl⟩)
          rw [ev_eq_nil k1.held rfl]
          congr 2
          rw [Bool.eq_iff_iff]; simp
        | false =>
          refine sat_last (sat_if (T := T0) false (x := .bool false) hC t0ok (by rw [ev]; exact k2) rfl ?_)
          simp only [Bool.false_eq_true, if_false]
          simp only at ho
          refine sat_nil ⟨most - (t + 1) + 1, by lia, ⟨t + 1, unt', u', ⟨k1.fS, k1.nm, k1.fM, k1.tried, k1.fU, k1.mu⟩, by lia, k3, k4, ho, rfl⟩⟩
end
end Mine
end

section
open PySem PySem.W PyProof.Rows PySem.SeqAt
set_option linter.unusedVariables false
set_option maxRecDepth 10000
namespace Mine

noncomputable def decStrs : List PV → Option (List (List Nat))
  | [] => some []
  | .str x :: r => (decStrs r).map (x :: ·)
  | _ => none
theorem decStrs_map : ∀ xs : List (List Nat), decStrs (xs.map .str) = some xs
  | [] => rfl
  | x :: r => by simp [decStrs, decStrs_map r]
theorem decStrs_eq : ∀ {ps : List PV} {xs : List (List Nat)}, decStrs ps = some xs → ps = xs.map .str
  | [], xs, h => by simp [decStrs] at h; subst h; rfl
  | p :: r, xs, h => by
    cases p with
    | str x =>
      simp only [decStrs, Option.map_eq_some_iff] at h
      obtain ⟨ys, h1, rfl⟩ := h
      rw [decStrs_eq h1]; rfl
    | _ => simp [decStrs] at h
noncomputable def decParts (s : Addr) : List PV → Option (List (Option (List Nat)))
  | [] => some []
  | .str x :: r => (decParts s r).map (some x :: ·)
  | .obj a :: r => if a = s then (decParts s r).map (none :: ·) else none
  | _ => none
theorem decParts_map (s : Addr) : ∀ xs : List (Option (List Nat)), decParts s (xs.map (encP s)) = some xs
  | [] => rfl
  | none :: r => by simp [decParts, encP, decParts_map s r]
  | some x :: r => by simp [decParts, encP, decParts_map s r]
theorem decParts_eq {s : Addr} : ∀ {ps : List PV} {xs : List (Option (List Nat))}, decParts s ps = some xs → ps = xs.map (encP s)
  | [], xs, h => by simp [decParts] at h; subst h; rfl
  | p :: r, xs, h => by
    cases p with
    | str x =>
      simp only [decParts, Option.map_eq_some_iff] at h
      obtain ⟨ys, h1, rfl⟩ := h
      rw [decParts_eq h1]; rfl
    | obj a =>
      simp only [decParts] at h
      split at h
      · rename_i e; subst e
        simp only [Option.map_eq_some_iff] at h
        obtain ⟨ys, h1, rfl⟩ := h
        rw [decParts_eq h1]; rfl
      · cases h
    | _ => simp [decParts] at h

noncomputable def asLst : PV → Option (List PV)
  | .lst ps => some ps
  | _ => none
noncomputable def asStr : PV → Option (List Nat)
  | .str x => some x
  | _ => none
noncomputable def asObj : PV → Option Addr
  | .obj s => some s
  | _ => none
theorem asLst_inv {p : PV} {ps : List PV} (h : asLst p = some ps) : p = .lst ps := by
  cases p with
  | lst q => exact congrArg PV.lst (Option.some.inj h)
  | _ => exact no h
theorem asStr_inv {p : PV} {x : List Nat} (h : asStr p = some x) : p = .str x := by
  cases p with
  | str q => exact congrArg PV.str (Option.some.inj h)
  | _ => exact no h
theorem asObj_inv {p : PV} {x : Addr} (h : asObj p = some x) : p = .obj x := by
  cases p with
  | obj q => exact congrArg PV.obj (Option.some.inj h)
  | _ => exact no h
noncomputable def with1 {α β : Type} (o : Option α) (f : α → Option β) : Option β := o.bind f
theorem with1_inv {α β : Type} {o : Option α} {f : α → Option β} {r : β} (h : with1 o f = some r) : ∃ a, o = some a ∧ f a = some r := by
  cases o with
  | none => exact no h
  | some a => exact ⟨a, rfl, h⟩
noncomputable def when {α : Type} (c : Prop) [Decidable c] (o : Option α) : Option α := if c then o else none
theorem when_inv {α : Type} {c : Prop} [Decidable c] {o : Option α} {r : α} (h : when c o = some r) : c ∧ o = some r := by
  unfold when at h
  by_cases hc : c
  · rw [if_pos hc] at h; exact ⟨hc, h⟩
  · rw [if_neg hc] at h; exact no h
theorem when_pos {α : Type} {c : Prop} [Decidable c] {o : Option α} (h : c) : when c o = o := if_pos h
noncomputable def arg3 (f : PV → PV → PV → Option PV) : List PV → Option PV
  | [p, q, r] => f p q r
  | _ => none
theorem arg3_inv {f : PV → PV → PV → Option PV} {ps : List PV} {r : PV} (h : arg3 f ps = some r) : ∃ a b c, ps = [a, b, c] ∧ f a b c = some r := by
  cases ps with
  | nil => exact no h
  | cons a ps => cases ps with
    | nil => exact no h
    | cons b ps => cases ps with
      | nil => exact no h
      | cons c ps => cases ps with
        | nil => exact ⟨a, b, c, rfl, h⟩
        | cons _ _ => exact no h

noncomputable def tJoin : List PV → Option PV := arg2 fun p q => with1 (asLst p) fun ps => with1 (asObj q) fun s => with1 (decParts s ps) fun q => when (wt q + 20 ≤ SZ) ((joinTxt q).map .str)
noncomputable def tSteps : List PV → Option PV := arg1 fun p => with1 (asStr p) fun x => when (x.length ≤ SZ) ((stepsOf (x.length + 1) x).map (fun ts => .lst (ts.map .str)))
noncomputable def tGoes : List PV → Option PV := arg3 fun a b c => with1 (asLst a) fun ss => with1 (asStr b) fun name => int1 (fun m => with1 (decStrs ss) fun steps =>
  when (name.length + 2 < 2 ^ 20 ∧ steps.length + 1 ≤ SZ ∧ 0 ≤ m ∧ (m.toNat + 1) * (name.length + 1) + 1 ≤ SZ) (some (obPV (outer steps name m.toNat [(0, 0, [])])))) c
noncomputable def tMeans : List PV → Option PV := arg2 fun a b => with1 (asLst a) fun ws => with1 (asStr b) fun name => with1 (decStrs ws) fun words => when (name.length + 1 < 2 ^ 20 ∧ words.length ≤ SZ) (some (.bool (meansOf words name)))
theorem tJoin_eq {s : Addr} {q : List (Option (List Nat))} {txt : List Nat} (h : wt q + 20 ≤ SZ) (ht : joinTxt q = some txt) : tJoin [.lst (q.map (encP s)), .obj s] = some (.str txt) := by
  show with1 (decParts s (q.map (encP s))) (fun q => when (wt q + 20 ≤ SZ) ((joinTxt q).map PV.str)) = _
  rw [decParts_map]
  show when (wt q + 20 ≤ SZ) ((joinTxt q).map PV.str) = _
  rw [when_pos h, ht]; rfl
theorem tSteps_eq {x : List Nat} {ts : List (List Nat)} (h : x.length ≤ SZ) (ht : stepsOf (x.length + 1) x = some ts) : tSteps [.str x] = some (.lst (ts.map .str)) := by
  show when (x.length ≤ SZ) ((stepsOf (x.length + 1) x).map (fun ts => PV.lst (ts.map .str))) = _
  rw [when_pos h, ht]; rfl
theorem tGoes_eq {steps : List (List Nat)} {name : List Nat} {m : Nat} (h : name.length + 2 < 2 ^ 20 ∧ steps.length + 1 ≤ SZ ∧ 0 ≤ (m : Int) ∧ ((m : Int).toNat + 1) * (name.length + 1) + 1 ≤ SZ) : tGoes [.lst (steps.map .str), .str name, .int m] = some (obPV (outer steps name m [(0, 0, [])])) := by
  show with1 (decStrs (steps.map .str)) (fun steps => when (name.length + 2 < 2 ^ 20 ∧ steps.length + 1 ≤ SZ ∧ 0 ≤ (m : Int) ∧ ((m : Int).toNat + 1) * (name.length + 1) + 1 ≤ SZ) (some (obPV (outer steps name (m : Int).toNat [(0, 0, [])])))) = _
  rw [decStrs_map]
  show when _ _ = _
  rw [when_pos h]; rfl
theorem tMeans_eq {words : List (List Nat)} {name : List Nat} (h : name.length + 1 < 2 ^ 20 ∧ words.length ≤ SZ) : tMeans [.lst (words.map .str), .str name] = some (.bool (meansOf words name)) := by
  show with1 (decStrs (words.map .str)) (fun words => when (name.length + 1 < 2 ^ 20 ∧ words.length ≤ SZ) (some (PV.bool (meansOf words name)))) = _
  rw [decStrs_map]
  show when _ _ = _
  rw [when_pos h]
noncomputable def T1 (f : Str) (args : List PV) : Option PV :=
  if f = "_join_translated_parts" then tJoin args else if f = "_law_steps" then tSteps args else if f = "_law_goes" then tGoes args else if f = "_law_means" then tMeans args else none

section
variable {prog : Program} {w : World} {C : Cx} {lv : Nat}

/-- what the module's functions must be -/
structure Fns1 (C : Cx) : Prop where
  join : ∃ sc body, FnAt C "_join_translated_parts" ["inp", "STAR"] sc body ∧ sc.names = nJoin ∧ trSs nJoin body = bJoin
  steps : ∃ sc body, FnAt C "_law_steps" ["text"] sc body ∧ sc.names = nSteps ∧ trSs nSteps body = bSteps
  goes : ∃ sc body, FnAt C "_law_goes" ["steps", "name", "most"] sc body ∧ sc.names = nGoes ∧ trSs nGoes body = bGoes
  means : ∃ sc body, FnAt C "_law_means" ["words", "name"] sc body ∧ sc.names = nMeans ∧ trSs nMeans body = bMeans

theorem join_ok (hC : CxOk C) (F : ∃ sc body, FnAt C "_join_translated_parts" ["inp", "STAR"] sc body ∧ sc.names = nJoin ∧ trSs nJoin body = bJoin) {args : List PV} {r : PV} (h : tJoin args = some r) : args ≠ [] ∧ CallOk prog w C (lv + 1) "_join_translated_parts" args r := by
  obtain ⟨p, q, rfl, h⟩ := arg2_inv h
  obtain ⟨ps, h1, h⟩ := with1_inv h
  obtain ⟨s, h2, h⟩ := with1_inv h
  obtain ⟨q', h3, h⟩ := with1_inv h
  obtain ⟨hw, h⟩ := when_inv h
  obtain ⟨txt, ht, rfl⟩ := Option.map_eq_some_iff.mp h
  cases asLst_inv h1; cases asObj_inv h2; cases decParts_eq h3
  obtain ⟨sc, body, fa, hn, hb⟩ := F
  refine ⟨List.cons_ne_nil _ _, fn_call hC fa rfl ?_⟩
  rw [hn, hb]
  exact join_sat hC hw ht
theorem steps_ok (hC : CxOk C) (F : Fns1 C) {args : List PV} {r : PV} (h : tSteps args = some r) : args ≠ [] ∧ CallOk prog w C (lv + 1) "_law_steps" args r := by
  obtain ⟨p, rfl, h⟩ := arg1_inv h
  obtain ⟨x, h1, h⟩ := with1_inv h
  obtain ⟨hw, h⟩ := when_inv h
  obtain ⟨ts, ht, rfl⟩ := Option.map_eq_some_iff.mp h
  cases asStr_inv h1
  obtain ⟨sc, body, fa, hn, hb⟩ := F.steps
  refine ⟨List.cons_ne_nil _ _, fn_call hC fa rfl ?_⟩
  rw [hn, hb]
  exact steps_sat hC ht hw
theorem goes_ok (hC : CxOk C) (F : Fns1 C) {args : List PV} {r : PV} (h : tGoes args = some r) : args ≠ [] ∧ CallOk prog w C (lv + 1) "_law_goes" args r := by
  obtain ⟨a, b, c, rfl, h⟩ := arg3_inv h
  obtain ⟨ss, h1, h⟩ := with1_inv h
  obtain ⟨name, h2, h⟩ := with1_inv h
  obtain ⟨m, rfl, h⟩ := int1_inv h
  obtain ⟨steps, h3, h⟩ := with1_inv h
  obtain ⟨hw, h⟩ := when_inv h
  cases Option.some.inj h
  cases asLst_inv h1; cases asStr_inv h2; cases decStrs_eq h3
  obtain ⟨sc, body, fa, hn, hb⟩ := F.goes
  refine ⟨List.cons_ne_nil _ _, fn_call hC fa rfl ?_⟩
  rw [hn, hb]
  have := goes_sat (prog := prog) (w := w) (lv := lv) (steps := steps) (name := name) (most := m.toNat) hC hw.1 hw.2.1 hw.2.2.2 rfl
  rw [Int.toNat_of_nonneg hw.2.2.1] at this
  exact this
theorem means_ok (hC : CxOk C) (F : Fns1 C) {args : List PV} {r : PV} (h : tMeans args = some r) : args ≠ [] ∧ CallOk prog w C (lv + 1) "_law_means" args r := by
  obtain ⟨a, b, rfl, h⟩ := arg2_inv h
  obtain ⟨ws, h1, h⟩ := with1_inv h
  obtain ⟨name, h2, h⟩ := with1_inv h
  obtain ⟨words, h3, h⟩ := with1_inv h
  obtain ⟨hw, h⟩ := when_inv h
  cases Option.some.inj h
  cases asLst_inv h1; cases asStr_inv h2; cases decStrs_eq h3
  obtain ⟨sc, body, fa, hn, hb⟩ := F.means
  refine ⟨List.cons_ne_nil _ _, fn_call hC fa rfl ?_⟩
  rw [hn, hb]
  exact means_sat hC hw.1 hw.2
theorem t1ok (hC : CxOk C) (F : Fns1 C) : TOk prog w C (lv + 1) T1 := by
  intro f args r h
  unfold T1 at h
  by_cases hf : f = "_join_translated_parts"
  · rw [if_pos hf] at h; subst hf; exact join_ok hC F.join h
  rw [if_neg hf] at h
  by_cases hf : f = "_law_steps"
  · rw [if_pos hf] at h; subst hf; exact steps_ok hC F h
  rw [if_neg hf] at h
  by_cases hf : f = "_law_goes"
  · rw [if_pos hf] at h; subst hf; exact goes_ok hC F h
  rw [if_neg hf] at h
  by_cases hf : f = "_law_means"
  · rw [if_pos hf] at h; subst hf; exact means_ok hC F h
  rw [if_neg hf] at h
  exact no h
end
end Mine
end

section
open PySem PySem.W PyProof.Rows PySem.SeqAt
set_option linter.unusedVariables false
set_option maxRecDepth 10000
namespace Mine

noncomputable def pieces1 : List (List Nat) := [[97], [98], [46], [97, 97], [97, 98], [97, 46], [98, 97], [98, 98], [98, 46], [46, 97], [46, 98], [46, 46]]
noncomputable def bld (wn : List (List Nat) × List Nat) (x : Int) : List (List Nat) × List Nat :=
  if x % 3 = 2 then (wn.1, wn.2 ++ [([97, 98, 10] : List Nat).getD (x / 3 % 3).toNat 0])
  else if x % 3 = 1 then (wn.1 ++ [pieces1.getD (x / 3 % 12).toNat []], wn.2)
  else if wn.1.getLast? = some [42] then wn else (wn.1 ++ [[42]], wn.2)

noncomputable def bFor1 : List MStmt := [
    .if_ (.cmp .Eq (.bin .Mod (.var "x") (.const (.int 3))) (.const (.int 2))) [
      .aug "name" .Add (.idx (.const (.str [97, 98, 10])) (.bin .Mod (.bin .FloorDiv (.var "x") (.const (.int 3))) (.const (.int 3))))] [
      .if_ (.cmp .Eq (.bin .Mod (.var "x") (.const (.int 3))) (.const (.int 1))) [
        .mcall (.var "words") "append" (.idx (.lst [(.const (.str [97])), (.const (.str [98])), (.const (.str [46])), (.const (.str [97, 97])), (.const (.str [97, 98])), (.const (.str [97, 46])), (.const (.str [98, 97])), (.const (.str [98, 98])), (.const (.str [98, 46])), (.const (.str [46, 97])), (.const (.str [46, 98])), (.const (.str [46, 46]))]) (.bin .Mod (.bin .FloorDiv (.var "x") (.const (.int 3))) (.const (.int 12))))] [
        .if_ (.cmp .NotEq (.slc (.var "words") (.neg (.const (.int 1))) (.const .none) (.const .none)) (.lst [(.const (.str [42]))])) [
          .mcall (.var "words") "append" (.const (.str [42]))] []]]]
noncomputable def bLaw1 : List MStmt := [
  .assign "script" (.slc (.var "script") (.const .none) (.const (.int 63)) (.const .none)),
  .unpack ["words", "name"] (.tup [(.lst []), (.const (.str []))]),
  .for_ (.one "x") (.var "script") bFor1,
  .assign "star" (.lst [(.const (.str [42]))]),
  .assign "steps" (.call "_law_steps" [(.call "_join_translated_parts" [(.comp1 (.ite (.cmp .Eq (.var "word") (.const (.str [42]))) (.var "star") (.var "word")) (.one "word") (.var "words") [] ["star"]), (.var "star")])]),
  .ret (.and (.cmp .IsNot (.var "steps") (.const .none)) (.cmp .Eq (.call "_law_goes" [(.var "steps"), (.var "name"), (.bin .Add (.call "len" [(.var "name")]) (.const (.int 2)))]) (.call "_law_means" [(.var "words"), (.var "name")])))]
noncomputable def nLaw1 : Names := [("script", .local), ("words", .local), ("name", .local), ("x", .local), ("star", .cell), ("steps", .local), ("_law_steps", .globalImplicit), ("_join_translated_parts", .globalImplicit), ("_law_goes", .globalImplicit), ("len", .globalImplicit), ("_law_means", .globalImplicit)]

section
variable {prog : Program} {w : World} {C : Cx} {lv : Nat} {Γ : Names} {ρ : Rho} {μ : Mu} {R R' : CPost}

theorem mod_ev {x : Str} {i k : Int} (h : ρ x = some (.int i)) (hk : 0 < k) : ev T0 μ (.bin .Mod (.var x) (.const (.int k))) ρ = some (.int (i % k)) := by
  simp only [ev, h, evBin, rs, int2, addV, mulV]; rw [if_pos hk]
theorem quo_ev {x : Str} {i j k : Int} (h : ρ x = some (.int i)) (hj : 0 < j ∧ j < 2 ^ 29) (hk : 0 < k) : ev T0 μ (.bin .Mod (.bin .FloorDiv (.var x) (.const (.int j))) (.const (.int k))) ρ = some (.int (i / j % k)) := by
  simp only [ev, h, evBin, rs, int2, addV, mulV]; rw [if_pos hj]; simp only [rs]; rw [if_pos hk]
theorem int_eq {e : MExpr} {i k : Int} (h : ev T0 μ e ρ = some (.int i)) : ev T0 μ (.cmp .Eq e (.const (.int k))) ρ = some (.bool (decide (i = k))) := by
  rw [ev, h]; simp only [ev, evCmp, int2, rs, pveq8_i, pveq8_s, pveq8_b, pveq8_nb, pveq8_bn, pveq8_nn, pveq8_l, pveq7_s, pveq7_i, Option.map_some]
  congr 2
theorem sl_neg1 {α : Type} (xs : List α) : sl xs (some (-1)) none = xs.drop (xs.length - 1) := by
  unfold sl clip
  simp only [Option.elim]
  have e : (max 0 (min (if (-1 : Int) < 0 then (-1 : Int) + (xs.length : Int) else -1) (xs.length : Int))).toNat = xs.length - 1 := by
    rw [if_pos (by lia)]; lia
  rw [e, List.take_of_length_le (by simp)]
theorem last_star (words : List (List Nat)) : pveq 8 (.lst ((words.map PV.str).drop (words.length - 1))) (.lst [.str [42]]) = some (decide (words.getLast? = some [42])) := by
  rcases List.eq_nil_or_concat words with rfl | ⟨ws, x, rfl⟩
  · rfl
  · simp only [List.concat_eq_append]
    have : ((ws ++ [x]).map PV.str).drop ((ws ++ [x]).length - 1) = [.str x] := by
      simp
    rw [this, List.getLast?_append]
    simp only [pveq8_i, pveq8_s, pveq8_b, pveq8_nb, pveq8_bn, pveq8_nn, pveq8_l, pveq7_s, pveq7_i, List.length_singleton, if_true, zipAll, Bool.and_true, List.getLast?_singleton, Option.some_or, Option.some.injEq]
    rw [Bool.eq_iff_iff]; simp
theorem words_last {u : Addr} {words : List (List Nat)} (hw : ρ "words" = some (.own u)) (hμ : μ u = some (words.map .str)) :
    ev T0 μ (.cmp .NotEq (.slc (.var "words") (.neg (.const (.int 1))) (.const .none) (.const .none)) (.lst [(.const (.str [42]))])) ρ = some (.bool (!decide (words.getLast? = some [42]))) := by
  have h1 : ev T0 μ (.slc (.var "words") (.neg (.const (.int 1))) (.const .none) (.const .none)) ρ = some (.lst ((words.map PV.str).drop (words.length - 1))) := by
    simp only [ev, hw, evSlc, slcV, rs, hμ, optI]
    rw [sl_neg1]; simp
  have h2 : ev T0 μ (.lst [(.const (.str [42]))]) ρ = some (.lst [.str [42]]) := by simp [ev, evs, SZ]
  rw [ev, h1, h2]
  simp only [evCmp, int2, rs]
  rw [last_star]; rfl

theorem getD_some {α : Type} {xs : List α} {k : Nat} {d : α} (h : k < xs.length) : xs[k]? = some (xs.getD k d) := by
  rw [List.getD_eq_getElem?_getD, List.getElem?_eq_getElem h]; rfl

/-- one number of the script -/
theorem for1_sat (hC : CxOk C) {u : Addr} {words : List (List Nat)} {name : List Nat} {x : Int} (hx : ρ "x" = some (.int x)) (hw : ρ "words" = some (.own u)) (hμ : μ u = some (words.map .str)) (hn : ρ "name" = some (.str name)) (hl : words.length + 1 ≤ SZ) (hl2 : name.length + 1 ≤ SZ)
    (hR : ∀ ρ' μ', ρ' "words" = some (.own u) → μ' u = some ((bld (words, name) x).1.map .str) → ρ' "name" = some (.str (bld (words, name) x).2) → R .next ρ' μ') : SatM prog w C lv nLaw1 bFor1 ρ μ R := by
  refine sat_last (sat_if (T := T0) (decide (x % 3 = 2)) hC t0ok (int_eq (mod_ev hx (by lia))) rfl ?_)
  unfold bld at hR
  by_cases c1 : x % 3 = 2
  · rw [decide_eq_true c1]; simp only [if_true]
    rw [if_pos c1] at hR
    refine sat_last (sat_aug (T := T0) (p := .str name) (q := .str [([97, 98, 10] : List Nat).getD (x / 3 % 3).toNat 0]) (r := .str (name ++ [([97, 98, 10] : List Nat).getD (x / 3 % 3).toNat 0])) hC t0ok rfl (.inl rfl) hn ?_ ?_ (hR _ _ (by rw [← hw]; rfl) hμ rfl))
    · rw [ev, quo_ev hx ⟨by lia, by lia⟩ (by lia)]
      obtain ⟨k, hk⟩ : ∃ k : Nat, x / 3 % 3 = (k : Int) := ⟨(x / 3 % 3).toNat, by lia⟩
      have hk3 : k < 3 := by lia
      rw [hk]
      simp only [ev, evIdx, rs, getI_nat, Int.toNat_natCast]
      rw [getD_some (d := 0) (show k < ([97, 98, 10] : List Nat).length by simpa using hk3)]; rfl
    · simp only [evAug]; rw [if_pos (by simpa using hl2)]
  rw [decide_eq_false c1]; simp only [Bool.false_eq_true, if_false]
  rw [if_neg c1] at hR
  refine sat_last (sat_if (T := T0) (decide (x % 3 = 1)) hC t0ok (int_eq (mod_ev hx (by lia))) rfl ?_)
  by_cases c2 : x % 3 = 1
  · rw [decide_eq_true c2]; simp only [if_true]
    rw [if_pos c2] at hR
    refine sat_last (sat_append (T := T0) (p := .str (pieces1.getD (x / 3 % 12).toNat [])) hC t0ok hw hμ ?_ (by simpa using hl) (hR _ _ hw (by simp [muSet]) hn))
    have hp : ev T0 μ (.lst [(.const (.str [97])), (.const (.str [98])), (.const (.str [46])), (.const (.str [97, 97])), (.const (.str [97, 98])), (.const (.str [97, 46])), (.const (.str [98, 97])), (.const (.str [98, 98])), (.const (.str [98, 46])), (.const (.str [46, 97])), (.const (.str [46, 98])), (.const (.str [46, 46]))]) ρ = some (.lst (pieces1.map .str)) := by
      simp [ev, evs, SZ, pieces1]
    rw [ev, hp, quo_ev hx ⟨by lia, by lia⟩ (by lia)]
    obtain ⟨k, hk⟩ : ∃ k : Nat, x / 3 % 12 = (k : Int) := ⟨(x / 3 % 12).toNat, by lia⟩
    have hk3 : k < 12 := by lia
    rw [hk]
    simp only [evIdx, rs, getI_nat, Int.toNat_natCast, List.getElem?_map]
    rw [getD_some (d := []) (show k < pieces1.length by simpa [pieces1] using hk3)]; rfl
  rw [decide_eq_false c2]; simp only [Bool.false_eq_true, if_false]
  rw [if_neg c2] at hR
  refine sat_last (sat_if (T := T0) (!decide (words.getLast? = some [42])) hC t0ok (words_last hw hμ) rfl ?_)
  by_cases c3 : words.getLast? = some [42]
  · rw [decide_eq_true c3]; simp only [Bool.not_true, Bool.false_eq_true, if_false]
    simp only [c3, if_true] at hR
    exact sat_nil (hR _ _ hw hμ hn)
  · rw [decide_eq_false c3]; simp only [Bool.not_false, if_true]
    simp only [c3, if_false] at hR
    exact sat_last (sat_append (T := T0) (p := .str [42]) hC t0ok hw hμ rfl (by simpa using hl) (hR _ _ hw (by simp [muSet]) hn))
end
end Mine
end

section
open PySem PySem.W PyProof.Rows PySem.SeqAt
set_option linter.unusedVariables false
set_option maxRecDepth 10000
namespace Mine

noncomputable def partOf (x : List Nat) : Option (List Nat) := if x = [42] then none else some x
/-- the plain law, with no program in sight -/
noncomputable def Pure1 (words : List (List Nat)) (name : List Nat) : Prop :=
  ∃ txt ts, joinTxt (words.map partOf) = some txt ∧ stepsOf (txt.length + 1) txt = some ts ∧ outer ts name (name.length + 2) [(0, 0, [])] = some (meansOf words name) ∧ txt.length ≤ 4000 ∧ ts.length ≤ 4000 ∧ wt (words.map partOf) + 20 ≤ SZ

theorem bld_len : ∀ (is : List Int) (wn : List (List Nat) × List Nat), (is.foldl bld wn).1.length + (is.foldl bld wn).2.length ≤ wn.1.length + wn.2.length + is.length
  | [], wn => by simp
  | i :: is, wn => by
    have h1 := bld_len is (bld wn i)
    have h2 : (bld wn i).1.length + (bld wn i).2.length ≤ wn.1.length + wn.2.length + 1 := by
      unfold bld
      split
      · simp; lia
      · split
        · simp; lia
        · split <;> simp <;> lia
    simp only [List.foldl_cons, List.length_cons]; lia

section
variable {prog : Program} {w : World} {C : Cx} {lv : Nat} {ρ : Rho} {μ : Mu} {R R' : CPost}

noncomputable def partF (s : Addr) : PV → List PV
  | .str x => [encP s (partOf x)]
  | _ => []
theorem partF_flat (s : Addr) : ∀ words : List (List Nat), (words.map PV.str).flatMap (partF s) = (words.map partOf).map (encP s)
  | [] => rfl
  | x :: r => by rw [List.map_cons, List.flatMap_cons, partF_flat s r]; rfl

theorem sl_63 (is : List Int) : sl (is.map PV.int) none (some 63) = (is.take 63).map .int := by
  rw [show (63 : Int) = ((63 : Nat) : Int) from rfl, sl_take, List.map_take]

inductive LwI (u : Addr) (ks : List Int) (items : List PV) (ρ : Rho) (μ : Mu) : Prop
  | mk (rest : List Int) (wn : List (List Nat) × List Nat) (h1 : items = rest.map .int) (h2 : ρ "words" = some (.own u)) (h3 : μ u = some (wn.1.map .str)) (h4 : ρ "name" = some (.str wn.2)) (h5 : rest.foldl bld wn = ks.foldl bld ([], [])) (h6 : wn.1.length + wn.2.length + rest.length ≤ 63)
theorem law1_sat (hC : CxOk C) (F : Fns1 C) {is : List Int} (hp : Pure1 ((is.take 63).foldl bld ([], [])).1 ((is.take 63).foldl bld ([], [])).2) :
    SatM prog w C (lv + 1) nLaw1 bLaw1 (upd (fun _ => none) "script" (.lst (is.map .int))) (fun _ => none) (Ret (.bool true)) := by
  have hT := t1ok (prog := prog) (w := w) (lv := lv) hC F
  refine sat_cons (sat_assign (T := T0) (.lst ((is.take 63).map .int)) hC t0ok (.inl rfl) ?_ ?_)
  · have e1 : upd (fun _ => none) "script" (PV.lst (is.map .int)) "script" = some (PV.lst (is.map .int)) := rfl
    simp only [ev, e1, evSlc, slcV, rs, optI]
    rw [sl_63]
  have hl63 : (is.take 63).length ≤ 63 := by simp; lia
  generalize hks : is.take 63 = ks at hp hl63 ⊢
  refine sat_cons (sat_unpack_own (T := T0) (xs := []) (q := .str []) hC t0ok (.inl rfl) (.inl rfl) (by decide) rfl (by simp [SZ]) (fun a ha => rfl) fun u hu => ?_)
  have hlen := bld_len ks ([], [])
  simp only [List.length_nil, Nat.zero_add] at hlen
  refine sat_cons (sat_for (T := T0) (x := .lst (ks.map .int)) (ks.map .int) hC t0ok rfl rfl rfl (by intro y hy; simp [tgtNames] at hy; subst hy; exact .inl rfl) ?_)
  refine forS_inv (LwI u ks) ?_ ?_ _ _ _
    ⟨ks, ([], []), rfl, rfl, by simp [muSet], rfl, rfl, by simpa using hl63⟩
  · rintro ρ μ ⟨rest, wn, h1, h2, h3, h4, h5, h6⟩
    have : rest = [] := by cases rest with | nil => rfl | cons _ _ => cases h1
    subst this
    simp only [List.foldl_nil] at h5
    rw [← h5] at hp
    obtain ⟨words, name⟩ := wn
    simp only at h3 h4 hp h6
    obtain ⟨txt, ts, p1, p2, p3, p4, p5, p6⟩ := hp
    refine sat_cons (sat_lst_obj (T := T0) (xs := [.str [42]]) hC t0ok (.inr rfl) rfl (by simp [SZ]) fun s => ?_)
    have k1 : upd ρ "star" (.obj s) "words" = some (.own u) := by rw [← h2]; rfl
    have k2 : upd ρ "star" (.obj s) "name" = some (.str name) := by rw [← h4]; rfl
    have k3 : upd ρ "star" (.obj s) "star" = some (.obj s) := rfl
    generalize upd ρ "star" (.obj s) = ρ1 at k1 k2 k3 ⊢
    have c1 : ev T1 μ (.comp1 (.ite (.cmp .Eq (.var "word") (.const (.str [42]))) (.var "star") (.var "word")) (.one "word") (.var "words") [] ["star"]) ρ1 = some (.lst ((words.map partOf).map (encP s))) := by
      have hfm := partF_flat s words
      rw [ev_comp1 (x := .own u) (items := words.map .str) (partF s) (by rw [ev]; exact k1) (by rw [iter, rs, h3]; rfl) ?_ (by rw [hfm]; simp [SZ]; lia) (by simp [SZ]; lia), hfm]
      intro q hq
      obtain ⟨x, hx, rfl⟩ := List.mem_map.mp hq
      refine ⟨_, true, rfl, rfl, fun _ => ⟨encP s (partOf x), ?_, rfl⟩, fun h => by cases h⟩
      have m1 : upd (restr ["star"] ρ1) "word" (.str x) "word" = some (.str x) := rfl
      have m2 : upd (restr ["star"] ρ1) "word" (.str x) "star" = some (.obj s) := by rw [← k3]; rfl
      have m3 : ev T1 μ (.cmp .Eq (.var "word") (.const (.str [42]))) (upd (restr ["star"] ρ1) "word" (.str x)) = some (.bool (decide (x = [42]))) := by
        simp only [ev, m1, evCmp, int2, rs, pveq8_i, pveq8_s, pveq8_b, pveq8_nb, pveq8_bn, pveq8_nn, pveq8_l, pveq7_s, pveq7_i, Option.map_some]
        congr 2
        rw [Bool.eq_iff_iff]; simp
      rw [ev, m3]
      simp only [truth]
      by_cases hh : x = [42]
      · simp only [hh, decide_true]; rw [ev, ← hh, m2]; simp [partOf, encP, hh]
      · rw [decide_eq_false hh]; simp only; rw [ev, m1]; simp [partOf, encP, hh]
    have b1 : ¬ (Str.ofString "_join_translated_parts") ∈ biNames := by decide
    have b2 : ¬ (Str.ofString "_law_steps") ∈ biNames := by decide
    have b3 : ¬ (Str.ofString "_law_goes") ∈ biNames := by decide
    have b4 : ¬ (Str.ofString "_law_means") ∈ biNames := by decide
    have c2 : ev T1 μ (.call "_join_translated_parts" [(.comp1 (.ite (.cmp .Eq (.var "word") (.const (.str [42]))) (.var "star") (.var "word")) (.one "word") (.var "words") [] ["star"]), (.var "star")]) ρ1 = some (.str txt) := by
      rw [ev, evs, c1, evs, ev, k3, evs]
      simp only [if_neg b1]
      rw [if_pos (by rfl)]
      exact tJoin_eq p6 p1
    have c3 : ev T1 μ (.call "_law_steps" [(.call "_join_translated_parts" [(.comp1 (.ite (.cmp .Eq (.var "word") (.const (.str [42]))) (.var "star") (.var "word")) (.one "word") (.var "words") [] ["star"]), (.var "star")])]) ρ1 = some (.lst (ts.map .str)) := by
      rw [ev, evs, c2, evs]
      simp only [if_neg b2]
      rw [if_pos (by rfl)]
      exact tSteps_eq (by simp [SZ]; lia) p2
    refine sat_cons (sat_assign (T := T1) _ hC hT (.inl rfl) c3 ?_)
    have j1 : upd ρ1 "steps" (.lst (ts.map .str)) "steps" = some (.lst (ts.map .str)) := rfl
    have j2 : upd ρ1 "steps" (.lst (ts.map .str)) "name" = some (.str name) := by rw [← k2]; rfl
    have j3 : upd ρ1 "steps" (.lst (ts.map .str)) "words" = some (.own u) := by rw [← k1]; rfl
    generalize upd ρ1 "steps" (.lst (ts.map .str)) = ρ2 at j1 j2 j3 ⊢
    have d1 : ev T1 μ (.bin .Add (.call "len" [(.var "name")]) (.const (.int 2))) ρ2 = some (.int (name.length + 2 : Nat)) := by
      rw [ev, len_str j2]; simp only [ev]; simp [evBin, rs, int2, addV, mulV]
    have d2 : ev T1 μ (.call "_law_goes" [(.var "steps"), (.var "name"), (.bin .Add (.call "len" [(.var "name")]) (.const (.int 2)))]) ρ2 = some (.bool (meansOf words name)) := by
      rw [ev, evs, evs, evs, d1, evs, ev, j1, ev, j2]
      simp only [if_neg b3]
      rw [if_pos (by rfl)]
      show tGoes [.lst (ts.map .str), .str name, .int (name.length + 2 : Nat)] = _
      have hb : (name.length + 2 + 1) * (name.length + 1) + 1 ≤ SZ := by
        have : (name.length + 2 + 1) * (name.length + 1) ≤ 66 * 64 := Nat.mul_le_mul (by lia) (by lia)
        simp only [SZ]; lia
      rw [tGoes_eq ⟨by lia, by simp [SZ]; lia, by lia, hb⟩, p3]; rfl
    have d3 : ev T1 μ (.call "_law_means" [(.var "words"), (.var "name")]) ρ2 = some (.bool (meansOf words name)) := by
      rw [ev, evs, evs, evs, ev, j3, ev, j2]
      simp only [if_neg b4]
      rw [if_neg (by simp [notOwn])]
      have e : T1 "_law_means" ([PV.own u, .str name].map (rs μ)) = some (.bool (meansOf words name)) := by
        show tMeans [rs μ (.own u), rs μ (.str name)] = _
        rw [rs, h3]
        exact tMeans_eq ⟨by lia, by simp [SZ]; lia⟩
      rw [e]; rfl
    refine sat_last (sat_ret (T := T1) (.bool true) hC hT ?_ ⟨_, rfl, rfl⟩)
    have d4 : ev T1 μ (.cmp .IsNot (.var "steps") (.const .none)) ρ2 = some (.bool true) := by
      simp only [ev, j1]; rfl
    rw [ev, d4]
    simp only [truth]
    rw [ev, d2, d3]
    simp [evCmp, int2, rs, pveq8_i, pveq8_s, pveq8_b, pveq8_nb, pveq8_bn, pveq8_nn, pveq8_l, pveq7_s, pveq7_i]
  · rintro p ps ρ μ ⟨rest, wn, h1, h2, h3, h4, h5, h6⟩
    cases rest with
    | nil => cases h1
    | cons x rest =>
      simp only [List.map_cons] at h1
      injection h1 with h1 h7
      subst h1; subst h7
      simp only [List.length_cons] at h6
      refine ⟨upd ρ "x" (.int x), rfl, for1_sat (u := u) (words := wn.1) (name := wn.2) hC rfl (by rw [← h2]; rfl) h3 (by rw [← h4]; rfl) (by simp [SZ]; lia) (by simp [SZ]; lia) fun ρ' μ' q1 q2 q3 => ?_⟩
      refine ⟨rest, bld wn x, rfl, q1, q2, q3, h5, ?_⟩
      have := bld_len [x] wn
      simp at this
      lia
end
end Mine
end

section
set_option linter.unusedVariables false
namespace Mine

/-- a row of signs at a place of the name -/
noncomputable def fit (name : List Nat) : List Nat → Nat → Bool
  | [], _ => true
  | c :: r, p => decide (p < name.length) && (c == 46 || c == name.getD p 0) && fit name r (p + 1)

noncomputable def signOk (c : Nat) : Prop := c = 97 ∨ c = 98 ∨ c = 46

theorem inner_seg {name : List Nat} {held : List Int} {unt : List Way} {rest : List (List Nat)} (hh : held.contains (-1) = true) : ∀ (seg : List Nat) (st p : Nat), (∀ c ∈ seg, signOk c) →
    inner name (seg.map (fun c => [c]) ++ rest) st p held unt = if fit name seg p = true then inner name rest (st + seg.length) (p + seg.length) held unt else (false, held, unt)
  | [], st, p, _ => by simp [fit]
  | c :: r, st, p, hc => by
    have ih := inner_seg (name := name) (unt := unt) (rest := rest) hh r (st + 1) (p + 1) fun x hx => hc x (List.mem_cons_of_mem _ hx)
    have hs := hc c List.mem_cons_self
    rw [List.map_cons, List.cons_append, inner]
    have n1 : ¬ [c] = [40, 63, 115, 58] := by simp
    have n2 : ¬ [c] = [40, 63, 62] := by simp
    have n3 : ¬ ([c] = [41] ∧ held ≠ []) := by
      rintro ⟨h, _⟩
      simp at h; subst h
      rcases hs with h | h | h <;> lia
    have n4 : ¬ ([c] = [46, 42, 63] ∨ [c] = [46, 42]) := by simp
    have n5 : ¬ [c] = [92, 90] := by simp
    rw [if_neg n1, if_neg n2, if_neg n3, if_neg n4, if_neg n5]
    have hcond : (p < name.length ∧ ([c] = [name.getD p 0] ∨ ([c] = [46] ∧ (held.contains (-1) = true ∨ name.getD p 0 ≠ 10)))) ↔ (decide (p < name.length) && (c == 46 || c == name.getD p 0)) = true := by
      rw [hh]
      simp only [Bool.and_eq_true, decide_eq_true_eq, Bool.or_eq_true, beq_iff_eq, List.cons.injEq, and_true, true_or]
      constructor
      · rintro ⟨h1, h2 | h2⟩
        · exact ⟨h1, .inr h2⟩
        · exact ⟨h1, .inl h2⟩
      · rintro ⟨h1, h2 | h2⟩
        · exact ⟨h1, .inr h2⟩
        · exact ⟨h1, .inl h2⟩
    by_cases hp : (decide (p < name.length) && (c == 46 || c == name.getD p 0)) = true
    · rw [if_pos (hcond.mpr hp), ih, fit, hp]
      simp only [Bool.true_and, List.length_cons]
      rw [show st + 1 + r.length = st + (r.length + 1) by lia, show p + 1 + r.length = p + (r.length + 1) by lia]
    · rw [if_neg (fun h => hp (hcond.mp h)), fit]
      have : (decide (p < name.length) && (c == 46 || c == name.getD p 0)) = false := by simpa using hp
      rw [this]; simp
end Mine
end

section
set_option linter.unusedVariables false
namespace Mine

theorem steps_cons {t y : List Nat} {f : Nat} {more : List (List Nat)} (hf : fitsOf (t ++ y) = t :: more) : stepsOf (f + 1) (t ++ y) = (stepsOf f y).map (t :: ·) := by
  have hm : t ∈ fitsOf (t ++ y) := by rw [hf]; exact List.mem_cons_self
  have hm2 : t ∈ marks := (List.mem_filter.mp hm).1
  have hne : t ++ y ≠ [] := by
    intro h
    have : t = [] := (List.append_eq_nil_iff.mp h).1
    subst this
    simp [marks] at hm2
  rw [stepsOf, if_neg hne, hf]
  simp

theorem fits_a (y : List Nat) : fitsOf (97 :: y) = [[97]] := by
  simp [fitsOf, marks, List.filter_cons]
theorem fits_b (y : List Nat) : fitsOf (98 :: y) = [[98]] := by
  simp [fitsOf, marks, List.filter_cons]
theorem fits_close (y : List Nat) : fitsOf (41 :: y) = [[41]] := by
  simp [fitsOf, marks, List.filter_cons]
theorem fits_open (y : List Nat) : fitsOf ([40, 63, 115, 58] ++ y) = [[40, 63, 115, 58]] := by
  simp [fitsOf, marks, List.filter_cons]
theorem fits_held (y : List Nat) : fitsOf ([40, 63, 62] ++ y) = [[40, 63, 62]] := by
  simp [fitsOf, marks, List.filter_cons]
theorem fits_lazy (y : List Nat) : ∃ more, fitsOf ([46, 42, 63] ++ y) = [46, 42, 63] :: more := by
  simp [fitsOf, marks, List.filter_cons]
theorem fits_run {y : List Nat} (h : y.head? ≠ some 63) : ∃ more, fitsOf ([46, 42] ++ y) = [46, 42] :: more := by
  cases y with
  | nil => simp [fitsOf, marks, List.filter_cons]
  | cons c r => simp at h; simp [fitsOf, marks, List.filter_cons, h]
theorem fits_dot {y : List Nat} (h : y.head? ≠ some 42) : fitsOf (46 :: y) = [[46]] := by
  cases y with
  | nil => simp [fitsOf, marks, List.filter_cons]
  | cons c r => simp at h; simp [fitsOf, marks, List.filter_cons, h]
end Mine
end

section
set_option linter.unusedVariables false
namespace Mine

theorem steps_signs {y : List Nat} (hy : y.head? ≠ some 42) : ∀ (seg : List Nat) (f : Nat), (∀ c ∈ seg, signOk c) → stepsOf (f + seg.length) (seg ++ y) = (stepsOf f y).map (seg.map (fun c => [c]) ++ ·)
  | [], f, _ => by simp
  | c :: r, f, hc => by
    have ih := steps_signs hy r f fun x hx => hc x (List.mem_cons_of_mem _ hx)
    have hs := hc c List.mem_cons_self
    have hh : (r ++ y).head? ≠ some 42 := by
      cases r with
      | nil => exact hy
      | cons d r' =>
        have := hc d (by simp)
        simp
        rcases this with h | h | h <;> lia
    have hf : fitsOf ([c] ++ (r ++ y)) = [[c]] := by
      rcases hs with rfl | rfl | rfl
      · exact fits_a _
      · exact fits_b _
      · exact fits_dot hh
    have e : c :: r ++ y = [c] ++ (r ++ y) := rfl
    rw [e, show f + (c :: r).length = (f + r.length) + 1 by simp; lia, steps_cons hf, ih]
    cases stepsOf f y <;> simp
end Mine
end

section
set_option linter.unusedVariables false
namespace Mine

/-- the marks from the first star on, cut -/
noncomputable def tailToks : Nat → List (Option (List Nat)) → List (List Nat)
  | 0, _ => []
  | _ + 1, [] => []
  | _ + 1, some _ :: _ => []
  | _ + 1, [none] => [[46, 42]]
  | _ + 1, none :: none :: _ => []
  | k + 1, none :: some x :: r =>
    if behind (some x :: r) = [] then [46, 42] :: ((txts (some x :: r)).flatten.map fun c => [c])
    else [40, 63, 62] :: [46, 42, 63] :: ((txts (some x :: r)).flatten.map (fun c => [c]) ++ [41] :: tailToks k (behind (some x :: r)))

noncomputable def okParts (ps : List (Option (List Nat))) : Prop := ∀ x, some x ∈ ps → ∀ c ∈ x, signOk c
theorem txts_mem : ∀ (ps : List (Option (List Nat))) (x : List Nat), x ∈ txts ps → some x ∈ ps
  | some y :: r, x, h => by
    simp only [txts, List.mem_cons] at h
    rcases h with rfl | h
    · simp
    · exact List.mem_cons_of_mem _ (txts_mem r x h)
  | [], x, h => by simp [txts] at h
  | none :: r, x, h => by simp [txts] at h
theorem okParts_flat {ps : List (Option (List Nat))} (h : okParts ps) : ∀ c ∈ (txts ps).flatten, signOk c := by
  intro c hc
  obtain ⟨x, hx, hc⟩ := List.mem_flatten.mp hc
  exact h x (txts_mem ps x hx) c hc
theorem behind_mem : ∀ (ps : List (Option (List Nat))) (x : Option (List Nat)), x ∈ behind ps → x ∈ ps
  | some y :: r, x, h => List.mem_cons_of_mem _ (behind_mem r x (by simpa [behind] using h))
  | [], x, h => by simp [behind] at h
  | none :: r, x, h => by simpa [behind] using h
theorem okParts_behind {ps : List (Option (List Nat))} (h : okParts ps) : okParts (behind ps) := fun x hx => h x (behind_mem ps _ hx)
end Mine
end

section
set_option linter.unusedVariables false
namespace Mine

theorem head_signs {seg y : List Nat} {k : Nat} (hk : k = 42 ∨ k = 63) (hs : ∀ c ∈ seg, signOk c) (hy : y.head? ≠ some k) : (seg ++ y).head? ≠ some k := by
  cases seg with
  | nil => exact hy
  | cons d r =>
    have := hs d (by simp)
    simp
    rcases this with h | h | h <;> rcases hk with h' | h' <;> lia

theorem steps_tail {y : List Nat} (h42 : y.head? ≠ some 42) (h63 : y.head? ≠ some 63) : ∀ (k : Nat) (ps : List (Option (List Nat))) (tl : List (List Nat)) (f : Nat), tailOf k ps = some tl → okParts ps →
    stepsOf (f + (tailToks k ps).length) (tl.flatten ++ y) = (stepsOf f y).map (tailToks k ps ++ ·)
  | 0, ps, tl, f, h, _ => by simp [tailOf] at h
  | k + 1, [], tl, f, h, _ => by
    simp [tailOf] at h; subst h
    simp [tailToks]
  | k + 1, some _ :: _, tl, f, h, _ => by simp [tailOf] at h
  | k + 1, [none], tl, f, h, _ => by
    simp [tailOf] at h; subst h
    obtain ⟨more, hm⟩ := fits_run h63
    have := steps_cons (f := f) hm
    simpa [tailToks] using this
  | k + 1, none :: none :: _, tl, f, h, _ => by simp [tailOf] at h
  | k + 1, none :: some x :: r, tl, f, h, hok => by
    have hok2 : okParts (some x :: r) := fun z hz => hok z (List.mem_cons_of_mem _ hz)
    have hfl := okParts_flat hok2
    rw [tailOf] at h
    rw [tailToks]
    split at h
    · rename_i hb
      cases h
      rw [if_pos hb]
      generalize (txts (some x :: r)).flatten = seg at hfl ⊢
      obtain ⟨more, hm⟩ := fits_run (head_signs (.inr rfl) hfl h63)
      have h1 := steps_cons (f := f + seg.length) hm
      have h2 := steps_signs h42 seg f hfl
      rw [h2] at h1
      have e : [[46, 42], seg].flatten ++ y = [46, 42] ++ (seg ++ y) := by simp
      rw [e, show f + ([46, 42] :: seg.map fun c => [c]).length = f + seg.length + 1 by simp; lia, h1]
      cases stepsOf f y <;> simp
    · rename_i hb
      simp only [Option.map_eq_some_iff] at h
      obtain ⟨t, ht, rfl⟩ := h
      rw [if_neg hb]
      have ih := steps_tail h42 h63 k (behind (some x :: r)) t f ht (okParts_behind hok2)
      generalize (txts (some x :: r)).flatten = seg at hfl ⊢
      generalize tailToks k (behind (some x :: r)) = tk at ih ⊢
      have e : (([40, 63, 62, 46, 42, 63] ++ seg ++ [41]) :: t).flatten ++ y = [40, 63, 62] ++ ([46, 42, 63] ++ (seg ++ ([41] ++ (t.flatten ++ y)))) := by simp
      rw [e, show f + ([40, 63, 62] :: [46, 42, 63] :: (seg.map (fun c => [c]) ++ [41] :: tk)).length = (((f + tk.length + 1) + seg.length) + 1) + 1 by simp; lia]
      rw [steps_cons (fits_held _)]
      obtain ⟨more, hm⟩ := fits_lazy (seg ++ ([41] ++ (t.flatten ++ y)))
      rw [steps_cons hm, steps_signs (by simp) seg _ hfl, steps_cons (fits_close _), ih]
      cases stepsOf f y <;> simp
end Mine
end

section
set_option linter.unusedVariables false
namespace Mine

/-- all marks of the text that is made -/
noncomputable def toksOf (ps : List (Option (List Nat))) : List (List Nat) := [40, 63, 115, 58] :: ((txts ps).flatten.map (fun c => [c]) ++ (tailToks (ps.length + 1) (behind ps) ++ [[41], [92, 90]]))

theorem tail_head : ∀ (k : Nat) (ps : List (Option (List Nat))) (tl : List (List Nat)), tailOf k ps = some tl → tl.flatten.head? ≠ some 42
  | 0, ps, tl, h => by simp [tailOf] at h
  | k + 1, [], tl, h => by simp [tailOf] at h; subst h; simp
  | k + 1, some _ :: _, tl, h => by simp [tailOf] at h
  | k + 1, [none], tl, h => by simp [tailOf] at h; subst h; simp
  | k + 1, none :: none :: _, tl, h => by simp [tailOf] at h
  | k + 1, none :: some x :: r, tl, h => by
    rw [tailOf] at h
    split at h
    · cases h; simp
    · simp only [Option.map_eq_some_iff] at h
      obtain ⟨t, ht, rfl⟩ := h
      simp

theorem steps_text {ps : List (Option (List Nat))} {txt : List Nat} (h : joinTxt ps = some txt) (hok : okParts ps) : ∃ f, stepsOf (f + (toksOf ps).length) txt = some (toksOf ps) := by
  unfold joinTxt at h
  simp only [Option.map_eq_some_iff] at h
  obtain ⟨tl, ht, rfl⟩ := h
  have hfl := okParts_flat hok
  refine ⟨1, ?_⟩
  unfold toksOf
  have e : [40, 63, 115, 58] ++ (txts ps ++ tl).flatten ++ [41, 92, 90] = [40, 63, 115, 58] ++ ((txts ps).flatten ++ (tl.flatten ++ ([41] ++ [92, 90]))) := by simp
  rw [e]
  generalize hseg : (txts ps).flatten = seg at hfl ⊢
  have h1 := steps_tail (y := [41] ++ [92, 90]) (by simp) (by simp) (ps.length + 1) (behind ps) tl 3 ht (okParts_behind hok)
  have hhead : (tl.flatten ++ ([41] ++ [92, 90])).head? ≠ some 42 := by
    have := tail_head _ _ _ ht
    cases hx : tl.flatten with
    | nil => simp
    | cons d r => rw [hx] at this; simpa using this
  generalize tailToks (ps.length + 1) (behind ps) = tk at h1 ⊢
  have h2 := steps_signs hhead seg (3 + tk.length) hfl
  have e3 : stepsOf 3 ([41] ++ [92, 90]) = some [[41], [92, 90]] := by decide
  rw [show 1 + ([40, 63, 115, 58] :: (seg.map (fun c => [c]) ++ (tk ++ [[41], [92, 90]]))).length = (3 + tk.length + seg.length) + 1 by simp; lia]
  rw [steps_cons (fits_open _), h2, h1, e3]
  simp
end Mine
end

section
set_option linter.unusedVariables false
namespace Mine
theorem steps_fuel : ∀ (f : Nat) (x : List Nat) (ts : List (List Nat)), stepsOf f x = some ts → ts.length ≤ x.length ∧ ∀ g, ts.length < g → stepsOf g x = some ts
  | 0, x, ts, h => by simp [stepsOf] at h
  | f + 1, x, ts, h => by
    rw [stepsOf] at h
    by_cases hx : x = []
    · rw [if_pos hx] at h
      cases h
      refine ⟨Nat.zero_le _, fun g hg => ?_⟩
      cases g with
      | zero => simp at hg
      | succ g => rw [stepsOf, if_pos hx]
    · rw [if_neg hx] at h
      cases hf : fitsOf x with
      | nil => rw [hf] at h; cases h
      | cons m more =>
        rw [hf] at h
        simp only [Option.map_eq_some_iff] at h
        obtain ⟨r, hr, rfl⟩ := h
        obtain ⟨h1, h2⟩ := steps_fuel f _ r hr
        have hm : m ∈ fitsOf x := by rw [hf]; exact List.mem_cons_self
        have hm2 : m ∈ marks ∧ x.take m.length = m := by simpa [fitsOf] using hm
        have hpos : 0 < m.length := by
          have := hm2.1
          simp [marks] at this
          rcases this with h | h | h | h | h | h | h | h | h <;> subst h <;> simp
        have hle : m.length ≤ x.length := by
          have := congrArg List.length hm2.2
          simp at this; lia
        refine ⟨by simp at h1 ⊢; lia, fun g hg => ?_⟩
        cases g with
        | zero => simp at hg
        | succ g =>
          rw [stepsOf, if_neg hx, hf]
          simp only [List.length_cons] at hg
          simp only
          rw [h2 g (by lia)]; rfl
theorem steps_len {f : Nat} {x : List Nat} {ts : List (List Nat)} (h : stepsOf f x = some ts) : stepsOf (x.length + 1) x = some ts := by
  obtain ⟨h1, h2⟩ := steps_fuel f x ts h
  exact h2 _ (by lia)
end Mine
end

section
set_option linter.unusedVariables false
namespace Mine
theorem ways_cons {st p far : Nat} {held : List Int} (h : p ≤ far) : waysOf st p far held = (st, p, held) :: waysOf st (p + 1) far held := by
  unfold waysOf
  rw [show far + 1 - p = (far + 1 - (p + 1)) + 1 by lia, List.range_succ_eq_map, List.map_cons, List.map_map]
  congr 1
  apply List.map_congr_left
  intro k _
  show (st, p + (k + 1), held) = (st, p + 1 + k, held)
  rw [show p + (k + 1) = p + 1 + k by lia]
theorem ways_nil {st p far : Nat} {held : List Int} (h : far < p) : waysOf st p far held = [] := by
  unfold waysOf
  rw [show far + 1 - p = 0 by lia]; rfl
/-- the first way of a lazy run is tried first -/
theorem outer_lazy {steps : List (List Nat)} {name : List Nat} {m st p far : Nat} {held : List Int} (h : p ≤ far) : outer steps name (m + 1) (waysOf st p far held).reverse =
    match inner name (steps.drop st) st p held (waysOf st (p + 1) far held).reverse with
      | (true, held, _) => some (decide (held = []))
      | (false, _, unt') => outer steps name m unt' := by
  rw [ways_cons h, List.reverse_cons, outer]
  simp only [List.getLast?_append, List.getLast?_singleton, Option.some_or, List.dropLast_concat]
  all_goals rfl
end Mine
end

section
set_option linter.unusedVariables false
namespace Mine
theorem inner_end {name : List Nat} {st p : Nat} {unt : List Way} : inner name [[41], [92, 90]] st p [-1] unt = if p = name.length then (true, [], unt) else (false, [], unt) := by
  rw [inner]
  simp only [show ¬ ([41] : List Nat) = [40, 63, 115, 58] by decide, show ¬ ([41] : List Nat) = [40, 63, 62] by decide, if_false]
  rw [if_pos ⟨trivial, by decide⟩, inner]
  simp only [show ¬ ([92, 90] : List Nat) = [40, 63, 115, 58] by decide, show ¬ ([92, 90] : List Nat) = [40, 63, 62] by decide, show ¬ ([92, 90] : List Nat) = [41] by decide, show ¬ ([92, 90] : List Nat) = [46, 42, 63] by decide, show ¬ ([92, 90] : List Nat) = [46, 42] by decide, false_and, false_or, if_false, if_true]
  simp [inner]
end Mine
end

section
set_option linter.unusedVariables false
namespace Mine
/-- the first place from p on at which seg fits -/
noncomputable def firstFit (name seg : List Nat) : Nat → Nat → Option Nat
  | 0, _ => none
  | f + 1, p => if fit name seg p = true then some p else firstFit name seg f (p + 1)
/-- what the engine answers from p on -/
noncomputable def G (name : List Nat) : Nat → List (Option (List Nat)) → Nat → Bool
  | 0, _, _ => false
  | _ + 1, [], p => decide (p = name.length)
  | _ + 1, some _ :: _, _ => false
  | _ + 1, [none], _ => true
  | _ + 1, none :: none :: _, _ => false
  | k + 1, none :: some x :: r, p =>
    if behind (some x :: r) = [] then decide (p + (txts (some x :: r)).flatten.length ≤ name.length) && fit name (txts (some x :: r)).flatten (name.length - (txts (some x :: r)).flatten.length)
    else match firstFit name (txts (some x :: r)).flatten (name.length + 1 - p) p with
      | some q => G name k (behind (some x :: r)) (q + (txts (some x :: r)).flatten.length)
      | none => false
end Mine
end

section
set_option linter.unusedVariables false
namespace Mine
noncomputable def cont (steps : List (List Nat)) (name : List Nat) (m : Nat) (res : Bool × List Int × List Way) : Option Bool := match res with
  | (true, held, _) => some (decide (held = []))
  | (false, _, unt') => outer steps name m unt'
theorem outer_nil {steps : List (List Nat)} {name : List Nat} {m : Nat} : outer steps name m [] = some false := by
  cases m <;> simp [outer]
theorem inner_close {name : List Nat} {rest : List (List Nat)} {st p : Nat} {unt : List Way} : inner name ([41] :: rest) st p [-1, 0] unt = inner name rest (st + 1) p [-1] [] := by
  rw [inner]
  simp only [show ¬ ([41] : List Nat) = [40, 63, 115, 58] by decide, show ¬ ([41] : List Nat) = [40, 63, 62] by decide, if_false]
  rw [if_pos ⟨trivial, by decide⟩]
  simp
theorem firstFit_ge {name seg : List Nat} : ∀ {f p q : Nat}, firstFit name seg f p = some q → p ≤ q
  | 0, p, q, h => by simp [firstFit] at h
  | f + 1, p, q, h => by
    rw [firstFit] at h
    split at h
    · cases h; exact Nat.le_refl _
    · have := firstFit_ge h; lia
theorem lazy_group {steps rest : List (List Nat)} {name seg : List Nat} {st : Nat} (hs : ∀ c ∈ seg, signOk c) (hd : steps.drop st = seg.map (fun c => [c]) ++ [41] :: rest) : ∀ (f p m : Nat), p + f = name.length + 1 → f ≤ m →
    outer steps name m (waysOf st p name.length [-1, 0]).reverse = match firstFit name seg f p with
      | none => some false
      | some q => cont steps name (m - (q - p) - 1) (inner name rest (st + seg.length + 1) (q + seg.length) [-1] [])
  | 0, p, m, h1, h2 => by
    rw [ways_nil (by lia)]
    simp only [firstFit, List.reverse_nil]
    exact outer_nil
  | f + 1, p, m, h1, h2 => by
    obtain ⟨m', rfl⟩ : ∃ m', m = m' + 1 := ⟨m - 1, by lia⟩
    rw [outer_lazy (by lia), hd, inner_seg (by decide) seg st p hs, firstFit]
    by_cases hf : fit name seg p = true
    · rw [if_pos hf, if_pos hf, inner_close]
      simp only [Nat.sub_self, Nat.sub_zero, Nat.add_sub_cancel]
      rfl
    · rw [if_neg hf, if_neg hf]
      simp only
      rw [lazy_group hs hd f (p + 1) m' (by lia) (by lia)]
      cases hq : firstFit name seg f (p + 1) with
      | none => rfl
      | some q =>
        have hge := firstFit_ge hq
        show cont _ _ (m' - (q - (p + 1)) - 1) _ = cont _ _ (m' + 1 - (q - p) - 1) _
        rw [show m' - (q - (p + 1)) - 1 = m' + 1 - (q - p) - 1 by lia]
end Mine
end

section
set_option linter.unusedVariables false
namespace Mine
/-- ways with places from p on, d of them -/
theorem ways_snoc {st p d : Nat} {held : List Int} : waysOf st p (p + d) held = (List.range (d + 1)).map (fun k => (st, p + k, held)) := by
  unfold waysOf
  rw [show p + d + 1 - p = d + 1 by lia]
theorem outer_greedy {steps : List (List Nat)} {name : List Nat} {m st p d : Nat} {held : List Int} : outer steps name (m + 1) ((List.range (d + 1)).map (fun k => (st, p + k, held))) =
    cont steps name m (inner name (steps.drop st) st (p + d) held ((List.range d).map (fun k => (st, p + k, held)))) := by
  rw [List.range_succ, List.map_append, outer]
  simp only [List.map_cons, List.map_nil, List.getLast?_append, List.getLast?_singleton, Option.some_or, List.dropLast_concat]
  rfl
end Mine
end

section
set_option linter.unusedVariables false
namespace Mine
theorem greedy_last {steps : List (List Nat)} {name seg : List Nat} {st p : Nat} (hs : ∀ c ∈ seg, signOk c) (hd : steps.drop st = seg.map (fun c => [c]) ++ [[41], [92, 90]]) : ∀ (d m : Nat), d ≤ m →
    outer steps name m ((List.range d).map (fun k => (st, p + k, [-1]))) = some ((List.range d).any fun k => fit name seg (p + k) && decide (p + k + seg.length = name.length))
  | 0, m, _ => by simp [outer_nil]
  | d + 1, m, h => by
    obtain ⟨m', rfl⟩ : ∃ m', m = m' + 1 := ⟨m - 1, by lia⟩
    rw [outer_greedy, hd, inner_seg (by decide) seg st (p + d) hs]
    have ih := greedy_last (name := name) (p := p) hs hd d m' (by lia)
    rw [List.range_succ, List.any_append]
    simp only [List.any_cons, List.any_nil, Bool.or_false]
    by_cases hf : fit name seg (p + d) = true
    · rw [if_pos hf, inner_end]
      by_cases hn : p + d + seg.length = name.length
      · rw [if_pos hn]
        simp [cont, hf, hn]
      · rw [if_neg hn]
        show outer steps name m' _ = _
        rw [ih]; simp [hn]
    · rw [if_neg hf]
      show outer steps name m' _ = _
      rw [ih]; simp [hf]
end Mine
end

section
set_option linter.unusedVariables false
namespace Mine
theorem far_all {name : List Nat} {p : Nat} (hp : p ≤ name.length) : farOf name true p = name.length := by
  unfold farOf
  have : (name.drop p).takeWhile (fun c => true || c != 10) = name.drop p := by
    generalize name.drop p = l
    induction l with
    | nil => rfl
    | cons c r ih => rw [List.takeWhile_cons]; simp only [Bool.true_or, if_true] at ih ⊢; rw [ih]
  rw [this, List.length_drop]; lia
theorem inner_run {name : List Nat} {r : List (List Nat)} {st p : Nat} {unt : List Way} (hp : p ≤ name.length) : inner name ([46, 42] :: r) st p [-1] unt = (false, [-1], unt ++ waysOf (st + 1) p name.length [-1]) := by
  rw [inner]
  have e : ([-1] : List Int).contains (-1) = true := by decide
  simp only [show ¬ ([46, 42] : List Nat) = [40, 63, 115, 58] by decide, show ¬ ([46, 42] : List Nat) = [40, 63, 62] by decide, show ¬ ([46, 42] : List Nat) = [41] by decide, false_and, if_false, or_true, if_true, e, far_all hp]
theorem inner_lazy {name : List Nat} {r : List (List Nat)} {st p : Nat} (hp : p ≤ name.length) : inner name ([40, 63, 62] :: [46, 42, 63] :: r) st p [-1] [] = (false, [-1, 0], (waysOf (st + 2) p name.length [-1, 0]).reverse) := by
  rw [inner]
  simp only [show ¬ ([40, 63, 62] : List Nat) = [40, 63, 115, 58] by decide, if_false, if_true]
  rw [inner]
  have e : ([-1, 0] : List Int).contains (-1) = true := by decide
  simp only [show ¬ ([46, 42, 63] : List Nat) = [40, 63, 115, 58] by decide, show ¬ ([46, 42, 63] : List Nat) = [40, 63, 62] by decide, show ¬ ([46, 42, 63] : List Nat) = [41] by decide, show ¬ ([46, 42, 63] : List Nat) = [46, 42] by decide, false_and, if_false, true_or, if_true, List.length_nil]
  simp [e, far_all hp]
end Mine
end

section
set_option linter.unusedVariables false
namespace Mine
theorem fit_len {name : List Nat} : ∀ (seg : List Nat) (p : Nat), fit name seg p = true → seg ≠ [] → p + seg.length ≤ name.length
  | [], p, _, h => absurd rfl h
  | [c], p, h, _ => by simp [fit] at h; simp; lia
  | c :: d :: r, p, h, _ => by
    rw [fit] at h
    simp only [Bool.and_eq_true] at h
    have := fit_len (d :: r) (p + 1) h.2 (by simp)
    simp at this ⊢; lia
theorem any_last {name seg : List Nat} {p d : Nat} (hpd : p + d = name.length) : ((List.range (d + 1)).any fun k => fit name seg (p + k) && decide (p + k + seg.length = name.length)) = (decide (p + seg.length ≤ name.length) && fit name seg (name.length - seg.length)) := by
  rw [Bool.eq_iff_iff]
  simp only [List.any_eq_true, List.mem_range, Bool.and_eq_true, decide_eq_true_eq]
  constructor
  · rintro ⟨k, h1, h2, h3⟩
    refine ⟨by lia, ?_⟩
    rw [show name.length - seg.length = p + k by lia]; exact h2
  · rintro ⟨h1, h2⟩
    exact ⟨name.length - seg.length - p, by lia, by rw [show p + (name.length - seg.length - p) = name.length - seg.length by lia]; exact h2, by lia⟩
theorem run_last {steps : List (List Nat)} {name seg : List Nat} {st p m : Nat} (hs : ∀ c ∈ seg, signOk c) (hd : steps.drop st = seg.map (fun c => [c]) ++ [[41], [92, 90]]) (hp : p ≤ name.length) (hm : name.length + 1 ≤ m + p) :
    outer steps name m (waysOf st p name.length [-1]) = some (decide (p + seg.length ≤ name.length) && fit name seg (name.length - seg.length)) := by
  have e : waysOf st p name.length [-1] = (List.range (name.length - p + 1)).map (fun k => (st, p + k, [-1])) := by
    have := ways_snoc (st := st) (p := p) (d := name.length - p) (held := [-1])
    rwa [show p + (name.length - p) = name.length by lia] at this
  rw [e, greedy_last hs hd _ _ (by lia), any_last (by lia)]
end Mine
end

section
set_option linter.unusedVariables false
namespace Mine
theorem drop_more {α : Type} {xs : List α} {st : Nat} {a b : List α} (h : xs.drop st = a ++ b) : xs.drop (st + a.length) = b := by
  rw [← List.drop_drop, h, List.drop_left]
theorem firstFit_fit {name seg : List Nat} : ∀ {f p q : Nat}, firstFit name seg f p = some q → fit name seg q = true
  | 0, p, q, h => by simp [firstFit] at h
  | f + 1, p, q, h => by
    rw [firstFit] at h
    split at h
    · cases h; assumption
    · exact firstFit_fit h
theorem flat_ne {x : List Nat} {r : List (Option (List Nat))} (hx : x ≠ []) : (txts (some x :: r)).flatten ≠ [] := by
  simp [txts, hx]

theorem engine {steps : List (List Nat)} {name : List Nat} : ∀ (k : Nat) (ps : List (Option (List Nat))) (tl : List (List Nat)) (st p m : Nat), tailOf k ps = some tl → okParts ps → (∀ x, some x ∈ ps → x ≠ []) →
    steps.drop st = tailToks k ps ++ [[41], [92, 90]] → p ≤ name.length → name.length + 1 ≤ m + p → cont steps name m (inner name (steps.drop st) st p [-1] []) = some (G name k ps p)
  | 0, ps, tl, st, p, m, h, _, _, _, _, _ => by simp [tailOf] at h
  | k + 1, [], tl, st, p, m, h, _, _, hd, hp, hm => by
    rw [hd, tailToks, List.nil_append, inner_end, G]
    by_cases hn : p = name.length
    · rw [if_pos hn]; simp [cont, hn]
    · rw [if_neg hn]
      show outer steps name m [] = _
      rw [outer_nil]; simp [hn]
  | k + 1, some _ :: _, tl, st, p, m, h, _, _, _, _, _ => by simp [tailOf] at h
  | k + 1, [none], tl, st, p, m, h, _, _, hd, hp, hm => by
    rw [tailToks] at hd
    rw [hd, List.singleton_append, inner_run hp, G, List.nil_append]
    show outer steps name m _ = _
    have hd2 : steps.drop (st + 1) = ([] : List Nat).map (fun c => [c]) ++ [[41], [92, 90]] := drop_more (a := [[46, 42]]) hd
    rw [run_last (seg := []) (by simp) hd2 hp hm]
    simp [fit, hp]
  | k + 1, none :: none :: _, tl, st, p, m, h, _, _, _, _, _ => by simp [tailOf] at h
  | k + 1, none :: some x :: r, tl, st, p, m, h, hok, hne, hd, hp, hm => by
    have hok2 : okParts (some x :: r) := fun z hz => hok z (List.mem_cons_of_mem _ hz)
    have hne2 : ∀ z, some z ∈ some x :: r → z ≠ [] := fun z hz => hne z (List.mem_cons_of_mem _ hz)
    have hfl := okParts_flat hok2
    have hsn := flat_ne (r := r) (hne2 x (by simp))
    rw [tailOf] at h
    rw [tailToks] at hd
    rw [G]
    split at h
    · rename_i hb
      rw [if_pos hb] at hd ⊢
      generalize (txts (some x :: r)).flatten = seg at hfl hsn hd ⊢
      rw [hd, List.cons_append, inner_run hp, List.nil_append]
      show outer steps name m _ = _
      have hd2 : steps.drop (st + 1) = seg.map (fun c => [c]) ++ [[41], [92, 90]] := drop_more (a := [[46, 42]]) hd
      rw [run_last hfl hd2 hp hm]
    · rename_i hb
      rw [if_neg hb] at hd ⊢
      simp only [Option.map_eq_some_iff] at h
      obtain ⟨t, ht, rfl⟩ := h
      have hnb : ∀ z, some z ∈ behind (some x :: r) → z ≠ [] := fun z hz => hne2 z (behind_mem _ _ hz)
      have ih := fun st p m hd hp hm => engine (steps := steps) (name := name) k (behind (some x :: r)) t st p m ht (okParts_behind hok2) hnb hd hp hm
      generalize (txts (some x :: r)).flatten = seg at hfl hsn hd ⊢
      rw [hd, List.cons_append, List.cons_append, inner_lazy hp]
      show outer steps name m _ = _
      have hd2 : steps.drop (st + 2) = seg.map (fun c => [c]) ++ [41] :: (tailToks k (behind (some x :: r)) ++ [[41], [92, 90]]) := by
        have := drop_more (a := [[40, 63, 62], [46, 42, 63]]) (b := seg.map (fun c => [c]) ++ [41] :: tailToks k (behind (some x :: r)) ++ [[41], [92, 90]]) hd
        simpa using this
      rw [lazy_group hfl hd2 (name.length + 1 - p) p m (by omega) (by omega)]
      cases hq : firstFit name seg (name.length + 1 - p) p with
      | none => rfl
      | some q =>
        have h1 := firstFit_ge hq
        have h2 := fit_len seg q (firstFit_fit hq) hsn
        have hl : 0 < seg.length := List.length_pos_iff.mpr hsn
        have hd3 : steps.drop (st + 2 + seg.length + 1) = tailToks k (behind (some x :: r)) ++ [[41], [92, 90]] := by
          have := drop_more (a := seg.map (fun c => [c]) ++ [[41]]) (b := tailToks k (behind (some x :: r)) ++ [[41], [92, 90]]) (xs := steps) (st := st + 2) (by rw [hd2]; simp)
          simpa [Nat.add_assoc] using this
        have := ih (st + 2 + seg.length + 1) (q + seg.length) (m - (q - p) - 1) hd3 h2 (by omega)
        rw [hd3] at this
        exact this
end Mine
end

section
set_option linter.unusedVariables false
namespace Mine
theorem fit_len0 {name : List Nat} {seg : List Nat} (h : fit name seg 0 = true) : seg.length ≤ name.length := by
  by_cases hs : seg = []
  · subst hs; simp
  · have := fit_len seg 0 h hs; lia
theorem outer_all {ps : List (Option (List Nat))} {name : List Nat} {tl : List (List Nat)} (ht : tailOf (ps.length + 1) (behind ps) = some tl) (hok : okParts ps) (hne : ∀ x, some x ∈ ps → x ≠ []) :
    outer (toksOf ps) name (name.length + 2) [(0, 0, [])] = some (fit name (txts ps).flatten 0 && G name (ps.length + 1) (behind ps) (txts ps).flatten.length) := by
  rw [outer]
  simp only [List.getLast?_singleton, List.dropLast_singleton, List.drop_zero]
  have hfl := okParts_flat hok
  have hdr : (toksOf ps).drop (1 + (txts ps).flatten.length) = tailToks (ps.length + 1) (behind ps) ++ [[41], [92, 90]] := by
    unfold toksOf
    rw [Nat.add_comm, List.drop_succ_cons]
    generalize (txts ps).flatten = fl
    have := List.drop_left (l₁ := fl.map (fun c => [c])) (l₂ := tailToks (ps.length + 1) (behind ps) ++ [[41], [92, 90]])
    rw [List.length_map] at this
    exact this
  have key : inner name (toksOf ps) 0 0 [] [] = if fit name (txts ps).flatten 0 = true then inner name (tailToks (ps.length + 1) (behind ps) ++ [[41], [92, 90]]) (1 + (txts ps).flatten.length) (txts ps).flatten.length [-1] [] else (false, [-1], []) := by
    unfold toksOf
    rw [inner]
    simp only [if_true, List.nil_append, Nat.zero_add]
    rw [inner_seg (by decide) _ 1 0 hfl, Nat.zero_add]
  rw [key]
  by_cases hf : fit name (txts ps).flatten 0 = true
  · rw [if_pos hf, hf, Bool.true_and]
    have := engine (steps := toksOf ps) (name := name) (ps.length + 1) (behind ps) tl (1 + (txts ps).flatten.length) (txts ps).flatten.length (name.length + 1) ht (okParts_behind hok) (fun x hx => hne x (behind_mem _ _ hx)) hdr (fit_len0 hf) (by lia)
    rw [hdr] at this
    exact this
  · rw [if_neg hf]
    have : fit name (txts ps).flatten 0 = false := by simpa using hf
    rw [this]
    exact outer_nil
end Mine
end

section
set_option linter.unusedVariables false
namespace Mine
/-- the parts can take the name from p to q -/
noncomputable def Reach (name : List Nat) : List (Option (List Nat)) → Nat → Nat → Prop
  | [], p, q => p = q
  | none :: r, p, q => ∃ p', p ≤ p' ∧ p' ≤ name.length ∧ Reach name r p' q
  | some x :: r, p, q => fit name x p = true ∧ Reach name r (p + x.length) q

theorem fit_append {name : List Nat} : ∀ (x y : List Nat) (p : Nat), fit name (x ++ y) p = (fit name x p && fit name y (p + x.length))
  | [], y, p => by simp [fit]
  | c :: r, y, p => by
    rw [List.cons_append, fit, fit, fit_append r y (p + 1), List.length_cons, show p + 1 + r.length = p + (r.length + 1) by lia]
    simp only [Bool.and_assoc]
theorem reach_seg {name : List Nat} : ∀ (ps : List (Option (List Nat))) (p q : Nat), Reach name ps p q ↔ fit name (txts ps).flatten p = true ∧ Reach name (behind ps) (p + (txts ps).flatten.length) q
  | [], p, q => by simp [txts, behind, fit]
  | none :: r, p, q => by simp [txts, behind, fit]
  | some x :: r, p, q => by
    rw [Reach, reach_seg r, txts, behind, List.flatten_cons, fit_append, Bool.and_eq_true, List.length_append, and_assoc, Nat.add_assoc]
theorem reach_down {name : List Nat} {r : List (Option (List Nat))} {p p' q : Nat} (h : p' ≤ p) (hr : Reach name (none :: r) p q) : Reach name (none :: r) p' q := by
  obtain ⟨a, h1, h2, h3⟩ := hr
  exact ⟨a, by lia, h2, h3⟩
theorem firstFit_none {name seg : List Nat} : ∀ {f p : Nat}, firstFit name seg f p = none → ∀ q, p ≤ q → q < p + f → fit name seg q = false
  | 0, p, h, q, h1, h2 => by lia
  | f + 1, p, h, q, h1, h2 => by
    rw [firstFit] at h
    split at h
    · cases h
    · rename_i hf
      by_cases e : q = p
      · subst e; simpa using hf
      · exact firstFit_none h q (by lia) (by lia)
theorem firstFit_least {name seg : List Nat} : ∀ {f p a : Nat}, firstFit name seg f p = some a → ∀ q, p ≤ q → fit name seg q = true → a ≤ q
  | 0, p, a, h, q, h1, h2 => by simp [firstFit] at h
  | f + 1, p, a, h, q, h1, h2 => by
    rw [firstFit] at h
    split at h
    · cases h; exact h1
    · rename_i hf
      by_cases e : q = p
      · subst e; exact absurd h2 hf
      · exact firstFit_least h q (by lia) h2

theorem g_reach {name : List Nat} : ∀ (k : Nat) (ps : List (Option (List Nat))) (tl : List (List Nat)) (p : Nat), tailOf k ps = some tl → (∀ x, some x ∈ ps → x ≠ []) → p ≤ name.length → (G name k ps p = true ↔ Reach name ps p name.length)
  | 0, ps, tl, p, h, _, _ => by simp [tailOf] at h
  | k + 1, [], tl, p, h, _, hp => by simp [G, Reach]
  | k + 1, some _ :: _, tl, p, h, _, _ => by simp [tailOf] at h
  | k + 1, [none], tl, p, h, _, hp => by
    simp only [G, Reach, true_iff]
    exact ⟨name.length, hp, Nat.le_refl _, rfl⟩
  | k + 1, none :: none :: _, tl, p, h, _, _ => by simp [tailOf] at h
  | k + 1, none :: some x :: r, tl, p, h, hne, hp => by
    have hne2 : ∀ z, some z ∈ some x :: r → z ≠ [] := fun z hz => hne z (List.mem_cons_of_mem _ hz)
    have hsn := flat_ne (r := r) (hne2 x (by simp))
    rw [tailOf] at h
    rw [G, Reach]
    simp only [reach_seg (some x :: r)]
    split at h
    · rename_i hb
      rw [if_pos hb, hb]
      generalize (txts (some x :: r)).flatten = seg at hsn ⊢
      simp only [Bool.and_eq_true, decide_eq_true_eq, Reach]
      constructor
      · rintro ⟨h1, h2⟩
        exact ⟨name.length - seg.length, by lia, by lia, h2, by lia⟩
      · rintro ⟨a, h1, h2, h3, h4⟩
        refine ⟨by lia, ?_⟩
        rw [show name.length - seg.length = a by lia]; exact h3
    · rename_i hb
      rw [if_neg hb]
      simp only [Option.map_eq_some_iff] at h
      obtain ⟨t, ht, rfl⟩ := h
      have hnb : ∀ z, some z ∈ behind (some x :: r) → z ≠ [] := fun z hz => hne2 z (behind_mem _ _ hz)
      have ih := fun p hp => g_reach (name := name) k (behind (some x :: r)) t p ht hnb hp
      obtain ⟨b, hbe⟩ : ∃ b, behind (some x :: r) = none :: b := by
        generalize behind (some x :: r) = bb at ht hb
        cases k with
        | zero => simp [tailOf] at ht
        | succ k =>
          cases bb with
          | nil => exact absurd rfl hb
          | cons c b => cases c with
            | none => exact ⟨b, rfl⟩
            | some y => simp [tailOf] at ht
      generalize (txts (some x :: r)).flatten = seg at hsn ⊢
      cases hq : firstFit name seg (name.length + 1 - p) p with
      | none =>
        simp only [Bool.false_eq_true, false_iff]
        rintro ⟨a, h1, h2, h3, h4⟩
        rw [firstFit_none hq a h1 (by lia)] at h3
        cases h3
      | some a =>
        have h1 := firstFit_ge hq
        have h2 := firstFit_fit hq
        have h3 := fit_len seg a h2 hsn
        simp only
        rw [ih _ h3]
        constructor
        · intro h4
          exact ⟨a, h1, by lia, h2, h4⟩
        · rintro ⟨b', h5, h6, h7, h8⟩
          have := firstFit_least hq b' h5 h7
          rw [hbe] at h8 ⊢
          exact reach_down (by lia) h8
end Mine
end

section
set_option linter.unusedVariables false
namespace Mine
theorem getD_le {e : List Bool} {p : Nat} (h : e.getD p false = true) : p < e.length := by
  rcases Nat.lt_or_ge p e.length with h1 | h1
  · exact h1
  · rw [List.getD_eq_getElem?_getD, List.getElem?_eq_none h1] at h; simp at h
theorem starE_get {n : Nat} {e : List Bool} {q : Nat} : (starE n e).getD q false = true ↔ q ≤ n ∧ ∃ p, p ≤ q ∧ e.getD p false = true := by
  unfold starE
  constructor
  · intro h
    have hq := getD_le h
    simp at hq
    rw [List.getD_eq_getElem?_getD, List.getElem?_map, List.getElem?_range (by lia)] at h
    simp only [Option.map_some, Option.getD_some, List.contains_iff_mem] at h
    obtain ⟨p, hp, he⟩ := List.mem_iff_getElem.mp h
    refine ⟨by lia, p, ?_, ?_⟩
    · simp at hp; lia
    · simp at he hp
      rw [List.getD_eq_getElem?_getD, List.getElem?_eq_getElem (by lia), he]; rfl
  · rintro ⟨hq, p, hp, he⟩
    rw [List.getD_eq_getElem?_getD, List.getElem?_map, List.getElem?_range (by lia)]
    simp only [Option.map_some, Option.getD_some, List.contains_iff_mem]
    have hl := getD_le he
    rw [List.getD_eq_getElem?_getD, List.getElem?_eq_getElem hl] at he
    simp at he
    rw [← he]
    exact List.mem_take_iff_getElem.mpr ⟨p, by lia, rfl⟩
theorem signE_get {name : List Nat} {c : Nat} {e : List Bool} {q : Nat} : (signE name c e).getD q false = true ↔ ∃ k, q = k + 1 ∧ e.getD k false = true ∧ k < name.length ∧ (c == 46 || c == name.getD k 0) = true := by
  unfold signE
  cases q with
  | zero => simp
  | succ q =>
    rw [List.getD_cons_succ, List.getD_eq_getElem?_getD, List.getElem?_map]
    rcases Nat.lt_or_ge q name.length with h | h
    · rw [List.getElem?_range h]
      simp only [Option.map_some, Option.getD_some, Bool.and_eq_true]
      constructor
      · rintro ⟨h1, h2⟩; exact ⟨q, rfl, h1, h, h2⟩
      · rintro ⟨k, h1, h2, h3, h4⟩
        obtain rfl : q = k := by lia
        exact ⟨h2, h4⟩
    · rw [List.getElem?_eq_none (by simpa using h)]
      simp only [Option.map_none, Option.getD_none, Bool.false_eq_true, false_iff]
      rintro ⟨k, h1, h2, h3, h4⟩; lia
theorem signsE_get {name : List Nat} : ∀ (w : List Nat) (e : List Bool) (q : Nat), e.length = name.length + 1 → ((w.foldl (fun e c => signE name c e) e).getD q false = true ↔ ∃ p, e.getD p false = true ∧ fit name w p = true ∧ q = p + w.length)
  | [], e, q, he => by
    simp only [List.foldl_nil, fit, true_and, List.length_nil, Nat.add_zero]
    exact ⟨fun h => ⟨q, h, rfl⟩, fun ⟨p, h, e⟩ => e ▸ h⟩
  | c :: r, e, q, he => by
    rw [List.foldl_cons, signsE_get r _ q (signE_len _ _ _)]
    simp only [signE_get, fit, Bool.and_eq_true, decide_eq_true_eq]
    constructor
    · rintro ⟨p, ⟨k, rfl, h1, h2, h3⟩, h4, h5⟩
      exact ⟨k, h1, ⟨⟨h2, h3⟩, h4⟩, by simp; lia⟩
    · rintro ⟨p, h1, ⟨⟨h2, h3⟩, h4⟩, h5⟩
      exact ⟨p + 1, ⟨p, rfl, h1, h2, h3⟩, h4, by simp at h5; lia⟩
theorem signsE_len {name : List Nat} : ∀ (w : List Nat) (e : List Bool), e.length = name.length + 1 → (w.foldl (fun e c => signE name c e) e).length = name.length + 1
  | [], e, he => he
  | c :: r, e, he => by rw [List.foldl_cons]; exact signsE_len r _ (signE_len _ _ _)
theorem means_get {name : List Nat} : ∀ (ws : List (List Nat)) (e : List Bool) (q : Nat), e.length = name.length + 1 → ((ws.foldl (wordE name) e).getD q false = true ↔ ∃ p, e.getD p false = true ∧ Reach name (ws.map partOf) p q)
  | [], e, q, he => by
    simp only [List.foldl_nil, List.map_nil, Reach]
    exact ⟨fun h => ⟨q, h, rfl⟩, fun ⟨p, h, e⟩ => e ▸ h⟩
  | w :: r, e, q, he => by
    rw [List.foldl_cons]
    by_cases hw : w = [42]
    · rw [show wordE name e w = starE name.length e by unfold wordE; rw [if_pos hw]]
      have e1 : partOf w = none := by unfold partOf; rw [if_pos hw]
      rw [means_get r _ q (starE_len _ _), List.map_cons, e1]
      simp only [Reach, starE_get]
      constructor
      · rintro ⟨p, ⟨h1, p', h2, h3⟩, h4⟩; exact ⟨p', h3, p, h2, h1, h4⟩
      · rintro ⟨p', h3, p, h2, h1, h4⟩; exact ⟨p, ⟨h1, p', h2, h3⟩, h4⟩
    · rw [show wordE name e w = w.foldl (fun e c => signE name c e) e by unfold wordE; rw [if_neg hw]]
      have e1 : partOf w = some w := by unfold partOf; rw [if_neg hw]
      rw [means_get r _ q (signsE_len w e he), List.map_cons, e1]
      simp only [Reach, signsE_get w e _ he]
      constructor
      · rintro ⟨p, ⟨p', h1, h2, rfl⟩, h4⟩; exact ⟨p', h1, h2, h4⟩
      · rintro ⟨p', h1, h2, h4⟩; exact ⟨_, ⟨p', h1, h2, rfl⟩, h4⟩
theorem means_reach {words : List (List Nat)} {name : List Nat} : meansOf words name = true ↔ Reach name (words.map partOf) 0 name.length := by
  unfold meansOf
  rw [means_get words _ _ (by simp)]
  constructor
  · rintro ⟨p, h1, h2⟩
    cases p with
    | zero => exact h2
    | succ p =>
      rw [List.getD_cons_succ, List.getD_eq_getElem?_getD, List.getElem?_replicate] at h1
      split at h1 <;> simp at h1
  · intro h; exact ⟨0, rfl, h⟩
end Mine
end

section
set_option linter.unusedVariables false
namespace Mine
/-- no two stars side by side -/
noncomputable def noSS : List (Option (List Nat)) → Prop
  | [] => True
  | [_] => True
  | a :: b :: r => ¬ (a = none ∧ b = none) ∧ noSS (b :: r)
theorem noSS_tail {a : Option (List Nat)} {r : List (Option (List Nat))} (h : noSS (a :: r)) : noSS r := by
  cases r with
  | nil => trivial
  | cons b r => exact h.2
theorem noSS_behind : ∀ {ps : List (Option (List Nat))}, noSS ps → noSS (behind ps)
  | [], h => h
  | none :: r, h => h
  | some x :: r, h => noSS_behind (ps := r) (noSS_tail h)
theorem noSS_snoc : ∀ {ps : List (Option (List Nat))} {a : Option (List Nat)}, noSS ps → ¬ (ps.getLast? = some none ∧ a = none) → noSS (ps ++ [a])
  | [], a, h, h2 => trivial
  | [b], a, h, h2 => ⟨by simpa using h2, trivial⟩
  | b :: c :: r, a, h, h2 => ⟨h.1, noSS_snoc (ps := c :: r) h.2 (by simpa [List.getLast?_cons_cons] using h2)⟩
theorem tail_some : ∀ (k : Nat) (ps : List (Option (List Nat))), ps.length < k → noSS ps → (∀ x r, ps = x :: r → x = none) → ∃ tl, tailOf k ps = some tl ∧ tl.flatten.length ≤ wt ps
  | 0, ps, h, _, _ => by lia
  | k + 1, [], h, _, _ => ⟨[], rfl, Nat.zero_le _⟩
  | k + 1, some x :: r, h, _, h3 => by have := h3 _ _ rfl; cases this
  | k + 1, [none], h, _, _ => ⟨_, rfl, by simp [wt]⟩
  | k + 1, none :: none :: r, h, h2, _ => absurd ⟨rfl, rfl⟩ h2.1
  | k + 1, none :: some x :: r, h, h2, _ => by
    rw [tailOf]
    have hl := behind_len (some x :: r)
    have hw := wt_split (some x :: r)
    have hf := wo_flat (txts (some x :: r))
    have h4 : noSS (behind (some x :: r)) := noSS_behind h2.2
    have h5 : ∀ y q, behind (some x :: r) = y :: q → y = none := fun y q => behind_head _ _ _
    have h6 : wt (none :: some x :: r) = 10 + wt (some x :: r) := rfl
    generalize behind (some x :: r) = bb at hl hw h4 h5 ⊢
    generalize txts (some x :: r) = tt at hw hf ⊢
    by_cases hb : bb = []
    · rw [if_pos hb]
      refine ⟨_, rfl, ?_⟩
      simp only [List.flatten_cons, List.flatten_nil, List.append_nil, List.length_append, List.length_cons, List.length_nil]
      lia
    · rw [if_neg hb]
      obtain ⟨t, ht, hle⟩ := tail_some k bb (by simp at h hl; lia) h4 h5
      rw [ht]
      refine ⟨_, rfl, ?_⟩
      simp only [List.flatten_cons, List.length_append, List.length_cons, List.length_nil]
      lia
theorem join_some {ps : List (Option (List Nat))} (h : noSS ps) : ∃ tl txt, tailOf (ps.length + 1) (behind ps) = some tl ∧ joinTxt ps = some txt ∧ txt.length ≤ wt ps + 7 := by
  obtain ⟨tl, ht, hl⟩ := tail_some (ps.length + 1) (behind ps) (by have := behind_len ps; lia) (noSS_behind h) (fun x r => behind_head _ _ _)
  refine ⟨tl, _, ht, by unfold joinTxt; rw [ht]; rfl, ?_⟩
  have hw := wt_split ps
  have hf := wo_flat (txts ps)
  simp only [List.flatten_append, List.length_append, List.length_cons, List.length_nil]
  lia

noncomputable def word1 (w : List Nat) : Prop := w = [42] ∨ w ∈ pieces1
theorem piece_ok {w : List Nat} (h : w ∈ pieces1) : w ≠ [] ∧ w.length ≤ 2 ∧ w ≠ [42] ∧ ∀ c ∈ w, signOk c := by
  have : ∀ w ∈ pieces1, w ≠ [] ∧ w.length ≤ 2 ∧ w ≠ [42] ∧ ∀ c ∈ w, c = 97 ∨ c = 98 ∨ c = 46 := by decide
  exact this w h
theorem word_piece {w x : List Nat} (h : word1 w) (hx : some x = partOf w) : x ∈ pieces1 := by
  unfold partOf at hx
  split at hx
  · cases hx
  · rename_i hn
    cases hx
    rcases h with h | h
    · exact absurd h hn
    · exact h
theorem wt_words : ∀ (ws : List (List Nat)), (∀ w ∈ ws, word1 w) → wt (ws.map partOf) ≤ 10 * ws.length
  | [], _ => by simp [wt]
  | w :: r, h => by
    have ih := wt_words r fun x hx => h x (List.mem_cons_of_mem _ hx)
    rw [List.map_cons]
    cases hw : partOf w with
    | none => simp [wt]; lia
    | some x =>
      have := (piece_ok (word_piece (h w List.mem_cons_self) hw.symm)).2.1
      simp [wt]; lia

theorem pure1_of {words : List (List Nat)} {name : List Nat} (h1 : ∀ w ∈ words, word1 w) (h2 : noSS (words.map partOf)) (h3 : words.length ≤ 63) : Pure1 words name := by
  obtain ⟨tl, txt, ht, hj, hl⟩ := join_some h2
  have hw := wt_words words h1
  have hps : ∀ x, some x ∈ words.map partOf → x ∈ pieces1 := by
    intro x hx
    obtain ⟨w, hw, he⟩ := List.mem_map.mp hx
    exact word_piece (h1 w hw) he.symm
  have hok : okParts (words.map partOf) := fun x hx => (piece_ok (hps x hx)).2.2.2
  have hne : ∀ x, some x ∈ words.map partOf → x ≠ [] := fun x hx => (piece_ok (hps x hx)).1
  obtain ⟨f, hf⟩ := steps_text hj hok
  have hlen := (steps_fuel _ _ _ hf).1
  refine ⟨txt, toksOf (words.map partOf), hj, steps_len hf, ?_, by lia, by lia, by simp [SZ]; lia⟩
  rw [outer_all ht hok hne]
  congr 1
  rw [Bool.eq_iff_iff, means_reach, Bool.and_eq_true, reach_seg]
  constructor
  · rintro ⟨h4, h5⟩
    rw [g_reach _ _ tl _ ht (fun x hx => hne x (behind_mem _ _ hx)) (fit_len0 h4)] at h5
    exact ⟨h4, by rw [Nat.zero_add]; exact h5⟩
  · rintro ⟨h4, h5⟩
    refine ⟨h4, ?_⟩
    rw [g_reach _ _ tl _ ht (fun x hx => hne x (behind_mem _ _ hx)) (fit_len0 h4)]
    rw [Nat.zero_add] at h5; exact h5

theorem bld_ok : ∀ (is : List Int) (wn : List (List Nat) × List Nat), (∀ w ∈ wn.1, word1 w) → noSS (wn.1.map partOf) → (∀ w ∈ (is.foldl bld wn).1, word1 w) ∧ noSS ((is.foldl bld wn).1.map partOf)
  | [], wn, h1, h2 => ⟨h1, h2⟩
  | i :: is, wn, h1, h2 => by
    rw [List.foldl_cons]
    refine bld_ok is (bld wn i) ?_ ?_
    · unfold bld
      split
      · exact h1
      · split
        · intro w hw
          simp only [List.mem_append, List.mem_singleton] at hw
          rcases hw with hw | hw
          · exact h1 w hw
          · right
            have hk : (i / 3 % 12).toNat < pieces1.length := by simp [pieces1]; lia
            rw [hw, List.getD_eq_getElem?_getD, List.getElem?_eq_getElem hk]
            exact List.getElem_mem _
        · split
          · exact h1
          · intro w hw
            simp only [List.mem_append, List.mem_singleton] at hw
            rcases hw with hw | hw
            · exact h1 w hw
            · exact .inl hw
    · unfold bld
      split
      · exact h2
      · split
        · rw [List.map_append]
          refine noSS_snoc h2 ?_
          rintro ⟨_, h⟩
          have hk : (i / 3 % 12).toNat < pieces1.length := by simp [pieces1]; lia
          have hm : pieces1.getD (i / 3 % 12).toNat [] ∈ pieces1 := by
            rw [List.getD_eq_getElem?_getD, List.getElem?_eq_getElem hk]
            exact List.getElem_mem _
          have := (piece_ok hm).2.2.1
          unfold partOf at h
          rw [if_neg this] at h
          cases h
        · split
          · exact h2
          · rename_i hl
            rw [List.map_append]
            refine noSS_snoc h2 ?_
            rintro ⟨h, _⟩
            apply hl
            rw [List.getLast?_map] at h
            cases hg : wn.1.getLast? with
            | none => rw [hg] at h; cases h
            | some x =>
              rw [hg] at h
              simp only [Option.map_some, Option.some.injEq] at h
              unfold partOf at h
              split at h
              · rename_i e; rw [e]
              · cases h
theorem pure1 (is : List Int) (h : is.length ≤ 63) : Pure1 ((is.take 63).foldl bld ([], [])).1 ((is.take 63).foldl bld ([], [])).2 := by
  obtain ⟨h1, h2⟩ := bld_ok (is.take 63) ([], []) (by simp) trivial
  have hl := bld_len (is.take 63) ([], [])
  simp at hl
  exact pure1_of h1 h2 (by lia)
end Mine
end

section
open PySem PySem.W PyProof.Rows
set_option maxRecDepth 100000 in
set_option maxHeartbeats 8000000 in
open_top hd1 for PySem.Challenge.rw_dm0105_01
set_option maxRecDepth 100000
namespace Mine
theorem bi_ok : biNames.all (fun x => !startupNames.contains x && !(looseW hd1.view_39 []).contains x && !((recsOf hd1.view_39).map (·.name)).contains x && !((litsOf hd1.view_39).map (·.1)).contains x && !((clssOf hd1.view_39 (looseW hd1.view_39 [])).map (·.name)).contains x && x != "__name__") = true := by decide +kernel
end Mine
end

section
open PySem PySem.W PyProof.Rows
set_option maxRecDepth 100000
namespace Mine
theorem recs_len : (recsOf hd1.view_39).length = 5 := by decide +kernel
noncomputable def rc (i : Nat) (h : i < 5) : DefRec := (recsOf hd1.view_39)[i]'(by rw [recs_len]; exact h)
theorem rc_mem (i : Nat) (h : i < 5) : rc i h ∈ recsOf hd1.view_39 := List.getElem_mem _

theorem len1 {α : Type} {l : List α} (h : l.length = 1) : ∃ a, l = [a] := by
  cases l with
  | nil => cases h
  | cons a l => cases l with
    | nil => exact ⟨a, rfl⟩
    | cons _ _ => cases h
theorem len2 {α : Type} {l : List α} (h : l.length = 2) : ∃ a b, l = [a, b] := by
  cases l with
  | nil => cases h
  | cons a l => obtain ⟨b, rfl⟩ := len1 (Nat.succ.inj h); exact ⟨a, b, rfl⟩
theorem len3 {α : Type} {l : List α} (h : l.length = 3) : ∃ a b c, l = [a, b, c] := by
  cases l with
  | nil => cases h
  | cons a l => obtain ⟨b, c, rfl⟩ := len2 (Nat.succ.inj h); exact ⟨a, b, c, rfl⟩
theorem ba0 (pm code doc : Value) (vals : List Value) (hv : vals.length = 2) : bindArgs (Calls.docDef (rc 0 (by decide)).name (rc 0 (by decide)).params (rc 0 (by decide)).body (rc 0 (by decide)).scope pm code doc) ⟨vals, []⟩ = pure ((["inp", "STAR"] : List Str).zip vals) := by
  obtain ⟨a, b, rfl⟩ := len2 hv; rfl
end Mine
end

section
open PySem PySem.W PyProof.Rows
set_option maxRecDepth 100000
namespace Mine
theorem ba1 (pm code doc : Value) (vals : List Value) (hv : vals.length = 1) : bindArgs (Calls.docDef (rc 1 (by decide)).name (rc 1 (by decide)).params (rc 1 (by decide)).body (rc 1 (by decide)).scope pm code doc) ⟨vals, []⟩ = pure ((["text"] : List Str).zip vals) := by
  obtain ⟨a, rfl⟩ := len1 hv; rfl
theorem ba2 (pm code doc : Value) (vals : List Value) (hv : vals.length = 3) : bindArgs (Calls.docDef (rc 2 (by decide)).name (rc 2 (by decide)).params (rc 2 (by decide)).body (rc 2 (by decide)).scope pm code doc) ⟨vals, []⟩ = pure ((["steps", "name", "most"] : List Str).zip vals) := by
  obtain ⟨a, b, c, rfl⟩ := len3 hv; rfl
theorem ba3 (pm code doc : Value) (vals : List Value) (hv : vals.length = 2) : bindArgs (Calls.docDef (rc 3 (by decide)).name (rc 3 (by decide)).params (rc 3 (by decide)).body (rc 3 (by decide)).scope pm code doc) ⟨vals, []⟩ = pure ((["words", "name"] : List Str).zip vals) := by
  obtain ⟨a, b, rfl⟩ := len2 hv; rfl
theorem ba4 (pm code doc : Value) (vals : List Value) (hv : vals.length = 1) : bindArgs (Calls.docDef (rc 4 (by decide)).name (rc 4 (by decide)).params (rc 4 (by decide)).body (rc 4 (by decide)).scope pm code doc) ⟨vals, []⟩ = pure ((["script"] : List Str).zip vals) := by
  obtain ⟨a, rfl⟩ := len1 hv; rfl

theorem own2 {ns : Names} {xs : List Str} (h : xs.all (fun x => ns.lookup x == some .local || ns.lookup x == some .cell) = true) : ∀ x ∈ xs, ownOf ns x := by
  intro x hx
  have := List.all_eq_true.mp h x hx
  simp only [Bool.or_eq_true, beq_iff_eq] at this
  exact this

section
variable {mean : ExcName → Option Value} {mg mb : Str → Option Value} {h : Heap}
theorem fns1 (T : Top hd1.view_39 (looseW hd1.view_39 []) mean mg mb h) : Fns1 ⟨h, mg, mb, 0⟩ where
  join := ⟨_, _, fn_of T 0 _ (rc_mem 0 (by decide)) _ ba0 rfl rfl rfl (own2 rfl) (nofree_of rfl), rfl, rfl⟩
  steps := ⟨_, _, fn_of T 0 _ (rc_mem 1 (by decide)) _ ba1 rfl rfl rfl (own2 rfl) (nofree_of rfl), rfl, rfl⟩
  goes := ⟨_, _, fn_of T 0 _ (rc_mem 2 (by decide)) _ ba2 rfl rfl rfl (own2 rfl) (nofree_of rfl), rfl, rfl⟩
  means := ⟨_, _, fn_of T 0 _ (rc_mem 3 (by decide)) _ ba3 rfl rfl rfl (own2 rfl) (nofree_of rfl), rfl, rfl⟩
theorem fnlaw (T : Top hd1.view_39 (looseW hd1.view_39 []) mean mg mb h) : ∃ sc body, FnAt ⟨h, mg, mb, 0⟩ "law" ["script"] sc body ∧ sc.names = nLaw1 ∧ trSs nLaw1 body = bLaw1 :=
  ⟨_, _, fn_of T 0 _ (rc_mem 4 (by decide)) _ ba4 rfl rfl rfl (own2 rfl) (nofree_of rfl), rfl, rfl⟩
end

theorem post_true (R : WRecords) (is : List Int) : (WShape.has R (WData.bool true) WShape.bool && WTm.holds R (WTm.res.eq (WTm.lit (WData.bool true))) { args := [WData.list (List.map WData.int is)], res := some (WData.bool true), after := [WData.list (List.map WData.int is)] }) = true := by
  simp [WShape.has, WShape.arms, WTm.holds, WTm.value]
  have e : same (WData.bool true) (WData.bool true) = true := by decide +kernel
  rw [e]
theorem entry1 (hp : ∀ is : List Int, is.length ≤ 63 → Pure1 ((is.take 63).foldl bld ([], [])).1 ((is.take 63).foldl bld ([], [])).2) : PySem.Challenge.rw_dm0105_01.Holds := by
  refine hd1 ?_
  intro w s₀ s₁ mg mb Gd hY a o pm cd doc dV kV ho hdat hcode hdf hname hgens args vals as hpre hlay hreads hwell hmods
  obtain ⟨hs, hh⟩ := pre_splitW hpre
  obtain ⟨is, rfl⟩ := pre_ints hs
  have hl := pre_len hh
  have rp := script_of hwell hl
  have hC := cx_of Gd.T 0 bi_ok
  have F := fns1 Gd.T
  obtain ⟨sc, body, fa, hn, hb⟩ := fnlaw Gd.T
  obtain ⟨a', o', fd, e1, e2, e3, hcall⟩ := fn_call (prog := PySem.Challenge.rw_dm0105_01.row.toRowW.prog) (w := w) (lv := 1) (args := [.lst (is.map .int)]) (r := .bool true) hC fa rfl (by
    rw [hn, hb]; exact law1_sat (lv := 0) hC F (hp is hl))
  have : a' = a := by
    have h1 : mg "law" = some (.ref a') := e1
    have h2 : mg "law" = some (.ref a) := hname
    rw [h1] at h2; cases h2; rfl
  subst this
  refine wpAny_mono (hcall callerA _ (fun _ => False) s₁ vals ⟨rfl, by decide, by decide⟩ (fun b o e => e) (Nat.zero_le _) (fun _ h => h.elim) (fun _ h => h.elim) rp) (fun v s' hpst => ?_) fun e s' he => he
  refine good_true hgens (fun cls => rfl) ?_ hpst
  exact post_true _ _
end Mine
end

theorem PySem.Challenge.cw_dm0105_01_holds : PySem.Challenge.rw_dm0105_01.Holds :=
  Mine.entry1 Mine.pure1
