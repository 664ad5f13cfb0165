import PyProof.Rows.All
import Wide.All
import OpenK.AllK
import Wide.FinOn
import KE.KEqDict
import Lean
import PySem.Challenge.RW_xg0029_01
open PySem PySem.W PyProof.Rows
set_option Elab.async false
set_option maxRecDepth 100000
set_option linter.unusedVariables false
set_option linter.unusedSimpArgs false
namespace Mine.Internal

inductive D where
  | none
  | bool (b : Bool)
  | int (i : Int)
  | flt (x : UInt64)
  | str (s : Str)
  | byt (b : List UInt8)
  | tup (ds : List D)
  | list (ds : List D)
  | range (a b : Int)
  | dict (kvs : List (Int × Int))
  | duel (d : D)

noncomputable abbrev Sg := Addr → Option Obj
noncomputable def SubH (σ : Sg) (h : Heap) : Prop := ∀ a o, σ a = some o → h.get? a = some o
noncomputable def Le (σ σ' : Sg) : Prop := ∀ a o, σ a = some o → σ' a = some o
noncomputable def Kept (h h' : Heap) : Prop := ∀ a o, h.get? a = some o → h'.get? a = some o
noncomputable def NewF (σ : Sg) (h : Heap) (σ' : Sg) : Prop := ∀ a, σ a = none → (h.get? a).isSome = true → σ' a = none

theorem Le.refl (σ : Sg) : Le σ σ := fun _ _ e => e
theorem Le.trans {a b c : Sg} (x : Le a b) (y : Le b c) : Le a c := fun _ _ e => y _ _ (x _ _ e)
theorem Kept.refl (h : Heap) : Kept h h := fun _ _ e => e
theorem Kept.trans {a b c : Heap} (x : Kept a b) (y : Kept b c) : Kept a c := fun _ _ e => y _ _ (x _ _ e)
theorem Kept.push (h : Heap) (o : Obj) : Kept h (h.push o) := fun _ _ e => Heap.get?_push_of_some o e
theorem Kept.isSome {h h' : Heap} (k : Kept h h') {a : Addr} (e : (h.get? a).isSome = true) : (h'.get? a).isSome = true := by
  obtain ⟨o, ho⟩ := Option.isSome_iff_exists.mp e
  rw [k a o ho]; rfl
theorem NewF.refl (σ : Sg) (h : Heap) : NewF σ h σ := fun _ e _ => e
theorem NewF.trans {σ σ' σ'' : Sg} {h h' : Heap} (x : NewF σ h σ') (k : Kept h h') (y : NewF σ' h' σ'') : NewF σ h σ'' :=
  fun a e s => y a (x a e s) (k.isSome s)
theorem SubH.keep {σ : Sg} {h h' : Heap} (s : SubH σ h) (k : Kept h h') : SubH σ h' := fun _ _ e => k _ _ (s _ _ e)

noncomputable def addS (σ : Sg) (a : Addr) (o : Obj) : Sg := fun b => if b = a then some o else σ b
theorem addS_self (σ : Sg) (a : Addr) (o : Obj) : addS σ a o a = some o := if_pos rfl
theorem addS_le {σ : Sg} {a : Addr} {o : Obj} (h : σ a = none) : Le σ (addS σ a o) := fun b p e => by
  unfold addS
  by_cases hb : b = a
  · subst hb; rw [h] at e; cases e
  · rw [if_neg hb]; exact e
theorem addS_sub {σ : Sg} {a : Addr} {o : Obj} {h : Heap} (s : SubH σ h) (e : h.get? a = some o) : SubH (addS σ a o) h := fun b p q => by
  unfold addS at q
  by_cases hb : b = a
  · rw [if_pos hb] at q; cases q; rw [hb]; exact e
  · rw [if_neg hb] at q; exact s b p q
theorem none_of_sub {σ : Sg} {h : Heap} (s : SubH σ h) {a : Addr} (e : h.get? a = none) : σ a = none := by
  cases q : σ a with
  | none => rfl
  | some o => have := s a o q; rw [e] at this; cases this
theorem get?_size (h : Heap) : h.get? h.objs.size = none := by
  cases q : h.get? h.objs.size with
  | none => rfl
  | some o => exact absurd (Heap.lt_size q) (Nat.lt_irrefl _)

theorem addS_new {σ : Sg} {a : Addr} {o : Obj} {h : Heap} (ha : h.get? a = none) : NewF σ h (addS σ a o) := fun b e s => by
  unfold addS
  by_cases hb : b = a
  · subst hb; rw [ha] at s; cases s
  · rw [if_neg hb]; exact e

noncomputable abbrev tupObj (vs : List Value) (n : Nat) : Obj := { cls := .type "tuple", data := .seq vs.toArray n }
noncomputable abbrev rangeObj (a b : Int) (t u v : Tok) : Obj := { cls := .type "range", data := .fields #[.int a t, .int b u, .int 1 v] }

inductive PairsAre : List (Int × Value) → List (Int × Int) → Prop
  | nil : PairsAre [] []
  | cons {k i : Int} {t : Tok} {r : List (Int × Value)} {q : List (Int × Int)} : PairsAre r q → PairsAre ((k, .int i t) :: r) ((k, i) :: q)

section
variable (prog : Program) (w : World) (C : Addr)
mutual
inductive Rp (σ : Sg) : Value → D → Prop
  | none : Rp σ .none .none
  | bool (b : Bool) : Rp σ (.bool b) (.bool b)
  | int (i : Int) (t : Tok) : Rp σ (.int i t) (.int i)
  | flt (x : UInt64) (t : Tok) : Rp σ (.float x t) (.flt x)
  | str (s : Str) (t : Tok) : Rp σ (.str s t) (.str s)
  | byt (b : List UInt8) (t : Tok) : Rp σ (.bytes b.toArray t) (.byt b)
  | tup {a : Addr} {vs : List Value} {n : Nat} {ds : List D} : σ a = some (tupObj vs n) → RpL σ vs ds → Rp σ (.ref a) (.tup ds)
  | list {a : Addr} {vs : List Value} {n : Nat} {ds : List D} : σ a = some (listOf vs.toArray n) → RpL σ vs ds → Rp σ (.ref a) (.list ds)
  | range {r : Addr} {a b : Int} {t u v : Tok} : σ r = some (rangeObj a b t u v) → Rp σ (.ref r) (.range a b)
  | dict {a : Addr} {o : Obj} {kvs : List (Int × Value)} {ks : List (Int × Int)} : σ a = some o → o.IsDictOf (intKind prog w) kvs → PairsAre kvs ks → a ≠ sysModules → Rp σ (.ref a) (.dict ks)
  | duel {a dx : Addr} {sl : Array (Option Value)} {es : List DictEntry} {n : Nat} {v : Value} {d : D} : σ a = some ⟨.ref C, some dx, .plain, sl⟩ → σ dx = some (dictOf es n) →
      (getL "comp_select_list" es = some (some v) ∧ getL "compare" es = some none) → Rp σ v d → Rp σ (.ref a) (.duel d)
inductive RpL (σ : Sg) : List Value → List D → Prop
  | nil : RpL σ [] []
  | cons {v : Value} {vs : List Value} {d : D} {ds : List D} : Rp σ v d → RpL σ vs ds → RpL σ (v :: vs) (d :: ds)
end
end

section
variable {prog : Program} {w : World} {C : Addr}
theorem Rp.mono {σ σ' : Sg} (l : Le σ σ') {v : Value} {d : D} (h : Rp prog w C σ v d) : Rp prog w C σ' v d :=
  Rp.rec (motive_1 := fun v d _ => Rp prog w C σ' v d) (motive_2 := fun vs ds _ => RpL prog w C σ' vs ds) .none (fun b => .bool b) (fun i t => .int i t) (fun x t => .flt x t) (fun s t => .str s t) (fun b t => .byt b t)
    (fun h _ r => .tup (l _ _ h) r) (fun h _ r => .list (l _ _ h) r) (fun h => .range (l _ _ h)) (fun h1 h2 h3 h4 => .dict (l _ _ h1) h2 h3 h4) (fun h1 h2 h3 _ r => .duel (l _ _ h1) (l _ _ h2) h3 r) .nil (fun _ _ a r => .cons a r) h
theorem RpL.mono {σ σ' : Sg} (l : Le σ σ') {vs : List Value} {ds : List D} (h : RpL prog w C σ vs ds) : RpL prog w C σ' vs ds := by
  induction vs generalizing ds with
  | nil => cases h; exact .nil
  | cons v vs ih => cases h with | cons a r => exact .cons (a.mono l) (ih r)
theorem RpL.length {σ : Sg} {vs : List Value} {ds : List D} (h : RpL prog w C σ vs ds) : vs.length = ds.length := by
  induction vs generalizing ds with
  | nil => cases h; rfl
  | cons v vs ih => cases h with | cons _ r => simp [ih r]
theorem RpL.append {σ : Sg} {vs us : List Value} {ds es : List D} (h : RpL prog w C σ vs ds) (k : RpL prog w C σ us es) : RpL prog w C σ (vs ++ us) (ds ++ es) := by
  induction vs generalizing ds with
  | nil => cases h; exact k
  | cons v vs ih => cases h with | cons a r => exact .cons a (ih r)
theorem RpL.get {σ : Sg} {vs : List Value} {ds : List D} (h : RpL prog w C σ vs ds) {k : Nat} {d : D} (hk : ds[k]? = some d) : ∃ v, vs[k]? = some v ∧ Rp prog w C σ v d := by
  induction vs generalizing ds k with
  | nil => cases h; cases hk
  | cons v vs ih =>
    cases h with
    | cons a r =>
      cases k with
      | zero => cases hk; exact ⟨v, rfl, a⟩
      | succ k => exact ih r hk
end

end Mine.Internal

namespace Mine.Internal

noncomputable abbrev Names := List (Str × NameKind)
noncomputable abbrev Rho := Str → Option D
noncomputable def setR (ρ : Rho) (x : Str) (d : D) : Rho := fun y => if y = x then some d else ρ y
noncomputable def noR : Rho := fun _ => none

noncomputable def inner (sc : Names) (ρ : Rho) : Rho := fun y => match sc.lookup y with
  | some .free => ρ y
  | _ => none

noncomputable abbrev Ev := Names → Rho → Expr → (D → Prop) → Prop

noncomputable def pyD : D → Option PyData
  | .int i => some (.int i)
  | .list ds => (go ds).map .list
  | .tup ds => (go ds).map .tuple
  | .dict kvs => some (.dict (kvs.map fun p => (.int p.1, .int p.2)))
  | _ => none
where
  go : List D → Option (List PyData)
  | [] => some []
  | d :: r => match pyD d, go r with
    | some x, some xs => some (x :: xs)
    | _, _ => none

noncomputable def isF (d : D) (k : UInt64 → Prop) : Prop := match d with | .flt y => k y | _ => False
noncomputable def isI (d : D) (k : Int → Prop) : Prop := match d with | .int y => k y | _ => False
noncomputable def isK (d : D) (k : List (Int × Int) → Prop) : Prop := match d with | .dict y => k y | _ => False
noncomputable def isL (d : D) (k : List D → Prop) : Prop := match d with | .list y => k y | _ => False
noncomputable def isT (d : D) (k : List D → Prop) : Prop := match d with | .tup y => k y | _ => False
noncomputable def isZ (d : D) (k : Str → Prop) : Prop := match d with | .str y => k y | _ => False
noncomputable def isB (d : D) (k : List UInt8 → Prop) : Prop := match d with | .byt y => k y | _ => False
theorem isF_inv {d : D} {k : UInt64 → Prop} (h : isF d k) : ∃ y, d = .flt y ∧ k y := by cases d <;> first | exact h.elim | exact ⟨_, rfl, h⟩
theorem isI_inv {d : D} {k : Int → Prop} (h : isI d k) : ∃ y, d = .int y ∧ k y := by cases d <;> first | exact h.elim | exact ⟨_, rfl, h⟩
theorem isK_inv {d : D} {k : List (Int × Int) → Prop} (h : isK d k) : ∃ y, d = .dict y ∧ k y := by cases d <;> first | exact h.elim | exact ⟨_, rfl, h⟩
theorem isL_inv {d : D} {k : List D → Prop} (h : isL d k) : ∃ y, d = .list y ∧ k y := by cases d <;> first | exact h.elim | exact ⟨_, rfl, h⟩
theorem isT_inv {d : D} {k : List D → Prop} (h : isT d k) : ∃ y, d = .tup y ∧ k y := by cases d <;> first | exact h.elim | exact ⟨_, rfl, h⟩
theorem isZ_inv {d : D} {k : Str → Prop} (h : isZ d k) : ∃ y, d = .str y ∧ k y := by cases d <;> first | exact h.elim | exact ⟨_, rfl, h⟩
theorem isB_inv {d : D} {k : List UInt8 → Prop} (h : isB d k) : ∃ y, d = .byt y ∧ k y := by cases d <;> first | exact h.elim | exact ⟨_, rfl, h⟩

noncomputable def binAdd (a b : D) (post : D → Prop) : Prop := match a with
  | .int x => isI b fun y => post (.int (x + y))
  | .flt x => isF b fun y => post (.flt (Float64.add x y))
  | .list xs => isL b fun ys => xs.length + ys.length ≤ 1000000 ∧ post (.list (xs ++ ys))
  | .str x => isZ b fun y => x.length + y.length ≤ 1000000 ∧ post (.str (x ++ y))
  | .byt x => isB b fun y => x.length + y.length ≤ 1000000 ∧ post (.byt (x ++ y))
  | _ => False
noncomputable def binSub (a b : D) (post : D → Prop) : Prop := match a with
  | .int x => isI b fun y => post (.int (x - y))
  | .flt x => isF b fun y => post (.flt (Float64.sub x y))
  | _ => False
noncomputable def binMulI (x : Int) (b : D) (post : D → Prop) : Prop := match b with
  | .int y => IntMulOk x y ∧ post (.int (x * y))
  | .flt y => x.natAbs < 2 ^ 1023 ∧ post (.flt (Float64.mul (Float64.ofInt x) y))
  | _ => False
noncomputable def binMul (a b : D) (post : D → Prop) : Prop := match a with
  | .int x => binMulI x b post
  | .flt x => isF b fun y => post (.flt (Float64.mul x y))
  | .str x => isI b fun y => MulOk x y ∧ post (.str (Txt.mul x y))
  | _ => False
noncomputable def binW (op : Operator) (a b : D) (post : D → Prop) : Prop :=
  match op with
  | .Add => binAdd a b post
  | .Sub => binSub a b post
  | .Mult => binMul a b post
  | .FloorDiv => isI a fun x => isI b fun y => (y ≠ 0 ∧ Builtin.divisionGoesByPylong x y = false) ∧ post (.int (x.fdiv y))
  | .Mod => isI a fun x => isI b fun y => y ≠ 0 ∧ post (.int (x.fmod y))
  | .Pow => isI a fun x => isI b fun y => (0 ≤ y ∧ y ≤ 1000000 ∧ x.natAbs < 2 ^ 64) ∧ post (.int (x ^ y.toNat))
  | .Div => isI a fun x => isI b fun y => (y ≠ 0 ∧ Float64.isInf (Float64.ofFrac (decide (x < 0) != decide (y < 0)) x.natAbs y.natAbs) = false) ∧ post (.flt (Float64.ofFrac (decide (x < 0) != decide (y < 0)) x.natAbs y.natAbs))
  | _ => False

noncomputable def intsD : List D → Option (List Int)
  | [] => some []
  | .int i :: r => (intsD r).map (i :: ·)
  | _ :: _ => none

noncomputable def cmpEq (a b : D) (post : Bool → Prop) : Prop := match a with
  | .int x => isI b fun y => post (x == y)
  | .str x => isZ b fun y => post (x.cps.toList == y.cps.toList)
  | _ => False
noncomputable def cmpData (a b : D) (post : Bool → Prop) : Prop := match pyD a, pyD b with
    | some p, some q => (PySem.SeqAt.shaped p = true ∧ PySem.SeqAt.shaped q = true) ∧ post (!PyData.eqv p q)
    | _, _ => False
noncomputable def cmpNe (a b : D) (post : Bool → Prop) : Prop := match a with
  | .int x => isI b fun y => post (x != y)
  | .str x => isZ b fun y => post (x.cps.toList != y.cps.toList)
  | .dict ks => isK b fun ls => (ks = ls ∧ (ks.map (·.1)).Nodup) ∧ post false
  | .list xs => cmpData (.list xs) b post
  | _ => False
noncomputable def cmpLt (a b : D) (post : Bool → Prop) : Prop := match a with
  | .int x => isI b fun y => post (decide (x < y))
  | .flt x => isF b fun y => post (Float64.cmp x y == some .lt)
  | _ => False
noncomputable def pair2 (xs : List D) (k : Int → Int → Prop) : Prop := match xs with
  | [p, q] => isI p fun x => isI q fun y => k x y
  | _ => False
theorem pair2_inv {xs : List D} {k : Int → Int → Prop} (h : pair2 xs k) : ∃ x y, xs = [.int x, .int y] ∧ k x y := by
  match xs, h with
  | [p, q], h =>
    obtain ⟨x, rfl, h⟩ := isI_inv h
    obtain ⟨y, rfl, h⟩ := isI_inv h
    exact ⟨x, y, rfl, h⟩
noncomputable def cmpGt (a b : D) (post : Bool → Prop) : Prop := match a with
  | .int x => isI b fun y => post (decide (y < x))
  | .flt x => isF b fun y => post (Float64.cmp x y == some .gt)
  | .tup xs => pair2 xs fun x y => isT b fun ys => pair2 ys fun u v => post (if x == u then decide (v < y) else decide (u < x))
  | _ => False
noncomputable def cmpIn (x : Int) (ys : List D) (post : Bool → Prop) : Prop := match intsD ys with
    | some ns => post (!ns.contains x)
    | none => False
noncomputable def cmpW (op : CmpOp) (a b : D) (post : Bool → Prop) : Prop :=
  match op with
  | .Eq => cmpEq a b post
  | .NotEq => cmpNe a b post
  | .Lt => cmpLt a b post
  | .LtE => isI a fun x => isI b fun y => post (decide (x ≤ y))
  | .Gt => cmpGt a b post
  | .GtE => isI a fun x => isI b fun y => post (decide (y ≤ x))
  | .NotIn => isI a fun x => isL b fun ys => cmpIn x ys post
  | _ => False

noncomputable def truthyW (d : D) (post : Bool → Prop) : Prop :=
  match d with
  | .bool b => post b
  | .int i => post (i != 0)
  | _ => False

noncomputable def atD (ds : List D) (i : Int) : Option D := if i < 0 then (if i + ds.length < 0 then none else ds[(i + ds.length).toNat]?) else ds[i.toNat]?

noncomputable def itemW (a i : D) (post : D → Prop) : Prop :=
  match a, i with
  | .list ds, .int i => (-1000000 ≤ i ∧ i ≤ 1000000 ∧ ds.length ≤ 1000000) ∧ (match atD ds i with | some d => post d | none => False)
  | .tup ds, .int i => (0 ≤ i ∧ i ≤ 1000000) ∧ (match ds[i.toNat]? with | some d => post d | none => False)
  | .str s, .int i => (0 ≤ i ∧ i < s.length ∧ s.length ≤ 1000000) ∧ post (.str ⟨#[s.cps[i.toNat]!]⟩)
  | .byt b, .int i => (0 ≤ i ∧ i < b.length ∧ b.length ≤ 1000000) ∧ post (.int ((b.getD i.toNat 0).toNat : Int))
  | _, _ => False

noncomputable def itemsW (d : D) (post : List D → Prop) : Prop :=
  match d with
  | .list ds => ds.length ≤ 1000000 ∧ post ds
  | .tup ds => ds.length ≤ 1000000 ∧ post ds
  | .range a b => (-1000000 ≤ a ∧ a ≤ 1000000 ∧ -1000000 ≤ b ∧ b ≤ 1000000) ∧ post ((List.range (b - a).toNat).map fun i : Nat => D.int (a + (i : Int)))
  | _ => False

section
variable (ev : Ev) (sc : Names) (ρ : Rho)
noncomputable def listW : List Expr → (List D → Prop) → Prop
  | [], post => post []
  | e :: r, post => ev sc ρ e fun d => listW r fun ds => post (d :: ds)
noncomputable def cmpT (l : Expr) (ops : List CmpOp) (rs : List Expr) (post : Bool → Prop) : Prop := match ops, rs with
  | [op], [r] => ev sc ρ l fun a => ev sc ρ r fun b => cmpW op a b post
  | _, _ => False
noncomputable def test1W (e : Expr) (post : Bool → Prop) : Prop :=
  match e with
  | .Compare l ops rs _ => cmpT ev sc ρ l ops rs post
  | .Name _ _ => ev sc ρ e fun d => truthyW d post
  | .Subscript _ _ _ => ev sc ρ e fun d => truthyW d post
  | .Call _ _ _ _ => ev sc ρ e fun d => truthyW d post
  | _ => False
noncomputable def boolT (o : BoolOp) (vs : List Expr) (post : Bool → Prop) : Prop := match vs with
  | [x, y] => (match o with
    | .And => test1W ev sc ρ x fun b => (b = true → test1W ev sc ρ y post) ∧ (b = false → post false)
    | .Or => test1W ev sc ρ x fun b => (b = true → post true) ∧ (b = false → test1W ev sc ρ y post))
  | _ => False
noncomputable def testW (e : Expr) (post : Bool → Prop) : Prop :=
  match e with
  | .BoolOp o vs _ => boolT ev sc ρ o vs post
  | e => test1W ev sc ρ e post
noncomputable def testsW : List Expr → (Bool → Prop) → Prop
  | [], post => post true
  | [t], post => testW ev sc ρ t post
  | _, _ => False
end

noncomputable def loopW (ev : Ev) (sc : Names) (x : Str) (ifs : List Expr) (body : Rho → List D → (List D → Prop) → Prop) (ρ : Rho) : List D → List D → (List D → Prop) → Prop
  | [], acc, post => post acc
  | d :: r, acc, post => testsW ev sc (setR ρ x d) ifs fun b =>
      (b = true → body (setR ρ x d) acc fun acc' => loopW ev sc x ifs body ρ r acc' post) ∧ (b = false → loopW ev sc x ifs body ρ r acc post)
noncomputable def emitW (ev : Ev) (sc : Names) (elt : Expr) (ρ : Rho) (acc : List D) (post : List D → Prop) : Prop :=
  ev sc ρ elt fun d => acc.length ≤ 1000000 ∧ post (acc ++ [d])
noncomputable def compW (ev : Ev) (sc : Names) (elt : Expr) : List Comprehension → Rho → List D → List D → (List D → Prop) → Prop
  | [⟨.Name x _, _, ifs, _⟩], ρ, ds, acc, post => loopW ev sc x ifs (emitW ev sc elt) ρ ds acc post
  | [⟨.Name x _, _, [], _⟩, ⟨.Name y _, jt, ifs, _⟩], ρ, ds, acc, post =>
      loopW ev sc x [] (fun ρ' acc' post' => ev sc ρ' jt fun s => itemsW s fun es => loopW ev sc y ifs (emitW ev sc elt) ρ' es acc' post') ρ ds acc post
  | _, _, _, _, _ => False

noncomputable def putK (k v : Int) (kvs : List (Int × Int)) : List (Int × Int) :=
  if kvs.any (fun p => p.1 = k) then kvs.map (fun p => if p.1 = k then (p.1, v) else p) else kvs ++ [(k, v)]
noncomputable def dictL (kf vf : Int → Int) (ns : List Int) : List (Int × Int) := ns.foldl (fun acc i => putK (kf i) (vf i) acc) []

structure Tab where
  fn : Str → List D → (D → Prop) → Prop
  cmp : D → D → D → (D → Prop) → Prop

noncomputable def one1 (as : List D) (k : D → Prop) : Prop := match as with
  | [d] => k d
  | _ => False
noncomputable def two2 (as : List D) (k : D → D → Prop) : Prop := match as with
  | [d, e] => k d e
  | _ => False
theorem one1_inv {as : List D} {k : D → Prop} (h : one1 as k) : ∃ d, as = [d] ∧ k d := by
  match as, h with
  | [d], h => exact ⟨d, rfl, h⟩
theorem two2_inv {as : List D} {k : D → D → Prop} (h : two2 as k) : ∃ d e, as = [d, e] ∧ k d e := by
  match as, h with
  | [d, e], h => exact ⟨d, e, rfl, h⟩
theorem one1_int {as : List D} {k : Int → Prop} (h : one1 as fun d => isI d k) : ∃ i, as = [.int i] ∧ k i := by
  obtain ⟨d, rfl, h⟩ := one1_inv h
  obtain ⟨i, rfl, h⟩ := isI_inv h
  exact ⟨i, rfl, h⟩
theorem two2_ints {as : List D} {k : Int → Int → Prop} (h : two2 as fun d e => isI d fun i => isI e fun j => k i j) : ∃ i j, as = [.int i, .int j] ∧ k i j := by
  obtain ⟨d, e, rfl, h⟩ := two2_inv h
  obtain ⟨i, rfl, h1⟩ := isI_inv h
  obtain ⟨j, rfl, h2⟩ := isI_inv h1
  exact ⟨i, j, rfl, h2⟩
noncomputable def cRange (as : List D) (post : D → Prop) : Prop := match as with
  | [_] => one1 as fun d => isI d fun n => post (.range 0 n)
  | as => two2 as fun d e => isI d fun a => isI e fun b => post (.range a b)
noncomputable def lenD (d : D) (post : D → Prop) : Prop := match d with
  | .list ds => ds.length ≤ 1000000 ∧ post (.int ds.length)
  | .str s => s.length ≤ 1000000 ∧ post (.int s.length)
  | _ => False
noncomputable def sumD (ds : List D) (post : D → Prop) : Prop := match intsD ds with
  | some ns => post (.int ns.sum)
  | none => False
noncomputable def callW (Φ : Tab) (f : Str) (as : List D) (post : D → Prop) : Prop :=
  if f = "range" then cRange as post
  else if f = "len" then one1 as fun d => lenD d post
  else if f = "sum" then one1 as fun d => isL d fun ds => sumD ds post
  else if f = "round" then one1 as fun d => isF d fun x => Float64.isFinite x = true ∧ post (.int (PySem.Flt.toInt Float64.nearestOf x))
  else if f = "min" then two2 as fun d e => isI d fun a => isI e fun b => post (.int (if b < a then b else a))
  else if f = "max" then two2 as fun d e => isI d fun a => isI e fun b => post (.int (if b > a then b else a))
  else if f = "abs" then one1 as fun d => isI d fun a => post (.int (if a < 0 then -a else a))
  else if f = "int" then one1 as fun d => isI d fun a => post (.int a)
  else if f = "divmod" then two2 as fun d e => isI d fun a => isI e fun b => (b ≠ 0 ∧ Builtin.divisionGoesByPylong a b = false) ∧ post (.tup [.int (a.fdiv b), .int (a.fmod b)])
  else Φ.fn f as post

noncomputable def methPre (m : Str) : D → Prop
  | .list _ => m = "count"
  | .byt _ => m = "rjust"
  | .duel _ => m = "compare"
  | _ => False
noncomputable def methL (ds : List D) (as : List D) (post : D → Prop) : Prop := match as with
  | [k] => isI k fun k => (match intsD ds with | some ns => post (.int (ns.count k)) | none => False)
  | _ => False
noncomputable def methB (b : List UInt8) (as : List D) (post : D → Prop) : Prop := match as with
  | [n, c] => isI n fun n => isB c fun c => (match c with
    | [c] => (0 ≤ n ∧ n ≤ 1000000 ∧ b.length ≤ 1000000) ∧ post (.byt (List.replicate (n.toNat - b.length) c ++ b))
    | _ => False)
  | _ => False
noncomputable def methD (Φ : Tab) (d : D) (as : List D) (post : D → Prop) : Prop := match as with
  | [x, y] => Φ.cmp d x y post
  | _ => False
noncomputable def methW (Φ : Tab) (o : D) (as : List D) (post : D → Prop) : Prop :=
  match o with
  | .list ds => methL ds as post
  | .byt b => methB b as post
  | .duel d => methD Φ d as post
  | _ => False

noncomputable def strCut (x : Str) (l u : Option Int) : Str :=
  if (PySem.slicePicked x (l.map (·, 0)) (u.map (·, 0)) none).length == x.length then x else ⟨((PySem.slicePicked x (l.map (·, 0)) (u.map (·, 0)) none).filterMap (x.cps[·]?)).toArray⟩
noncomputable def optI (o : Option D) (k : Option Int → Prop) : Prop := match o with
  | none => k none
  | some d => isI d fun i => k (some i)
theorem optI_inv {o : Option D} {k : Option Int → Prop} (h : optI o k) : ∃ i : Option Int, o = i.map D.int ∧ k i := by
  cases o with
  | none => exact ⟨none, rfl, h⟩
  | some d =>
    obtain ⟨i, rfl, h⟩ := isI_inv h
    exact ⟨some i, rfl, h⟩
noncomputable def sliceT (s : Str) (l h t : Option Int) (post : D → Prop) : Prop := match h, t with
  | some h, none => (strCut s l (some h)).length ≤ 1000000 ∧ post (.str (strCut s l (some h)))
  | _, _ => False
noncomputable def sliceB (b : List UInt8) (l h t : Option Int) (post : D → Prop) : Prop := match l, h, t with
  | some l, some h, none => b.length ≤ 1000000 ∧ post (.byt (KBy.picked b.toArray (some l) (some h)).toList)
  | _, _, _ => False
noncomputable def sliceL (ds : List D) (l h t : Option Int) (post : D → Prop) : Prop := match l, h, t with
  | some _, some _, some t => (t ≠ 0 ∧ ds.length ≤ 1000000) ∧ ∀ es : List D, (∀ d, d ∈ es → d ∈ ds) → es.length ≤ ds.length → post (.list es)
  | _, _, _ => False
noncomputable def sliceW (a : D) (lo hi st : Option D) (post : D → Prop) : Prop :=
  optI lo fun l => optI hi fun h => optI st fun t => match a with
  | .str s => sliceT s l h t post
  | .byt b => sliceB b l h t post
  | .list ds => sliceL ds l h t post
  | _ => False

noncomputable def optW (ev : Ev) (sc : Names) (ρ : Rho) (e : Option Expr) (post : Option D → Prop) : Prop :=
  match e with
  | none => post none
  | some e => ev sc ρ e fun d => post (some d)

section
variable (Φ : Tab) (ev : Ev) (sc : Names) (ρ : Rho) (post : D → Prop)
noncomputable def constW (k : Const) : Prop := match k with
  | .int i => post (.int i)
  | .float x => post (.flt x)
  | .str s => post (.str s)
  | .bytes b => post (.byt b)
  | .bool b => post (.bool b)
  | _ => False
noncomputable def ifE (t a b : Expr) : Prop := match a, b with
  | .Constant (.int i) _ _, .Constant (.int j) _ _ => testW ev sc ρ t fun b => post (.int (if b then i else j))
  | a, b => testW ev sc ρ t fun c => (c = true → ev sc ρ a post) ∧ (c = false → ev sc ρ b post)
noncomputable def dictE (ks : List (Option Expr)) (vs : List Expr) : Prop := match ks, vs with
  | [], [] => post (.dict [])
  | [some k], [v] => ev sc ρ k fun a => ev sc ρ v fun b => match a, b with | .int k, .int v => post (.dict [(k, v)]) | _, _ => False
  | _, _ => False
noncomputable def unE (o : UnaryOp) (x : Expr) : Prop := match o with
  | .USub => ev sc ρ x fun a => match a with | .int i => post (.int (-i)) | _ => False
  | _ => False
noncomputable def cmpE (l : Expr) (ops : List CmpOp) (rs : List Expr) : Prop := match ops, rs with
  | [op], [r] => ev sc ρ l fun a => ev sc ρ r fun b => cmpW op a b fun c => post (.bool c)
  | _, _ => False
noncomputable def andE (x y : Expr) : Prop := ev sc ρ x fun a => match a with
      | .bool b => (b = true → ev sc ρ y post) ∧ (b = false → post (.bool false))
      | _ => False
noncomputable def boolE (o : BoolOp) (vs : List Expr) : Prop := match o with
  | .And => (match vs with
    | [x, y] => andE ev sc ρ post x y
    | _ => False)
  | _ => False
noncomputable def subE (a i : Expr) : Prop := match i with
  | .Slice lo hi st _ => ev sc ρ a fun d => optW ev sc ρ lo fun l => optW ev sc ρ hi fun h => optW ev sc ρ st fun t => sliceW d l h t post
  | i => ev sc ρ a fun d => ev sc ρ i fun k => itemW d k post
noncomputable def isiE (args : List Expr) : Prop := match args with
  | [a, .Name t _] => if t = "tuple" then ev sc ρ a fun d => match d with | .int _ => post (.bool false) | _ => False else False
  | _ => False
noncomputable def callE (f : Expr) (args : List Expr) : Prop := match f with
  | .Attribute o m _ => ev sc ρ o fun d => methPre m d ∧ listW ev sc ρ args fun ds => methW Φ d ds post
  | .Name f _ => if f = "isinstance" then isiE ev sc ρ post args else listW ev sc ρ args fun ds => callW Φ f ds post
  | _ => False
noncomputable def callK (f : Expr) (args : List Expr) (kws : List Keyword) : Prop := match kws with
  | [] => callE Φ ev sc ρ post f args
  | _ => False
noncomputable def lcE (elt : Expr) (gens : List Comprehension) (cs : Scope) : Prop := match gens with
  | ⟨t, it, ifs, k⟩ :: gs => ev sc ρ it fun s => itemsW s fun ds => compW ev cs.names elt (⟨t, it, ifs, k⟩ :: gs) (inner cs.names ρ) ds [] fun vs => post (.list vs)
  | _ => False
noncomputable def dcE (ke ve : Expr) (gens : List Comprehension) (cs : Scope) : Prop := match gens with
  | [⟨.Name x _, it, [], 0⟩] => ev sc ρ it fun s => match s with
      | .list ds => (match intsD ds with
        | some ns => ns.length ≤ 1000000 ∧ ∃ kf vf : Int → Int, (∀ i, i ∈ ns → ev cs.names (setR (inner cs.names ρ) x (.int i)) ke (fun d => d = .int (kf i)) ∧ ev cs.names (setR (inner cs.names ρ) x (.int i)) ve (fun d => d = .int (vf i))) ∧
            post (.dict (dictL kf vf ns))
        | none => False)
      | _ => False
  | _ => False
end
noncomputable def evalF (Φ : Tab) (ev : Ev) : Ev := fun sc ρ e post =>
  match e with
  | .Constant k _ _ => constW post k
  | .Name x _ => match ρ x with | some d => post d | none => False
  | .BinOp l op r _ => ev sc ρ l fun a => ev sc ρ r fun b => binW op a b post
  | .UnaryOp o x _ => unE ev sc ρ post o x
  | .IfExp t a b _ => ifE ev sc ρ post t a b
  | .List es _ => listW ev sc ρ es fun ds => ds.length ≤ 1000000 ∧ post (.list ds)
  | .Tuple es _ _ => listW ev sc ρ es fun ds => ds.length ≤ 1000000 ∧ post (.tup ds)
  | .Dict ks vs _ => dictE ev sc ρ post ks vs
  | .Compare l ops rs _ => cmpE ev sc ρ post l ops rs
  | .BoolOp o vs _ => boolE ev sc ρ post o vs
  | .Subscript a i _ => subE ev sc ρ post a i
  | .Attribute a m _ => if m = "comp_select_list" then ev sc ρ a fun d => match d with | .duel d => post d | _ => False else False
  | .Call f args kws _ => callK Φ ev sc ρ post f args kws
  | .ListComp elt gens cs _ => lcE ev sc ρ post elt gens cs
  | .DictComp ke ve gens cs _ => dcE ev sc ρ post ke ve gens cs
  | _ => False

noncomputable def evalW (Φ : Tab) : Nat → Ev
  | 0 => fun _ _ _ _ => False
  | n + 1 => evalF Φ (evalW Φ n)

inductive Fl where
  | next
  | brk
  | ret (d : D)

noncomputable abbrev Mu := Option (Str × D)
noncomputable abbrev Post := Fl → Rho → Mu → Prop

noncomputable def mutN (x : Str) : Bool := x == "lamps" || x == "wins" || x == "new_callers"

noncomputable abbrev St := Rho → Mu → Stmt → Post → Prop
noncomputable abbrev Sts := Rho → Mu → List Stmt → Post → Prop

noncomputable def stsW (st : St) : Sts
  | ρ, μ, [], post => post .next ρ μ
  | ρ, μ, s :: r, post => st ρ μ s fun fl ρ' μ' => match fl with
    | .next => stsW st ρ' μ' r post
    | fl => post fl ρ' μ'

noncomputable def forW (turn : D → Rho → Mu → Post → Prop) : List D → Rho → Mu → Post → Prop
  | [], ρ, μ, post => post .next ρ μ
  | d :: r, ρ, μ, post => turn d ρ μ fun fl ρ' μ' => match fl with
    | .next => forW turn r ρ' μ' post
    | .brk => post .next ρ' μ'
    | .ret d => post (.ret d) ρ' μ'
noncomputable def whileW (test : Rho → Mu → (Bool → Prop) → Prop) (body : Rho → Mu → Post → Prop) : Nat → Rho → Mu → Post → Prop
  | 0, _, _, _ => False
  | n + 1, ρ, μ, post => test ρ μ fun b => (b = true → body ρ μ fun fl ρ' μ' => match fl with
      | .next => whileW test body n ρ' μ' post
      | .brk => post .next ρ' μ'
      | .ret d => post (.ret d) ρ' μ') ∧ (b = false → post .next ρ μ)

noncomputable def unp2 (x y : Str) (d : D) (ρ : Rho) (post : Rho → Prop) : Prop :=
  ∃ a b, d = .tup [a, b] ∧ post (setR (setR ρ x a) y b)
noncomputable def unp3 (x y z : Str) (d : D) (ρ : Rho) (post : Rho → Prop) : Prop :=
  ∃ a b c, d = .tup [a, b, c] ∧ post (setR (setR (setR ρ x a) y b) z c)
noncomputable def notMu (x : Str) (μ : Mu) : Prop := ∀ p, μ = some p → p.1 ≠ x

noncomputable def noneR (ρ : Rho) (x : Str) : Rho := fun y => if y = x then none else ρ y

noncomputable def nmOf (e : Expr) : Option Str := match e with
  | .Name x _ => some x
  | _ => none
noncomputable def attNm (e : Expr) : Option (Str × Str) := match e with
  | .Attribute o m _ => (match nmOf o with
    | some d => some (d, m)
    | none => none)
  | _ => none
noncomputable def feedOf (e : Expr) : Option (Str × Str) := match e with
  | .Call f args kws _ => (match args with
    | [] => (match kws with
      | [] => attNm f
      | _ => none)
    | _ => none)
  | _ => none
noncomputable def fltOf (e : Expr) : Option UInt64 := match e with
  | .Constant k _ _ => (match k with
    | .float c => some c
    | _ => none)
  | _ => none
noncomputable def clampS (s : Stmt) : Option (Str × UInt64) := match s with
  | .Assign ts e _ => (match ts with
    | [t] => (match nmOf t with
      | some x => (match fltOf e with
        | some c => some (x, c)
        | none => none)
      | none => none)
    | _ => none)
  | _ => none
noncomputable def clampOf (a b : List Stmt) : Option (Str × UInt64) := match a with
  | [s] => (match clampS s with
    | some c => (match b with
      | [] => some c
      | _ => none)
    | none => none)
  | _ => none
theorem noS {α : Type} {a : α} {P : Prop} (h : (none : Option α) = some a) : P := nomatch h
theorem nmOf_el {Q : Expr → Prop} {e : Expr} {x : Str} (h : nmOf e = some x) (k : ∀ p, Q (.Name x p)) : Q e := by
  cases e with
  | Name y p => cases h; exact k p
  | _ => exact noS h
theorem nmOf_inv {e : Expr} {x : Str} (h : nmOf e = some x) : ∃ p, e = .Name x p := nmOf_el (Q := fun e => ∃ p, e = .Name x p) h fun p => ⟨p, rfl⟩
theorem attNm_el {Q : Expr → Prop} {e : Expr} {r : Str × Str} (h : attNm e = some r) (k : ∀ o n q, attNm (.Attribute o n q) = some r → Q (.Attribute o n q)) : Q e := by
  cases e with
  | Attribute o n q => exact k o n q h
  | _ => exact noS h
theorem attNm_inv {e : Expr} {d m : Str} (h : attNm e = some (d, m)) : ∃ p q, e = .Attribute (.Name d p) m q := by
  refine attNm_el (Q := fun e => ∃ p q, e = .Attribute (.Name d p) m q) h fun o n q h => ?_
  have h : (match nmOf o with | some d => some (d, n) | none => none) = some (d, m) := h
  cases hn : nmOf o with
  | none => rw [hn] at h; cases h
  | some y =>
    rw [hn] at h
    cases h
    obtain ⟨p, rfl⟩ := nmOf_inv hn
    exact ⟨p, q, rfl⟩
theorem feedOf_el {Q : Expr → Prop} {e : Expr} {r : Str × Str} (h : feedOf e = some r) (k : ∀ f a b q, feedOf (.Call f a b q) = some r → Q (.Call f a b q)) : Q e := by
  cases e with
  | Call f a b q => exact k f a b q h
  | _ => exact noS h
theorem feedOf_inv {e : Expr} {d m : Str} (h : feedOf e = some (d, m)) : ∃ p q r, e = .Call (.Attribute (.Name d p) m q) [] [] r := by
  refine feedOf_el (Q := fun e => ∃ p q r, e = .Call (.Attribute (.Name d p) m q) [] [] r) h fun f args kws r h => ?_
  cases args with
  | cons _ _ => exact noS h
  | nil =>
    cases kws with
    | cons _ _ => exact noS h
    | nil =>
      obtain ⟨p, q, rfl⟩ := attNm_inv (show attNm f = some (d, m) from h)
      exact ⟨p, q, r, rfl⟩
theorem fltOf_el {Q : Expr → Prop} {e : Expr} {r : UInt64} (h : fltOf e = some r) (k : ∀ c n q, fltOf (.Constant c n q) = some r → Q (.Constant c n q)) : Q e := by
  cases e with
  | Constant c n q => exact k c n q h
  | _ => exact noS h
theorem fltOf_inv {e : Expr} {c : UInt64} (h : fltOf e = some c) : ∃ k p, e = .Constant (.float c) k p := by
  refine fltOf_el (Q := fun e => ∃ k p, e = .Constant (.float c) k p) h fun v k p h => ?_
  cases v with
  | float y => cases h; exact ⟨k, p, rfl⟩
  | _ => exact noS h
theorem clampS_el {Q : Stmt → Prop} {s : Stmt} {r : Str × UInt64} (h : clampS s = some r) (k : ∀ ts e q, clampS (.Assign ts e q) = some r → Q (.Assign ts e q)) : Q s := by
  cases s with
  | Assign ts e q => exact k ts e q h
  | _ => exact noS h
theorem clampS_inv {s : Stmt} {x : Str} {c : UInt64} (h : clampS s = some (x, c)) : ∃ p k q r, s = .Assign [.Name x p] (.Constant (.float c) k q) r := by
  refine clampS_el (Q := fun s => ∃ p k q r, s = .Assign [.Name x p] (.Constant (.float c) k q) r) h fun ts e r h => ?_
  cases ts with
  | nil => exact noS h
  | cons t ts =>
    cases ts with
    | cons _ _ => exact noS h
    | nil =>
      have h : (match nmOf t with | some x => (match fltOf e with | some c => some (x, c) | none => none) | none => none) = some (x, c) := h
      cases hn : nmOf t with
      | none => rw [hn] at h; cases h
      | some y =>
        rw [hn] at h
        cases hf : fltOf e with
        | none => rw [hf] at h; cases h
        | some d =>
          rw [hf] at h
          cases h
          obtain ⟨p, rfl⟩ := nmOf_inv hn
          obtain ⟨k, q, rfl⟩ := fltOf_inv hf
          exact ⟨p, k, q, r, rfl⟩
theorem clampOf_inv {a b : List Stmt} {x : Str} {c : UInt64} (h : clampOf a b = some (x, c)) : ∃ p k q r, a = [.Assign [.Name x p] (.Constant (.float c) k q) r] ∧ b = [] := by
  match a, b, h with
  | [s], b, h =>
    cases b with
    | cons _ _ =>
      have h : (match clampS s with | some _ => none | none => none) = some (x, c) := h
      cases hc : clampS s <;> rw [hc] at h <;> cases h
    | nil =>
      have h : (match clampS s with | some c => some c | none => none) = some (x, c) := h
      cases hc : clampS s with
      | none => rw [hc] at h; cases h
      | some d =>
        rw [hc] at h
        cases h
        obtain ⟨p, k, q, r, rfl⟩ := clampS_inv hc
        exact ⟨p, k, q, r, rfl, rfl⟩

section
variable (ev : Ev) (sc : Names) (sts : Sts) (ρ : Rho) (μ : Mu)
noncomputable def asN (x : Str) (e : Expr) (post : Post) : Prop :=
  match e with
  | .List [] _ => (mutN x = true → μ = none ∧ post .next (noneR ρ x) (some (x, .list []))) ∧ (mutN x = false → notMu x μ ∧ post .next (setR ρ x (.list [])) μ)
  | .Dict [] [] _ => (mutN x = true → μ = none ∧ post .next (noneR ρ x) (some (x, .dict []))) ∧ (mutN x = false → notMu x μ ∧ post .next (setR ρ x (.dict [])) μ)
  | e => ev sc ρ e fun d => notMu x μ ∧ post .next (setR ρ x d) μ
noncomputable def asT (es : List Expr) (e : Expr) (post : Post) : Prop :=
  (∃ x p y q, es = [.Name x p, .Name y q] ∧ ev sc ρ e fun d => (notMu x μ ∧ notMu y μ) ∧ unp2 x y d ρ fun ρ' => post .next ρ' μ) ∨
  ∃ x p y q z r, es = [.Name x p, .Name y q, .Name z r] ∧ ev sc ρ e fun d => (notMu x μ ∧ notMu y μ ∧ notMu z μ) ∧ unp3 x y z d ρ fun ρ' => post .next ρ' μ
noncomputable def asS (a i e : Expr) (post : Post) : Prop :=
  match nmOf a, nmOf i, nmOf e with
  | some x, some k, some v => (match μ with
      | some (y, .dict kvs) => x = y ∧ (match ρ k, ρ v with
          | some (.int k), some (.int v) => kvs.length ≤ 1000000 ∧ post .next ρ (some (y, .dict (putK k v kvs)))
          | _, _ => False)
      | _ => False)
  | _, _, _ => False
noncomputable def as1 (t : Expr) (e : Expr) (post : Post) : Prop :=
  match t with
  | .Name x _ => asN ev sc ρ μ x e post
  | .Tuple es _ _ => asT ev sc ρ μ es e post
  | .Subscript a i _ => asS ρ μ a i e post
  | _ => False
noncomputable def asF (ts : List Expr) (e : Expr) (post : Post) : Prop :=
  match ts with
  | [t] => as1 ev sc ρ μ t e post
  | _ => False
noncomputable def augS (a i e : Expr) (post : Post) : Prop :=
  match nmOf a, nmOf i, nmOf e with
  | some x, some k, some v => (match μ with
      | some (y, .dict kvs) => x = y ∧ (match ρ k, ρ v with
          | some (.int k), some (.int v) => (match kvs.lookup k with
              | some u => kvs.length ≤ 1000000 ∧ post .next ρ (some (y, .dict (putK k (u + v) kvs)))
              | none => False)
          | _, _ => False)
      | _ => False)
  | _, _, _ => False
noncomputable def augN (x : Str) (e : Expr) (post : Post) : Prop := match ρ x with
      | some (.int a) => ev sc ρ e fun d => match d with
          | .int b => notMu x μ ∧ post .next (setR ρ x (.int (a + b))) μ
          | _ => False
      | _ => False
noncomputable def augF (t : Expr) (e : Expr) (post : Post) : Prop :=
  match t with
  | .Name x _ => augN ev sc ρ μ x e post
  | .Subscript a i _ => augS ρ μ a i e post
  | _ => False
noncomputable def forN (x : Str) (it : Expr) (body : List Stmt) (post : Post) : Prop := match feedOf it with
    | some dm => (match ρ dm.1 with
      | some (.dict ks) => dm.2 = "values" ∧ forW (fun d ρ μ post => notMu x μ ∧ sts (setR ρ x d) μ body post) (ks.map fun p => D.int p.2) ρ μ post
      | _ => False)
    | none => ev sc ρ it fun s => itemsW s fun ds => forW (fun d ρ μ post => notMu x μ ∧ sts (setR ρ x d) μ body post) ds ρ μ post
noncomputable def forT (x y : Str) (it : Expr) (body : List Stmt) (post : Post) : Prop := match feedOf it with
    | some dm => (match ρ dm.1 with
      | some (.dict ks) => dm.2 = "items" ∧ forW (fun d ρ μ post => (notMu x μ ∧ notMu y μ) ∧ unp2 x y d ρ fun ρ' => sts ρ' μ body post) (ks.map fun p => D.tup [.int p.1, .int p.2]) ρ μ post
      | _ => False)
    | none => ev sc ρ it fun s => itemsW s fun ds => forW (fun d ρ μ post => (notMu x μ ∧ notMu y μ) ∧ unp2 x y d ρ fun ρ' => sts ρ' μ body post) ds ρ μ post
noncomputable def forP (es : List Expr) (it : Expr) (body : List Stmt) (post : Post) : Prop := match es with
  | [a, b] => (match nmOf a, nmOf b with
    | some x, some y => forT ev sc sts ρ μ x y it body post
    | _, _ => False)
  | _ => False
noncomputable def forF (t it : Expr) (body : List Stmt) (post : Post) : Prop :=
  match t with
  | .Name x _ => forN ev sc sts ρ μ x it body post
  | .Tuple es _ _ => forP ev sc sts ρ μ es it body post
  | _ => False
noncomputable def inF (l : Expr) (rs : List Expr) (a b : List Stmt) (post : Post) : Prop :=
  match rs with
  | [r] => (match nmOf l, nmOf r with
    | some k, some x => (match μ with
      | some (y, .dict kvs) => x = y ∧ (match ρ k with
          | some (.int k) => ((kvs.lookup k).isSome = true → sts ρ μ a post) ∧ ((kvs.lookup k).isSome = false → sts ρ μ b post)
          | _ => False)
      | _ => False)
    | _, _ => False)
  | _ => False
noncomputable def plainIf (t : Expr) (a b : List Stmt) (post : Post) : Prop := testW ev sc ρ t fun c => (c = true → sts ρ μ a post) ∧ (c = false → sts ρ μ b post)
noncomputable def isIn (ops : List CmpOp) : Bool := match ops with
  | [op] => (match op with
    | .In => true
    | _ => false)
  | _ => false
noncomputable def ifIn (t : Expr) (a b : List Stmt) (post : Post) : Prop :=
  match t with
  | .Compare l ops rs _ => (match isIn ops with
    | true => inF sts ρ μ l rs a b post
    | false => plainIf ev sc sts ρ μ t a b post)
  | t => plainIf ev sc sts ρ μ t a b post
noncomputable def ifF (t : Expr) (a b : List Stmt) (post : Post) : Prop :=
  match clampOf a b with
  | some xc => (match ρ xc.1 with
      | some (.flt y) => testW ev sc ρ t fun b => notMu xc.1 μ ∧ post .next (setR ρ xc.1 (.flt (if b then xc.2 else y))) μ
      | _ => False)
  | none => ifIn ev sc sts ρ μ t a b post
noncomputable def retF (e : Expr) (post : Post) : Prop :=
  match e with
  | .Name x _ => (match ρ x with
      | some d => post (.ret d) ρ μ
      | none => match μ with
        | some (y, d) => x = y ∧ post (.ret d) ρ μ
        | none => False)
  | e => ev sc ρ e fun d => post (.ret d) ρ μ
noncomputable def retO (e : Option Expr) (post : Post) : Prop := match e with
  | some e => retF ev sc ρ μ e post
  | none => False
noncomputable def augO (t : Expr) (o : Operator) (e : Expr) (post : Post) : Prop := match o with
  | .Add => augF ev sc ρ μ t e post
  | _ => False
noncomputable def forO (t it : Expr) (body orelse : List Stmt) (post : Post) : Prop := match orelse with
  | [] => forF ev sc sts ρ μ t it body post
  | _ => False
noncomputable def whO (t : Expr) (body orelse : List Stmt) (post : Post) : Prop := match orelse with
  | [] => ∃ n, whileW (fun ρ _ post => testW ev sc ρ t post) (fun ρ μ post => sts ρ μ body post) n ρ μ post
  | _ => False
noncomputable def appF (f e : Expr) (post : Post) : Prop := match attNm f with
  | some xm => (match μ with
      | some (y, .list ds) => (xm.1 = y ∧ xm.2 = "append") ∧ ev sc ρ e fun d => ds.length ≤ 1000000 ∧ post .next ρ (some (y, .list (ds ++ [d])))
      | _ => False)
  | none => False
noncomputable def exC (f : Expr) (args : List Expr) (kws : List Keyword) (post : Post) : Prop := match args, kws with
  | [e], [] => appF ev sc ρ μ f e post
  | _, _ => False
noncomputable def exF (e : Expr) (post : Post) : Prop :=
  match e with
  | .Call f args kws _ => exC ev sc ρ μ f args kws post
  | _ => False
end
noncomputable def stF (ev : Ev) (sc : Names) (sts : Sts) : St := fun ρ μ s post =>
  match s with
  | .Assign ts e _ => asF ev sc ρ μ ts e post
  | .AugAssign t o e _ => augO ev sc ρ μ t o e post
  | .For t it body orelse _ => forO ev sc sts ρ μ t it body orelse post
  | .While t body orelse _ => whO ev sc sts ρ μ t body orelse post
  | .If t a b _ => ifF ev sc sts ρ μ t a b post
  | .Return e _ => retO ev sc ρ μ e post
  | .Expr e _ => exF ev sc ρ μ e post
  | .Break _ => post .brk ρ μ
  | _ => False

noncomputable def stW (ev : Ev) (sc : Names) : Nat → St
  | 0 => fun _ _ _ _ => False
  | n + 1 => stF ev sc (stsW (stW ev sc n))

noncomputable def bindR : List (Str × D) → Rho
  | [] => noR
  | p :: r => fun y => if y = p.1 then some p.2 else bindR r y

noncomputable def fnW (Φ : Tab) (sc : Names) (params : List Str) (body : List Stmt) (args : List D) (post : D → Prop) : Prop :=
  params.length = args.length ∧ stsW (stW (evalW Φ 30) sc 10) (bindR (params.zip args)) none body fun fl _ _ => match fl with
    | .ret d => post d
    | _ => False

end Mine.Internal

namespace Mine.Internal

structure Nx (σ : Sg) (h : Heap) (σ' : Sg) (h' : Heap) : Prop where
  le : Le σ σ'
  sub : SubH σ' h'
  kept : Kept h h'
  newf : NewF σ h σ'

theorem Nx.refl {σ : Sg} {h : Heap} (s : SubH σ h) : Nx σ h σ h := ⟨.refl _, s, .refl _, .refl _ _⟩
theorem Nx.trans {σ σ' σ'' : Sg} {h h' h'' : Heap} (x : Nx σ h σ' h') (y : Nx σ' h' σ'' h'') : Nx σ h σ'' h'' :=
  ⟨x.le.trans y.le, y.sub, x.kept.trans y.kept, x.newf.trans x.kept y.newf⟩
theorem Nx.grow {σ : Sg} {h h' : Heap} (s : SubH σ h) (k : Kept h h') : Nx σ h σ h' := ⟨.refl _, s.keep k, k, .refl _ _⟩
theorem Nx.push {σ : Sg} {h : Heap} {o : Obj} (s : SubH σ h) (hf : o.isFreed = false) : Nx σ h (addS σ h.objs.size o) (h.push o) :=
  ⟨addS_le (none_of_sub s (get?_size h)), addS_sub (s.keep (.push h o)) (Heap.get?_push_size h hf), .push h o, addS_new (get?_size h)⟩

noncomputable def GlobAt (h : Heap) (f : Str) (v : Value) : Prop :=
  ∃ mg mb, h.Ns mainGlobals mg ∧ h.Ns builtinsNs mb ∧ (mg f = some v ∨ (mg f = none ∧ mb f = some v))
theorem GlobAt.keep {h h' : Heap} {f : Str} {v : Value} (x : GlobAt h f v) (k : Kept h h') : GlobAt h' f v :=
  let ⟨mg, mb, a, b, c⟩ := x; ⟨mg, mb, a.keeps k, b.keeps k, c⟩

noncomputable def builtinVal (f : Str) : Option Value :=
  if f = "range" then some (.type "range") else if f = "len" then some (.builtin "len") else if f = "sum" then some (.builtin "sum")
  else if f = "round" then some (.builtin "round") else if f = "min" then some (.builtin "min") else if f = "max" then some (.builtin "max")
  else if f = "abs" then some (.builtin "abs") else if f = "int" then some (.type "int") else if f = "divmod" then some (.builtin "divmod")
  else if f = "isinstance" then some (.builtin "isinstance") else if f = "tuple" then some (.type "tuple") else none

structure Wd (fa : Str → Option Addr) (X : Heap → Prop) (h : Heap) : Prop where
  glob : ∀ f v, builtinVal f = some v → GlobAt h f v
  fns : ∀ f a, fa f = some a → GlobAt h f (.ref a)
  lim : h.NoLimit
  more : X h
  keeps : ∀ h h', Kept h h' → X h → X h'
theorem Wd.keep {fa : Str → Option Addr} {X : Heap → Prop} {h h' : Heap} (x : Wd fa X h) (k : Kept h h') : Wd fa X h' :=
  ⟨fun f v e => (x.glob f v e).keep k, fun f a e => (x.fns f a e).keep k, x.lim.keeps k, x.keeps _ _ k x.more, x.keeps⟩
theorem Ns.unique {h : Heap} {a : Addr} {m m' : Str → Option Value} (x : h.Ns a m) (y : h.Ns a m') : m = m' := by
  obtain ⟨o, es, ep, ho, hd, _, hf⟩ := x
  obtain ⟨o', es', ep', ho', hd', _, hf'⟩ := y
  rw [ho] at ho'; cases ho'
  rw [hd] at hd'; cases hd'
  funext n
  rw [← hf, ← hf']
structure Stat (sc : Names) (env : Env) : Prop where
  fn : env.scope.kind = .function
  glob : env.globals = mainGlobals
  built : env.builtins = builtinsNs
  loc : ∀ x, sc.lookup x = some .local → env.kindOf x = some .local
  cell : ∀ x, sc.lookup x = some .cell → env.kindOf x = some .cell
  free : ∀ x, sc.lookup x = some .free → env.kindOf x = some .free ∨ env.kindOf x = some .cell
  imp : ∀ x, sc.lookup x = some .globalImplicit → env.kindOf x = some .globalImplicit

noncomputable def VarAt (h : Heap) (env : Env) (x : Str) (v : Value) : Prop :=
  (env.kindOf x = some .local ∧ ∃ m, h.Ns env.locals m ∧ m x = some v) ∨
  ((env.kindOf x = some .cell ∨ env.kindOf x = some .free) ∧ ∃ c, env.cells.lookup x = some c ∧ h.IsCell c (some v))
theorem VarAt.keep {h h' : Heap} {env : Env} {x : Str} {v : Value} (a : VarAt h env x v) (k : Kept h h') : VarAt h' env x v := by
  rcases a with ⟨e, m, n, q⟩ | ⟨e, c, n, q⟩
  · exact .inl ⟨e, m, n.keeps k, q⟩
  · exact .inr ⟨e, c, n, q.keeps k⟩

noncomputable def CellsAt (h : Heap) (env : Env) (sc : Names) : Prop :=
  ∀ x, (sc.lookup x = some .cell ∨ sc.lookup x = some .free) → ∃ c v, env.cells.lookup x = some c ∧ h.IsCell c v

section
variable (prog : Program) (w : World) (C : Addr) (fa : Str → Option Addr) (X : Heap → Prop)
noncomputable def EnvR (σ : Sg) (h : Heap) (env : Env) (ρ : Rho) : Prop :=
  ∀ x d, ρ x = some d → (x == ("__debug__" : Str)) = false ∧ (x == ("__classdict__" : Str)) = false ∧ ∃ v, VarAt h env x v ∧ Rp prog w C σ v d

structure Ok (σ : Sg) (h : Heap) (env : Env) (sc : Names) (ρ : Rho) : Prop where
  sub : SubH σ h
  wd : Wd fa X h
  stat : Stat sc env
  cells : CellsAt h env sc
  vars : EnvR prog w C σ h env ρ
end

structure Room (n : Nat) (A : Around) : Prop where
  handled : A.handled = none
  depth : A.depth + n < recursionLimit
  units : A.units + 16 * n + 200 < cLine

section
variable {prog : Program} {w : World} {C : Addr}
theorem Ok.next {fa : Str → Option Addr} {X : Heap → Prop} {σ σ' : Sg} {h h' : Heap} {env : Env} {sc : Names} {ρ : Rho} (o : Ok prog w C fa X σ h env sc ρ) (n : Nx σ h σ' h') : Ok prog w C fa X σ' h' env sc ρ where
  sub := n.sub
  wd := o.wd.keep n.kept
  stat := o.stat
  cells := fun x e => let ⟨c, v, a, b⟩ := o.cells x e; ⟨c, v, a, b.keeps n.kept⟩
  vars := fun x d e => let ⟨a, b, v, p, q⟩ := o.vars x d e; ⟨a, b, v, p.keep n.kept, q.mono n.le⟩

variable (prog w C) in
noncomputable abbrev Then (σ : Sg) (s : Shared) (post : D → Prop) (Q : Value → Shared → Prop) : Prop :=
  ∀ d, post d → ∀ v σ' h' tk, Nx σ s.heap σ' h' → Rp prog w C σ' v d → Q v { s with heap := h', toks := tk }
variable (prog w C) in
noncomputable abbrev ThenB (σ : Sg) (s : Shared) (post : Bool → Prop) (Q : Bool → Shared → Prop) : Prop :=
  ∀ b, post b → ∀ σ' h' tk, Nx σ s.heap σ' h' → Q b { s with heap := h', toks := tk }

section
variable {A : Around} {E : Value → Shared → Prop} {s : Shared} {σ : Sg} {Q : Value → Shared → Prop} {post : D → Prop}

theorem Rp.int_inv {σ : Sg} {v : Value} {i : Int} (h : Rp prog w C σ v (.int i)) : ∃ t, v = .int i t := by cases h; exact ⟨_, rfl⟩
theorem Rp.flt_inv {σ : Sg} {v : Value} {i : UInt64} (h : Rp prog w C σ v (.flt i)) : ∃ t, v = .float i t := by cases h; exact ⟨_, rfl⟩
theorem Rp.str_inv {σ : Sg} {v : Value} {i : Str} (h : Rp prog w C σ v (.str i)) : ∃ t, v = .str i t := by cases h; exact ⟨_, rfl⟩
theorem Rp.byt_inv {σ : Sg} {v : Value} {i : List UInt8} (h : Rp prog w C σ v (.byt i)) : ∃ t, v = .bytes i.toArray t := by cases h; exact ⟨_, rfl⟩
theorem Rp.bool_inv {σ : Sg} {v : Value} {i : Bool} (h : Rp prog w C σ v (.bool i)) : v = .bool i := by cases h; rfl
theorem Rp.list_inv {σ : Sg} {v : Value} {ds : List D} (h : Rp prog w C σ v (.list ds)) : ∃ a vs n, v = .ref a ∧ σ a = some (listOf (vs : List Value).toArray n) ∧ RpL prog w C σ vs ds := by cases h with | list e r => exact ⟨_, _, _, rfl, e, r⟩
theorem Rp.tup_inv {σ : Sg} {v : Value} {ds : List D} (h : Rp prog w C σ v (.tup ds)) : ∃ a vs n, v = .ref a ∧ σ a = some (tupObj vs n) ∧ RpL prog w C σ vs ds := by cases h with | tup e r => exact ⟨_, _, _, rfl, e, r⟩
theorem Rp.dict_inv {σ : Sg} {v : Value} {ks : List (Int × Int)} (h : Rp prog w C σ v (.dict ks)) : ∃ a o kvs, v = .ref a ∧ σ a = some o ∧ o.IsDictOf (intKind prog w) kvs ∧ PairsAre kvs ks ∧ a ≠ sysModules := by cases h with | dict a b c d => exact ⟨_, _, _, rfl, a, b, c, d⟩
theorem RpL.nil_inv {σ : Sg} {vs : List Value} (h : RpL prog w C σ vs []) : vs = [] := by cases h; rfl
theorem RpL.cons_inv {σ : Sg} {vs : List Value} {d : D} {ds : List D} (h : RpL prog w C σ vs (d :: ds)) : ∃ v us, vs = v :: us ∧ Rp prog w C σ v d ∧ RpL prog w C σ us ds := by cases h with | cons a r => exact ⟨_, _, rfl, a, r⟩
theorem RpL.one_inv {σ : Sg} {vs : List Value} {d : D} (h : RpL prog w C σ vs [d]) : ∃ v, vs = [v] ∧ Rp prog w C σ v d := by
  obtain ⟨v, us, rfl, a, r⟩ := h.cons_inv
  rw [r.nil_inv]; exact ⟨v, rfl, a⟩
theorem RpL.two_inv {σ : Sg} {vs : List Value} {d e : D} (h : RpL prog w C σ vs [d, e]) : ∃ v u, vs = [v, u] ∧ Rp prog w C σ v d ∧ Rp prog w C σ u e := by
  obtain ⟨v, us, rfl, a, r⟩ := h.cons_inv
  obtain ⟨u, rfl, b⟩ := r.one_inv
  exact ⟨v, u, rfl, a, b⟩
theorem RpL.ints2 {σ : Sg} {vs : List Value} {x y : Int} (h : RpL prog w C σ vs [.int x, .int y]) : ∃ t u, vs = [.int x t, .int y u] := by
  obtain ⟨v, u, rfl, a, b⟩ := h.two_inv
  obtain ⟨t, rfl⟩ := a.int_inv
  obtain ⟨t', rfl⟩ := b.int_inv
  exact ⟨t, t', rfl⟩
theorem RpL.int1 {σ : Sg} {vs : List Value} {x : Int} (h : RpL prog w C σ vs [.int x]) : ∃ t, vs = [.int x t] := by
  obtain ⟨v, rfl, a⟩ := h.one_inv
  obtain ⟨t, rfl⟩ := a.int_inv
  exact ⟨t, rfl⟩

theorem isList_of {σ : Sg} {h : Heap} (s : SubH σ h) {a : Addr} {vs : List Value} {n : Nat} (e : σ a = some (listOf vs.toArray n)) : h.IsList a vs.toArray :=
  ⟨_, s _ _ e, rfl, n, rfl⟩

theorem sl {n : Nat} (h : n ≤ 1000000) : n ≤ sizeLine := Nat.le_trans h (by decide)

theorem bin_snd {n : Nat} (R : Room n A) (hs : SubH σ s.heap) {op : Operator} {a b : Value} {x y : D} (ra : Rp prog w C σ a x) (rb : Rp prog w C σ b y)
    (hp : binW op x y post) (hQ : Then prog w C σ s post Q) : wpAny (model prog w) A (binaryOp op a b) Q E s := by
  have N0 := Nx.refl hs
  unfold binW at hp
  split at hp
  · unfold binAdd at hp
    split at hp
    · obtain ⟨y, rfl, hp⟩ := isI_inv hp
      obtain ⟨_, rfl⟩ := ra.int_inv; obtain ⟨_, rfl⟩ := rb.int_inv; exact add_int (hQ _ hp _ _ _ _ N0 (.int _ _))
    · obtain ⟨y, rfl, hp⟩ := isF_inv hp
      obtain ⟨_, rfl⟩ := ra.flt_inv; obtain ⟨_, rfl⟩ := rb.flt_inv; exact add_float (hQ _ hp _ _ _ _ N0 (.flt _ _))
    · obtain ⟨y, rfl, hp⟩ := isL_inv hp
      obtain ⟨_, _, _, rfl, ea, ra⟩ := ra.list_inv
      obtain ⟨_, _, _, rfl, eb, rb⟩ := rb.list_inv
      refine PySem.P.add_list (hs _ _ ea) (hs _ _ eb) ?_ (by simp only [List.size_toArray]; rw [ra.length, rb.length]; exact sl hp.1)
      have hl := ra.append rb
      refine hQ _ hp.2 _ _ _ _ (Nx.push hs rfl) (.list (n := 0) ?_ (RpL.mono (addS_le (none_of_sub hs (get?_size _))) hl))
      rw [addS_self]; simp
    · obtain ⟨y, rfl, hp⟩ := isZ_inv hp
      obtain ⟨_, rfl⟩ := ra.str_inv; obtain ⟨_, rfl⟩ := rb.str_inv; exact add_str (fun t tk => hQ _ hp.2 _ _ _ _ N0 (.str _ _)) (sl hp.1)
    · obtain ⟨y, rfl, hp⟩ := isB_inv hp
      obtain ⟨_, rfl⟩ := ra.byt_inv; obtain ⟨_, rfl⟩ := rb.byt_inv
      refine KBy.add_bytes (by simpa using Nat.le_trans hp.1 (by decide)) fun t k => ?_
      have := hQ _ hp.2 (.bytes (_ ++ _ : List UInt8).toArray t) σ s.heap k N0 (.byt _ _)
      simpa using this
    · exact hp.elim
  · unfold binSub at hp
    split at hp
    · obtain ⟨y, rfl, hp⟩ := isI_inv hp
      obtain ⟨_, rfl⟩ := ra.int_inv; obtain ⟨_, rfl⟩ := rb.int_inv; exact sub_int (hQ _ hp _ _ _ _ N0 (.int _ _))
    · obtain ⟨y, rfl, hp⟩ := isF_inv hp
      obtain ⟨_, rfl⟩ := ra.flt_inv; obtain ⟨_, rfl⟩ := rb.flt_inv; exact sub_float (hQ _ hp _ _ _ _ N0 (.flt _ _))
    · exact hp.elim
  · unfold binMul at hp
    split at hp
    · unfold binMulI at hp
      split at hp
      · obtain ⟨_, rfl⟩ := ra.int_inv; obtain ⟨_, rfl⟩ := rb.int_inv; exact mul_int (hQ _ hp.2 _ _ _ _ N0 (.int _ _)) hp.1
      · obtain ⟨_, rfl⟩ := ra.int_inv; obtain ⟨_, rfl⟩ := rb.flt_inv; exact mul_if_fits hp.1 (hQ _ hp.2 _ _ _ _ N0 (.flt _ _))
      · exact hp.elim
    · obtain ⟨y, rfl, hp⟩ := isF_inv hp
      obtain ⟨_, rfl⟩ := ra.flt_inv; obtain ⟨_, rfl⟩ := rb.flt_inv; exact mul_float (hQ _ hp _ _ _ _ N0 (.flt _ _))
    · obtain ⟨y, rfl, hp⟩ := isI_inv hp
      obtain ⟨_, rfl⟩ := ra.str_inv; obtain ⟨_, rfl⟩ := rb.int_inv; exact SB.mul hp.1 fun t k => hQ _ hp.2 _ _ _ _ N0 (.str _ _)
    · exact hp.elim
  · obtain ⟨x, rfl, h1⟩ := isI_inv hp
    obtain ⟨y, rfl, hp⟩ := isI_inv h1
    obtain ⟨_, rfl⟩ := ra.int_inv; obtain ⟨_, rfl⟩ := rb.int_inv; exact floordiv_int hp.1.1 (hQ _ hp.2 _ _ _ _ N0 (.int _ _)) (.inl hp.1.2)
  · obtain ⟨x, rfl, h1⟩ := isI_inv hp
    obtain ⟨y, rfl, hp⟩ := isI_inv h1
    obtain ⟨_, rfl⟩ := ra.int_inv; obtain ⟨_, rfl⟩ := rb.int_inv; exact mod_int' hp.1 (hQ _ hp.2 _ _ _ _ N0 (.int _ _))
  · obtain ⟨x, rfl, h1⟩ := isI_inv hp
    obtain ⟨y, rfl, hp⟩ := isI_inv h1
    obtain ⟨_, rfl⟩ := ra.int_inv; obtain ⟨_, rfl⟩ := rb.int_inv; exact pow_int_small hp.1.1 hp.1.2.1 hp.1.2.2 (hQ _ hp.2 _ _ _ _ N0 (.int _ _))
  · obtain ⟨x, rfl, h1⟩ := isI_inv hp
    obtain ⟨y, rfl, hp⟩ := isI_inv h1
    obtain ⟨_, rfl⟩ := ra.int_inv; obtain ⟨_, rfl⟩ := rb.int_inv
    refine AutoIntOps.truediv_2 (by simpa using hp.1.1) (by simp [hp.1.2]) (hQ _ hp.2 _ _ _ _ N0 (.flt _ _))
  · exact hp.elim

theorem intsD_rp {ds : List D} {ns : List Int} (h : intsD ds = some ns) {vs : List Value} (r : RpL prog w C σ vs ds) : IntsAre vs ns := by
  induction ds generalizing ns vs with
  | nil => cases h; cases r; exact .nil
  | cons d ds ih =>
    cases d with
    | int i =>
      simp only [intsD, Option.map_eq_some_iff] at h
      obtain ⟨ms, hm, rfl⟩ := h
      cases r with
      | cons a b => cases a; exact .cons _ _ (ih hm b)
    | _ => cases h

theorem intsD_len : ∀ {ds : List D} {ns : List Int}, intsD ds = some ns → ns.length = ds.length
  | [], ns, h => by cases h; rfl
  | .int i :: r, ns, h => by
    simp only [intsD, Option.map_eq_some_iff] at h
    obtain ⟨ms, hm, rfl⟩ := h
    simp [intsD_len hm]
  | .none :: _, _, h => by cases h
  | .bool _ :: _, _, h => by cases h
  | .flt _ :: _, _, h => by cases h
  | .str _ :: _, _, h => by cases h
  | .byt _ :: _, _, h => by cases h
  | .tup _ :: _, _, h => by cases h
  | .list _ :: _, _, h => by cases h
  | .range _ _ :: _, _, h => by cases h
  | .dict _ :: _, _, h => by cases h
  | .duel _ :: _, _, h => by cases h
theorem intsD_map {ds : List D} {ns : List Int} (h : intsD ds = some ns) : ds = ns.map D.int := by
  induction ds generalizing ns with
  | nil => cases h; rfl
  | cons d ds ih =>
    cases d with
    | int i =>
      simp only [intsD, Option.map_eq_some_iff] at h
      obtain ⟨ms, hm, rfl⟩ := h
      simp [ih hm]
    | _ => cases h
theorem intsD_get {ds : List D} {ns : List Int} (h : intsD ds = some ns) {k : Nat} {d : D} (hk : ds[k]? = some d) : ∃ i, d = .int i ∧ i ∈ ns := by
  rw [intsD_map h, List.getElem?_map, Option.map_eq_some_iff] at hk
  obtain ⟨i, hi, rfl⟩ := hk
  exact ⟨i, rfl, List.mem_of_getElem? hi⟩
theorem ints_of {ds : List D} {ns : List Int} (h : intsD ds = some ns) {vs : List Value} (hl : vs.length = ds.length) (hv : ∀ (j : Nat) v, vs[j]? = some v → ∃ i t, ds[j]? = some (.int i) ∧ v = .int i t) : IntsAre vs ns := by
  induction vs generalizing ds ns with
  | nil =>
    cases ds with
    | nil => cases h; exact .nil
    | cons _ _ => cases hl
  | cons v vs ih =>
    cases ds with
    | nil => cases hl
    | cons d ds =>
      obtain ⟨i, t, h1, rfl⟩ := hv 0 v rfl
      cases h1
      simp only [intsD, Option.map_eq_some_iff] at h
      obtain ⟨ms, hm, rfl⟩ := h
      exact .cons _ _ (ih hm (by simpa using hl) fun j u hj => hv (j + 1) u hj)
theorem ints_snoc {l : List Value} {v : Value} : ∀ {ns : List Int}, IntsAre (l ++ [v]) ns → ∃ ms i, ns = ms ++ [i] ∧ IntsAre l ms ∧ ∃ t, v = .int i t := by
  induction l with
  | nil => intro ns h; cases h with | cons i t r => cases r; exact ⟨[], i, rfl, .nil, t, rfl⟩
  | cons u l ih =>
    intro ns h
    cases h with
    | cons i t r =>
      obtain ⟨ms, j, rfl, h1, h2⟩ := ih r
      exact ⟨i :: ms, j, rfl, .cons _ _ h1, h2⟩
theorem pairs_put {kvs : List (Int × Value)} {ks : List (Int × Int)} {k v : Int} {t : Tok} (h : PairsAre kvs ks) : PairsAre (stored kvs k (.int v t)) (putK k v ks) := by
  have e : kvs.any (fun kv => kv.1 = k) = ks.any (fun p => p.1 = k) := by
    induction h with
    | nil => rfl
    | cons _ ih => simp [ih]
  unfold stored putK
  rw [e]
  split
  · rename_i hh
    clear e hh
    induction h with
    | nil => exact .nil
    | @cons a b c r q h ih =>
      simp only [List.map_cons]
      split
      · exact .cons ih
      · exact .cons ih
  · rename_i hh
    clear e hh
    induction h with
    | nil => exact .cons .nil
    | cons h ih => exact .cons ih

theorem pairs_len {kvs : List (Int × Value)} {ks : List (Int × Int)} (h : PairsAre kvs ks) : kvs.length = ks.length := by
  induction h with
  | nil => rfl
  | cons _ ih => simp [ih]
theorem pairs_val {kvs : List (Int × Value)} {ks : List (Int × Int)} (h : PairsAre kvs ks) (hn : (ks.map (·.1)).Nodup) : ∀ {k i : Int}, (k, i) ∈ ks → ∃ u, valueAt kvs k = some (.int i u) := by
  induction h with
  | nil => exact fun h => nomatch h
  | @cons a b c r q h ih =>
    intro k i hm
    simp only [List.map_cons, List.nodup_cons] at hn
    unfold valueAt
    rcases List.mem_cons.mp hm with e | e
    · cases e
      exact ⟨c, by simp⟩
    · obtain ⟨u, hu⟩ := ih hn.2 e
      have hne : ¬ a = k := by
        rintro rfl
        exact hn.1 (List.mem_map_of_mem (f := (·.1)) e)
      refine ⟨u, ?_⟩
      rw [List.find?_cons_of_neg (by simpa using hne)]
      exact hu
theorem hits_of {A : Around} {s : Shared} {kb : List (Int × Value)} {ks : List (Int × Int)} (hb : ∀ {k i : Int}, (k, i) ∈ ks → ∃ u, valueAt kb k = some (.int i u)) {ka : List (Int × Value)} {js : List (Int × Int)} (pa : PairsAre ka js) : (∀ p, p ∈ js → p ∈ ks) → KeqHits A s kb ka true := by
  induction pa with
  | nil => exact fun _ => .nil
  | @cons a b c r q h ih =>
    intro hm
    obtain ⟨u, hu⟩ := hb (hm _ List.mem_cons_self)
    have := KeqHits.hit (A := A) (s := s) (kb := kb) (v := .int b c) (e := true) hu (by simpa using SeqAt.EqAt.int_int (A := A) (s := s) b c b u) (ih fun p hp => hm p (List.mem_cons_of_mem _ hp))
    simpa using this
theorem hits_self {A : Around} {s : Shared} {ka kb : List (Int × Value)} {ks : List (Int × Int)} (pa : PairsAre ka ks) (pb : PairsAre kb ks) (hn : (ks.map (·.1)).Nodup) : KeqHits A s kb ka true :=
  hits_of (fun h => pairs_val pb hn h) pa fun _ h => h

theorem pairs_reads {h : Heap} {es : List DictEntry} {kvs : List (Int × Value)} {ks : List (Int × Int)} (x : Pairs (intKind prog w) es kvs) (y : PairsAre kvs ks) :
    (∃ as, ReadsAll h (es.map (·.key)) (ks.map fun p => .int p.1) as) ∧ ∃ bs, ReadsAll h (es.map (·.val)) (ks.map fun p => .int p.2) bs := by
  induction x generalizing ks with
  | nil => cases y; exact ⟨⟨_, .nil⟩, _, .nil⟩
  | @cons e kv es kvs h1 h2 h3 ih =>
    cases y with
    | cons q =>
      obtain ⟨⟨as, i1⟩, bs, i2⟩ := ih q
      obtain ⟨t, ht⟩ := Value.isInt_shape h1
      simp only [List.map_cons, ht, h2]
      exact ⟨⟨_, .cons (.int _ _) i1⟩, _, .cons (.int _ _) i2⟩

mutual
theorem reads_of {σ : Sg} {h : Heap} (hs : SubH σ h) : ∀ {d : D} {p : PyData}, pyD d = some p → ∀ {v : Value}, Rp prog w C σ v d → ∃ as, Reads h v p as
  | .int i, p, e, v, r => by cases e; cases r; exact ⟨_, .int _ _⟩
  | .list ds, p, e, v, r => by
    simp only [pyD, Option.map_eq_some_iff] at e
    obtain ⟨xs, hx, rfl⟩ := e
    cases r with
    | list ea ra =>
      obtain ⟨as, q⟩ := readsAll_of hs hx ra
      exact ⟨_, .list (hs _ _ ea) rfl rfl (by simpa using q)⟩
  | .tup ds, p, e, v, r => by
    simp only [pyD, Option.map_eq_some_iff] at e
    obtain ⟨xs, hx, rfl⟩ := e
    cases r with
    | tup ea ra =>
      obtain ⟨as, q⟩ := readsAll_of hs hx ra
      exact ⟨_, .tuple (hs _ _ ea) rfl rfl (by simpa using q)⟩
  | .dict kvs, p, e, v, r => by
    cases e
    cases r with
    | dict ea hd hp hn =>
      obtain ⟨es, ep, hx, hdat, _, hps, _⟩ := hd
      obtain ⟨⟨as, h1⟩, bs, h2⟩ := pairs_reads (h := h) hps hp
      refine ⟨_, .dict (hs _ _ ea) hx.1 hdat (as := as) (bs := bs) ?_ ?_⟩
      · simpa [Function.comp_def] using h1
      · simpa [Function.comp_def] using h2
  | .none, _, e, _, _ => by cases e
  | .bool _, _, e, _, _ => by cases e
  | .flt _, _, e, _, _ => by cases e
  | .str _, _, e, _, _ => by cases e
  | .byt _, _, e, _, _ => by cases e
  | .range _ _, _, e, _, _ => by cases e
  | .duel _, _, e, _, _ => by cases e
theorem readsAll_of {σ : Sg} {h : Heap} (hs : SubH σ h) : ∀ {ds : List D} {ps : List PyData}, pyD.go ds = some ps → ∀ {vs : List Value}, RpL prog w C σ vs ds → ∃ as, ReadsAll h vs ps as
  | [], ps, e, vs, r => by cases e; cases r; exact ⟨_, .nil⟩
  | d :: ds, ps, e, vs, r => by
    simp only [pyD.go] at e
    split at e
    · rename_i x xs h1 h2
      cases e
      cases r with
      | cons a b =>
        obtain ⟨as, q⟩ := reads_of hs h1 a
        obtain ⟨bs, q'⟩ := readsAll_of hs h2 b
        exact ⟨_, .cons q q'⟩
    · cases e
end

theorem gt_pair (hu : A.units < cLine) {a b : Addr} {x y u v : Int} {t1 t2 t3 t4 : Tok} {n m : Nat} {Q : Value → Shared → Prop} (ha : s.heap.get? a = some (tupObj [.int x t1, .int y t2] n)) (hb : s.heap.get? b = some (tupObj [.int u t3, .int v t4] m))
    (h : Q (.bool (if x == u then decide (v < y) else decide (u < x))) s) : wpAny (model prog w) A (compareOp .Gt (.ref a) (.ref b)) Q E s := by
  show wpAny _ _ (richCompare .Gt (.ref a) (.ref b)) Q E s
  refine wpAny_richCompare_same_room (op := .Gt) (T := "tuple") ⟨_, ha, rfl⟩ ⟨_, hb, rfl⟩ PySem.F.slot_tuple_gt ?_ hu
  refine wpAny_call_entry PySem.F.slot_tuple_gt (T := "tuple") ⟨_, ha, rfl⟩ PySem.F.entry_tuple_gt ?_ (PySem.F.args_tuple_gt_2 _ _)
  show wpAny _ _ (isInstance (.ref b) (.type "tuple") >>= _) _ _ s
  refine wpAny_bind (wpAny_isInstance (T := "tuple") ⟨_, hb, rfl⟩ isSubtype_tuple_tuple ?_)
  simp only [Bool.not_true, Bool.false_eq_true, if_false]
  refine wpAny_bind (wpAny_tupleItemsOf ha rfl ?_)
  refine wpAny_bind (wpAny_tupleItemsOf hb rfl ?_)
  refine wpAny_bind ?_
  simp only [List.zip_cons_cons, List.zip_nil_right, List.forIn_cons, List.forIn_nil]
  refine wpAny_bind (wpAny_bind (wpAny_eqBool_int ?_))
  have gt : ∀ {p q : Int} {t t' : Tok} {Q : Value → Shared → Prop}, Q (.bool (decide (q < p))) s → wpAny (model prog w) A.in1 (richCompare .Gt (.int p t) (.int q t')) Q E s := fun h => gt_int h
  cases hx : (x == u) with
  | true =>
    rw [hx] at h
    simp only [Bool.not_true, Bool.false_eq_true, if_false]
    refine wpAny_pure ?_
    dsimp only
    refine wpAny_bind (wpAny_bind (wpAny_eqBool_int ?_))
    cases hy : (y == v) with
    | true =>
      simp only [Bool.not_true, Bool.false_eq_true, if_false]
      refine wpAny_pure (wpAny_pure (wpAny_pure ⟨_, rfl, (fun x => nomatch x), ?_⟩))
      have : y = v := by simpa using hy
      subst this
      have h' : Q (.bool false) s := by simpa using h
      exact h'
    | false =>
      simp only [Bool.not_false, if_true]
      refine wpAny_bind (wpAny_rule (wpAny_bind (gt ?_)))
      exact wpAny_bind (wpAny_pure (wpAny_pure (wpAny_pure (wpAny_pure ⟨_, rfl, (fun x => nomatch x), by simpa using h⟩))))
  | false =>
    rw [hx] at h
    simp only [Bool.not_false, if_true]
    refine wpAny_bind (wpAny_rule (wpAny_bind (gt ?_)))
    exact wpAny_bind (wpAny_pure (wpAny_pure (wpAny_pure (wpAny_pure ⟨_, rfl, (fun x => nomatch x), by simpa using h⟩))))

theorem any_ints_eq (k : Int) {vs : List Value} {ns : List Int} (h : IntsAre vs ns) : vs.any (fun y => match y with | .int i _ => i == k | _ => false) = ns.contains k := by
  induction h with
  | nil => rfl
  | cons i t r ih => simp only [List.any_cons, List.contains_cons, ih]; congr 1; exact Bool.beq_comm

variable {Qb : Bool → Shared → Prop} {postb : Bool → Prop}

theorem cmp_snd {n : Nat} (R : Room n A) (hs : SubH σ s.heap) {op : CmpOp} {a b : Value} {x y : D} (ra : Rp prog w C σ a x) (rb : Rp prog w C σ b y)
    (hp : cmpW op x y postb) (hQ : ∀ c, postb c → ∀ tk, Q (.bool c) { s with toks := tk }) : wpAny (model prog w) A (compareOp op a b) Q E s := by
  have hQ' : ∀ c, postb c → Q (.bool c) s := fun c hc => hQ c hc s.toks
  unfold cmpW at hp
  split at hp
  · unfold cmpEq at hp
    split at hp
    · obtain ⟨y, rfl, hp⟩ := isI_inv hp
      obtain ⟨_, rfl⟩ := ra.int_inv; obtain ⟨_, rfl⟩ := rb.int_inv; exact eq_int (hQ' _ hp)
    · obtain ⟨y, rfl, hp⟩ := isZ_inv hp
      obtain ⟨_, rfl⟩ := ra.str_inv; obtain ⟨_, rfl⟩ := rb.str_inv; exact PySem.P.eq_str (hQ' _ hp)
    · exact hp.elim
  · unfold cmpNe at hp
    split at hp
    · obtain ⟨y, rfl, hp⟩ := isI_inv hp
      obtain ⟨_, rfl⟩ := ra.int_inv; obtain ⟨_, rfl⟩ := rb.int_inv; exact ne_int (hQ' _ hp)
    · obtain ⟨y, rfl, hp⟩ := isZ_inv hp
      obtain ⟨_, rfl⟩ := ra.str_inv; obtain ⟨_, rfl⟩ := rb.str_inv; exact PySem.P.ne_str (hQ' _ hp)
    · obtain ⟨ls, rfl, h1⟩ := isK_inv hp
      obtain ⟨⟨rfl, hnd⟩, h2⟩ := h1
      obtain ⟨_, _, _, rfl, ea, da, pa, na⟩ := ra.dict_inv
      obtain ⟨_, _, _, rfl, eb, db, pb, nb⟩ := rb.dict_inv
      refine keq_ne (knd := intKind prog w) (r := true) (beq_eq_false_iff_ne.mpr na) (beq_eq_false_iff_ne.mpr nb) (Heap.dictOf_iff.mpr ⟨_, hs _ _ ea, da⟩) (Heap.dictOf_iff.mpr ⟨_, hs _ _ eb, db⟩) (by have := R.units; omega) (fun _ => hits_self pa pb hnd) ?_
      rw [pairs_len pa, pairs_len pb, beq_self_eq_true]
      exact hQ' _ h2
    · unfold cmpData at hp
      split at hp
      · rename_i p q hx hy
        obtain ⟨as, r1⟩ := reads_of hs hx ra
        obtain ⟨bs, r2⟩ := reads_of hs hy rb
        exact ne_dataH r1 r2 hp.1.1 hp.1.2 (by have := R.units; omega) (hQ' _ hp.2)
      · exact hp.elim
    · exact hp.elim
  · unfold cmpLt at hp
    split at hp
    · obtain ⟨y, rfl, hp⟩ := isI_inv hp
      obtain ⟨_, rfl⟩ := ra.int_inv; obtain ⟨_, rfl⟩ := rb.int_inv; exact lt_int (hQ' _ hp)
    · obtain ⟨y, rfl, hp⟩ := isF_inv hp
      obtain ⟨_, rfl⟩ := ra.flt_inv; obtain ⟨_, rfl⟩ := rb.flt_inv; exact AutoFloatOps.lt_0 (hQ' _ hp)
    · exact hp.elim
  · obtain ⟨x, rfl, h1⟩ := isI_inv hp
    obtain ⟨y, rfl, hp⟩ := isI_inv h1
    obtain ⟨_, rfl⟩ := ra.int_inv; obtain ⟨_, rfl⟩ := rb.int_inv; exact le_int (hQ' _ hp)
  · unfold cmpGt at hp
    split at hp
    · obtain ⟨y, rfl, hp⟩ := isI_inv hp
      obtain ⟨_, rfl⟩ := ra.int_inv; obtain ⟨_, rfl⟩ := rb.int_inv; exact gt_int (hQ' _ hp)
    · obtain ⟨y, rfl, hp⟩ := isF_inv hp
      obtain ⟨_, rfl⟩ := ra.flt_inv; obtain ⟨_, rfl⟩ := rb.flt_inv; exact AutoFloatOps.gt_0 (hQ' _ hp)
    · obtain ⟨x, y, rfl, h1⟩ := pair2_inv hp
      obtain ⟨zs, rfl, h2⟩ := isT_inv h1
      obtain ⟨u, v, rfl, hp⟩ := pair2_inv h2
      obtain ⟨_, _, _, rfl, ea, ra⟩ := ra.tup_inv
      obtain ⟨_, _, _, rfl, eb, rb⟩ := rb.tup_inv
      obtain ⟨_, _, rfl⟩ := ra.ints2
      obtain ⟨_, _, rfl⟩ := rb.ints2
      exact gt_pair (by have := R.units; omega) (hs _ _ ea) (hs _ _ eb) (hQ' _ hp)
    · exact hp.elim
  · obtain ⟨x, rfl, h1⟩ := isI_inv hp
    obtain ⟨y, rfl, hp⟩ := isI_inv h1
    obtain ⟨_, rfl⟩ := ra.int_inv; obtain ⟨_, rfl⟩ := rb.int_inv; exact ge_int (hQ' _ hp)
  · obtain ⟨k, rfl, h1⟩ := isI_inv hp
    obtain ⟨ys, rfl, h2⟩ := isL_inv h1
    have hp : cmpIn k ys postb := h2
    unfold cmpIn at hp
    obtain ⟨_, rfl⟩ := ra.int_inv
    split at hp
    · rename_i ns hn
      obtain ⟨_, _, _, rfl, eb, rb⟩ := rb.list_inv
      have hi := intsD_rp hn rb
      refine PySem.SeqInW.notIn_listW (fun y => match y with | .int i _ => i == k | _ => false) (fun y hy => ?_) (isList_of hs eb) ?_
      · obtain ⟨i, t, rfl⟩ := hi.allInts y hy
        exact PySem.MeetsSeq.EqGives.int _ _ _ _
      · rw [← Array.any_toList, any_ints_eq _ hi]; exact hQ' _ hp
    · exact hp.elim
  · exact hp.elim

theorem truthy_snd {d : D} {v : Value} (r : Rp prog w C σ v d) (hp : truthyW d postb) (hQ : ∀ c, postb c → Qb c s) : wpAny (model prog w) A (truthy v) Qb E s := by
  unfold truthyW at hp
  split at hp
  · rw [r.bool_inv]; exact wpAny_truthy_bool (hQ _ hp)
  · obtain ⟨_, rfl⟩ := r.int_inv; exact truthy_int (hQ _ hp)
  · exact hp.elim

theorem getElem?_eq_some_getElem!_of {x : Str} {i : Int} (h2 : i < (x.length : Int)) (h1 : 0 ≤ i) : x.cps[i.toNat]? = some x.cps[i.toNat]! := by
  have h : i.toNat < x.cps.size := by have : x.length = x.cps.size := rfl; omega
  rw [Array.getElem?_eq_getElem h, getElem!_pos x.cps i.toNat h]
theorem item_snd {value slice : Expr} (hsl : ∀ o i, subscripted slice false o i = operate [o, i] (getItem o i)) (hs : SubH σ s.heap) {a i : Value} {x k : D} (ra : Rp prog w C σ a x) (ri : Rp prog w C σ i k) (hp : itemW x k post)
    (hQ : Then prog w C σ s post Q) : wpAny (model prog w) A (subscriptTail value slice a i) Q E s := by
  have N0 := Nx.refl hs
  cases k with
  | int i =>
    cases x with
    | list ds =>
      replace hp : ((-1000000 ≤ i ∧ i ≤ 1000000 ∧ ds.length ≤ 1000000) ∧ (match atD ds i with | some d => post d | none => False)) := hp
      obtain ⟨⟨h1, h2, h3⟩, hp⟩ := hp
      obtain ⟨_, rfl⟩ := ri.int_inv
      obtain ⟨_, _, _, rfl, ea, ra⟩ := ra.list_inv
      have hl := isList_of hs ea
      split at hp
      · rename_i d hd
        unfold atD at hd
        split at hd
        · rename_i hneg
          split at hd
          · cases hd
          · rename_i hge
            obtain ⟨v, hv, hr⟩ := ra.get hd
            have hlen := ra.length
            refine tail_any hl.typeIs slot_list_getitem.lookup (wpAny_getItem_list_neg hl hneg (by simp only [List.size_toArray]; omega) (by omega) (by simp only [List.size_toArray, hlen]; simpa using hv) (hQ _ hp _ _ _ _ N0 hr)) (hsl _ _)
        · rename_i hneg
          obtain ⟨v, hv, hr⟩ := ra.get hd
          exact tail_any hl.typeIs slot_list_getitem.lookup (wpAny_getItem_list hl (by omega) (by omega) (by simpa using hv) (hQ _ hp _ _ _ _ N0 hr)) (hsl _ _)
      · exact hp.elim
    | tup ds =>
      replace hp : ((0 ≤ i ∧ i ≤ 1000000) ∧ (match ds[i.toNat]? with | some d => post d | none => False)) := hp
      obtain ⟨⟨h1, h2⟩, hp⟩ := hp
      obtain ⟨_, rfl⟩ := ri.int_inv
      obtain ⟨_, _, _, rfl, ea, ra⟩ := ra.tup_inv
      split at hp
      · rename_i d hd
        obtain ⟨v, hv, hr⟩ := ra.get hd
        have ht := hs _ _ ea
        refine tail_any (T := "tuple") ⟨_, ht, rfl⟩ PySem.F.slot_tuple_getitem.lookup (PySem.P.getItem_tuple ht (by omega) (by omega) (k := _) (seqIndex_of h1 ?_) (by simpa using hv) (hQ _ hp _ _ _ _ N0 hr)) (hsl _ _)
        have := (List.getElem?_eq_some_iff.mp hv).1
        simp only [List.size_toArray]; omega
      · exact hp.elim
    | str x =>
      replace hp : ((0 ≤ i ∧ i < x.length ∧ x.length ≤ 1000000) ∧ post (.str ⟨#[x.cps[i.toNat]!]⟩)) := hp
      obtain ⟨⟨h1, h2, h3⟩, hp⟩ := hp
      obtain ⟨_, rfl⟩ := ri.int_inv
      obtain ⟨_, rfl⟩ := ra.str_inv
      refine tail_any (T := "str") (typeIs_str _ _ _) PySem.F.slot_str_getitem.lookup (PySem.P.getItem_str (c := _) ?_ ?_ (hQ _ hp _ _ _ _ N0 (.str _ _))) (hsl _ _)
      · simp only [Bool.or_eq_false_iff, decide_eq_false_iff_not]; omega
      · rw [seqIndex_of h1 (by exact h2)]
        simp only [Option.bind_some]
        exact getElem?_eq_some_getElem!_of h2 h1
    | byt x =>
      replace hp : ((0 ≤ i ∧ i < x.length ∧ x.length ≤ 1000000) ∧ post (.int ((x.getD i.toNat 0).toNat : Int))) := hp
      obtain ⟨⟨h1, h2, h3⟩, hp⟩ := hp
      obtain ⟨_, rfl⟩ := ri.int_inv
      obtain ⟨_, rfl⟩ := ra.byt_inv
      exact tail_any (T := "bytes") (typeIs_bytes _ _ _) FB.slot_bytes_getitem.lookup (getItem_bytes (by omega) h1 h2 (hQ _ hp _ _ _ _ N0 (.int _ _))) (hsl _ _)
    | _ => exact False.elim hp
  | _ => cases x <;> exact False.elim hp
end
end
end Mine.Internal

namespace Mine.Internal
section
variable {prog : Program} {w : World} {C : Addr} {A : Around} {E : Value → Shared → Prop} {s : Shared} {σ : Sg} {Q : Value → Shared → Prop} {post : D → Prop}

theorem picked_rp {vs : List Value} {ds : List D} (h : RpL prog w C σ vs ds) : ∀ idx : List Nat, ∃ es, RpL prog w C σ (idx.filterMap (vs[·]?)) es ∧ ∀ d, d ∈ es → d ∈ ds
  | [] => ⟨[], .nil, fun _ h => nomatch h⟩
  | i :: r => by
    obtain ⟨es, h1, h2⟩ := picked_rp h r
    rw [List.filterMap_cons]
    cases hv : vs[i]? with
    | none => exact ⟨es, by simpa using h1, h2⟩
    | some v =>
      have hi : i < ds.length := by rw [← h.length]; exact (List.getElem?_eq_some_iff.mp hv).1
      obtain ⟨u, hu, hr⟩ := h.get (List.getElem?_eq_getElem hi)
      rw [hv] at hu; cases hu
      exact ⟨ds[i] :: es, .cons hr h1, fun d hd => by
        rcases List.mem_cons.mp hd with rfl | hd
        · exact List.getElem_mem hi
        · exact h2 d hd⟩
theorem slice_snd {value : Expr} {lo hi st : Option Expr} {sp : Pos} (hs : SubH σ s.heap) {a : Value} {x : D} {l h t : Option D} {vl vh vt : Value}
    (ra : Rp prog w C σ a x) (rl : ∀ d, l = some d → Rp prog w C σ vl d) (rl0 : l = none → vl = .none) (rh : ∀ d, h = some d → Rp prog w C σ vh d) (rh0 : h = none → vh = .none)
    (rt : ∀ d, t = some d → Rp prog w C σ vt d) (rt0 : t = none → vt = .none) (hp : sliceW x l h t post) (hQ : Then prog w C σ s post Q) :
    wpAny (model prog w) A (subscriptTail value (.Slice lo hi st sp) a (.ref s.heap.objs.size)) Q E { s with heap := s.heap.push { cls := .type "slice", data := .fields #[vl, vh, vt] } } := by
  have hk : Kept s.heap (s.heap.push { cls := .type "slice", data := .fields #[vl, vh, vt] }) := .push _ _
  have N1 : Nx σ s.heap σ (s.heap.push { cls := .type "slice", data := .fields #[vl, vh, vt] }) := Nx.grow hs hk
  have hs1 := N1.sub
  have hsl : ∃ ops, subscripted (.Slice lo hi st sp) false a (.ref s.heap.objs.size) = operate ops (getItem a (.ref s.heap.objs.size)) := by
    cases st <;> exact ⟨_, rfl⟩
  obtain ⟨ops, hsl⟩ := hsl
  unfold sliceW at hp
  obtain ⟨l, rfl, h1⟩ := optI_inv hp
  obtain ⟨h, rfl, h2⟩ := optI_inv h1
  obtain ⟨t, rfl, h3⟩ := optI_inv h2
  replace hp := h3
  clear h1 h2 h3
  have inv : ∀ {o : Option Int} {v : Value}, (∀ d, o.map D.int = some d → Rp prog w C σ v d) → ∀ i, o = some i → ∃ t, v = .int i t := fun hr i e => by
    subst e; exact (hr _ rfl).int_inv
  split at hp
  · rename_i y
    unfold sliceT at hp
    split at hp
    · rename_i i
      obtain ⟨ti, rfl⟩ := inv rh _ rfl
      cases rt0 rfl
      obtain ⟨ty, rfl⟩ := ra.str_inv
      have main : ∀ lv : Option (Int × Tok), l = lv.map (·.1) → vl = (match lv with | some p => .int p.1 p.2 | none => .none) → wpAny (model prog w) A (subscriptTail value (.Slice lo hi st sp) (.str y ty) (.ref s.heap.objs.size)) Q E { s with heap := s.heap.push { cls := .type "slice", data := .fields #[vl, .int i ti, .none] } } := by
        intro lv e1 e2
        subst e1
        subst e2
        refine tail_any (T := "str") (typeIs_str _ _ _) PySem.F.slot_str_getitem.lookup (wpAny_getItem_str_slice (l := lv) (u := some (i, ti)) (st := none) ⟨_, Heap.get?_push_size _ rfl, rfl, ?_⟩ rfl ?_) hsl
        · cases lv <;> rfl
        have e : PySem.slicePicked y lv (some (i, ti)) none = PySem.slicePicked y ((lv.map (·.1)).map fun i => (i, 0)) (some (i, 0)) none := by cases lv <;> rfl
        have hq := hQ _ hp.2
        have hz := hp.1
        unfold strCut at hq hz
        unfold sliceMade
        simp only [Option.map_none, Option.map_some, Option.getD_none, BEq.rfl, Bool.true_and, e] at hq hz ⊢
        split
        · rename_i hc; rw [if_pos hc] at hq; exact hq _ σ _ _ N1 (.str _ _)
        · rename_i hc; rw [if_neg hc] at hq hz; exact ⟨sl hz, hq _ σ _ _ N1 (.str _ _)⟩
      cases l with
      | none => exact main none rfl (rl0 rfl)
      | some j =>
        obtain ⟨tj, e⟩ := inv rl _ rfl
        exact main (some (j, tj)) rfl e
    · exact hp.elim
  · rename_i y
    unfold sliceB at hp
    split at hp
    · rename_i j i
      obtain ⟨ti, rfl⟩ := inv rh _ rfl
      obtain ⟨tj, rfl⟩ := inv rl _ rfl
      cases rt0 rfl
      obtain ⟨_, rfl⟩ := ra.byt_inv
      refine tail_any (T := "bytes") (typeIs_bytes _ _ _) FB.slot_bytes_getitem.lookup (getItem_meets (typeIs_bytes _ _ _) (by decide) FB.slot_bytes_getitem FB.entry_bytes_getitem (FB.args_bytes_getitem_2 _ _) (KBc.meets_slice2 _ _ _ (.int j tj) (.int i ti))
        ⟨Heap.IsSliceOf.new _ _ _ _, Nat.le_trans (KBc.size_picked_le _ _ _) (by simpa using sl hp.1), fun t k => ?_⟩) hsl
      have := hQ _ hp.2 (.bytes (KBy.picked y.toArray (some j) (some i)).toList.toArray t) σ _ k N1 (.byt _ _)
      simpa using this
    · exact hp.elim
  · rename_i ds
    unfold sliceL at hp
    split at hp
    · rename_i j i k
      obtain ⟨ti, rfl⟩ := inv rh _ rfl
      obtain ⟨tj, rfl⟩ := inv rl _ rfl
      obtain ⟨tk, rfl⟩ := inv rt _ rfl
      obtain ⟨_, vs, _, rfl, ea, ra⟩ := ra.list_inv
      have hl := isList_of hs1 ea
      refine tail_any hl.typeIs slot_list_getitem.lookup (wpAny_getItem_list_slice hl (Heap.IsSliceOf.new _ _ _ _) (.int j tj) (.int i ti) (.int k tk) (by simpa using hp.1.1) ?_ (by simp only [List.size_toArray]; rw [ra.length]; exact sl hp.1.2)) hsl
      obtain ⟨es, h1, h2⟩ := picked_rp ra (sliceRange (sliceBounds (some j) (some i) (some k) vs.toArray.size).1 (sliceBounds (some j) (some i) (some k) vs.toArray.size).2.1 (sliceBounds (some j) (some i) (some k) vs.toArray.size).2.2)
      have hz := slicePick_size_le vs.toArray (some j) (some i) (some k)
      have e : slicePick vs.toArray (some j) (some i) (some k) = ((sliceRange (sliceBounds (some j) (some i) (some k) vs.toArray.size).1 (sliceBounds (some j) (some i) (some k) vs.toArray.size).2.1 (sliceBounds (some j) (some i) (some k) vs.toArray.size).2.2).filterMap (vs[·]?)).toArray := by
        unfold slicePick; simp
      rw [e] at hz ⊢
      generalize (List.filterMap (fun i : Nat => vs[i]?) _) = us at *
      have N2 := N1.trans (Nx.push (o := { cls := .type "list", data := .seq us.toArray }) hs1 rfl)
      refine hQ _ (hp.2 es h2 ?_) _ _ _ _ N2 (.list (n := 0) (addS_self _ _ _) (h1.mono N2.le))
      rw [← h1.length, ← ra.length]; simpa using hz
    · exact hp.elim
  · exact hp.elim

theorem rp_ints {ns : List Int} : ∀ {vs : List Value}, IntsAre vs ns → RpL prog w C σ vs (ns.map D.int) := by
  intro vs h
  induction h with
  | nil => exact .nil
  | cons i t r ih => exact .cons (.int _ _) ih

theorem builtin_snd {n : Nat} (R : Room n A) (hs : SubH σ s.heap) {vs : List Value} {ds : List D} (r : RpL prog w C σ vs ds) {f : Str} {v : Value} (hv : builtinVal f = some v)
    (hf : f ≠ "isinstance" ∧ f ≠ "tuple") {Φ : Tab} (hp : callW Φ f ds post) (hQ : Then prog w C σ s post Q) : wpAny (model prog w) A (call v vs) Q E s := by
  have N0 := Nx.refl hs
  unfold callW at hp
  unfold builtinVal at hv
  split at hp
  · rename_i h; rw [if_pos h] at hv; cases hv
    unfold cRange at hp
    split at hp
    · obtain ⟨i, e, h1⟩ := one1_int hp
      rw [e] at r
      obtain ⟨_, rfl⟩ := r.int1
      exact call_range_1 (hQ _ h1 _ _ _ _ (Nx.push hs rfl) (.range (addS_self _ _ _)))
    · obtain ⟨i, j, rfl, h1⟩ := two2_ints hp
      obtain ⟨_, _, rfl⟩ := r.ints2
      exact call_range_2 (hQ _ h1 _ _ _ _ (Nx.push hs rfl) (.range (addS_self _ _ _)))
  rename_i h1; rw [if_neg h1] at hv
  split at hp
  · rename_i h; rw [if_pos h] at hv; cases hv
    obtain ⟨d, rfl, h2⟩ := one1_inv hp
    replace hp : lenD d post := h2
    clear h2
    obtain ⟨_, rfl, a⟩ := r.one_inv
    unfold lenD at hp
    split at hp
    · obtain ⟨_, vs0, _, rfl, ea, ra⟩ := a.list_inv
      refine PyProof.Rows.len_list (isList_of hs ea) (by simp only [List.size_toArray]; rw [ra.length]; have := hp.1; omega) ?_
      have := hQ _ hp.2 (.int _ (s.toks + 1)) σ s.heap (s.toks + 1 + 1) N0 (.int _ _)
      simp only [List.size_toArray]; rw [ra.length]; exact this
    · obtain ⟨_, rfl⟩ := a.str_inv
      exact PyProof.Rows.len_str (by have := hp.1; omega) (hQ _ hp.2 _ _ _ _ N0 (.int _ _))
    · exact hp.elim
  rename_i h2; rw [if_neg h2] at hv
  split at hp
  · rename_i h; rw [if_pos h] at hv; cases hv
    obtain ⟨d, rfl, h2⟩ := one1_inv hp
    obtain ⟨ds, rfl, h3⟩ := isL_inv h2
    replace h3 : sumD ds post := h3
    obtain ⟨_, rfl, a⟩ := r.one_inv
    unfold sumD at h3
    split at h3
    · rename_i ns hn
      obtain ⟨_, vs0, _, rfl, ea, ra⟩ := a.list_inv
      have hi := intsD_rp hn ra
      obtain ⟨xs, hx⟩ := hi.allInts.items
      have hn : numsOf vs0.toArray.toList = ns := by rw [show vs0.toArray.toList = vs0 from rfl, hi.numsOf]
      have hl := isList_of hs ea
      rw [hx] at hl hn
      rw [nums_intItems] at hn
      refine sum_intListG R.handled hl fun h' tk t' hk => ?_
      rw [preSum_eq, List.take_of_length_le (by simp), hn]
      exact hQ _ h3 _ _ _ _ (Nx.grow hs hk) (.int _ _)
    · exact h3.elim
  rename_i h3; rw [if_neg h3] at hv
  split at hp
  · rename_i h; rw [if_pos h] at hv; cases hv
    obtain ⟨d, rfl, h2⟩ := one1_inv hp
    obtain ⟨x, rfl, h4⟩ := isF_inv h2
    obtain ⟨_, rfl, a⟩ := r.one_inv
    obtain ⟨_, rfl⟩ := a.flt_inv
    refine PySem.Flt.call_round_float R.handled ?_ ?_ fun _ => hQ _ h4.2 _ _ _ _ N0 (.int _ _)
    · intro h; rw [PySem.Flt.not_nan_of_finite h4.1] at h; cases h
    · intro h; have := h4.1; unfold Float64.isFinite at this; unfold Float64.isInf at h; split at this <;> simp_all
  rename_i h4; rw [if_neg h4] at hv
  split at hp
  · rename_i h; rw [if_pos h] at hv; cases hv
    obtain ⟨i, j, rfl, hp'⟩ := two2_ints hp
    replace hp := hp'
    obtain ⟨_, _, rfl⟩ := r.ints2
    refine min_two_ints R.handled fun h' tk hk => ?_
    have hq := hQ _ hp
    split <;> rename_i hc
    · rw [if_pos hc] at hq; exact hq _ _ _ _ (Nx.grow hs hk) (.int _ _)
    · rw [if_neg hc] at hq; exact hq _ _ _ _ (Nx.grow hs hk) (.int _ _)
  rename_i h5; rw [if_neg h5] at hv
  split at hp
  · rename_i h; rw [if_pos h] at hv; cases hv
    obtain ⟨i, j, rfl, hp'⟩ := two2_ints hp
    replace hp := hp'
    obtain ⟨_, _, rfl⟩ := r.ints2
    refine max_two_ints R.handled fun h' tk hk => ?_
    have hq := hQ _ hp
    split <;> rename_i hc
    · rw [if_pos hc] at hq; exact hq _ _ _ _ (Nx.grow hs hk) (.int _ _)
    · rw [if_neg hc] at hq; exact hq _ _ _ _ (Nx.grow hs hk) (.int _ _)
  rename_i h6; rw [if_neg h6] at hv
  split at hp
  · rename_i h; rw [if_pos h] at hv; cases hv
    obtain ⟨i, rfl, hp'⟩ := one1_int hp
    replace hp := hp'
    obtain ⟨_, rfl⟩ := r.int1
    exact call_abs_int fun u tk => hQ _ hp _ _ _ _ N0 (.int _ _)
  rename_i h7; rw [if_neg h7] at hv
  split at hp
  · rename_i h; rw [if_pos h] at hv; cases hv
    obtain ⟨i, rfl, hp'⟩ := one1_int hp
    replace hp := hp'
    obtain ⟨_, rfl⟩ := r.int1
    exact call_int_int (hQ _ hp _ _ _ _ N0 (.int _ _))
  rename_i h8; rw [if_neg h8] at hv
  split at hp
  · rename_i h; rw [if_pos h] at hv; cases hv
    obtain ⟨i, j, rfl, hp'⟩ := two2_ints hp
    replace hp := hp'
    obtain ⟨_, _, rfl⟩ := r.ints2
    refine divmod_int hp.1.1 (hQ _ hp.2 _ _ _ _ (Nx.push hs rfl) (.tup (n := 0) ?_ (.cons (.int _ s.toks) (.cons (.int _ (s.toks + 1)) .nil)))) (.inl hp.1.2)
    rw [addS_self]
  rename_i h9; rw [if_neg h9] at hv
  rw [if_neg hf.1, if_neg hf.2] at hv
  cases hv
end
end Mine.Internal

namespace Mine.Internal

noncomputable def solid (o : Obj) : Bool := match o.data with
  | .dict .. => false
  | .cell .. => false
  | _ => true

section
variable (prog : Program) (w : World) (C : Addr) (fa : Str → Option Addr) (X : Heap → Prop)
structure FS (σ₀ κ σ : Sg) (h : Heap) (env : Env) (sc : Names) (ρ : Rho) : Prop where
  ok : Ok prog w C fa X σ h env sc ρ
  le0 : Le σ₀ σ
  pi : SubH κ h
  bas : ∃ hB, Wd fa X hB ∧ ∀ a o, hB.get? a = some o → κ a = some o
  nf : ∀ a, σ₀ a = none → (κ a).isSome = true → σ a = none
  ns : ∃ m, h.Ns env.locals m
  piL : κ env.locals = none
  sgL : σ env.locals = none
  own : ∀ x, sc.lookup x = some .cell → ∃ c v, env.cells.lookup x = some c ∧ h.IsCell c v ∧ κ c = none ∧ σ c = none ∧ ∀ y, env.cells.lookup y = some c → y = x
end
section
variable {prog : Program} {w : World} {C : Addr} {fa : Str → Option Addr} {X : Heap → Prop} {A : Around} {E : Value → Shared → Prop} {s : Shared}
  {σ₀ κ σ σ' : Sg} {h h' : Heap} {env : Env} {sc : Names} {ρ : Rho}

theorem some_ne {α : Type} {o : Option α} (h : o = none) : ¬ o.isSome = true := by rw [h]; simp

theorem FS.next (f : FS prog w C fa X σ₀ κ σ h env sc ρ) (n : Nx σ h σ' h') : FS prog w C fa X σ₀ κ σ' h' env sc ρ where
  ok := f.ok.next n
  le0 := f.le0.trans n.le
  pi := f.pi.keep n.kept
  bas := f.bas
  nf := fun a h0 hp => n.newf a (f.nf a h0 hp) (by obtain ⟨o, ho⟩ := Option.isSome_iff_exists.mp hp; rw [f.pi a o ho]; rfl)
  ns := let ⟨m, hm⟩ := f.ns; ⟨m, hm.keeps n.kept⟩
  piL := f.piL
  sgL := n.newf _ f.sgL (by obtain ⟨m, o, _, _, ho, _⟩ := f.ns; rw [ho]; rfl)
  own := fun x hx => let ⟨c, v, h1, h2, h3, h4, h5⟩ := f.own x hx
    ⟨c, v, h1, h2.keeps n.kept, h3, n.newf _ h4 (by obtain ⟨o, ho, _⟩ := h2; rw [ho]; rfl), h5⟩

theorem FS.rho {ρ' : Rho} (f : FS prog w C fa X σ₀ κ σ h env sc ρ) (hr : ∀ x d, ρ' x = some d → ρ x = some d) : FS prog w C fa X σ₀ κ σ h env sc ρ' :=
  { f with ok := { f.ok with vars := fun x d e => f.ok.vars x d (hr x d e) } }

noncomputable def shield (κ : Sg) (wr : List Addr) (h : Heap) : Sg := fun b => if b ∈ wr then h.get? b else κ b

theorem FS.grow {wr : List Addr} (f : FS prog w C fa X σ₀ κ σ h env sc ρ) (hw : ∀ b ∈ wr, ∃ o, h.get? b = some o ∧ solid o = true ∧ σ b = none) :
    FS prog w C fa X σ₀ (shield κ wr h) σ h env sc ρ where
  ok := f.ok
  le0 := f.le0
  pi := fun a o e => by
    unfold shield at e
    split at e
    · exact e
    · exact f.pi a o e
  bas := by
    obtain ⟨hB, h1, h2⟩ := f.bas
    refine ⟨hB, h1, fun a o e => ?_⟩
    unfold shield
    split
    · exact f.pi a o (h2 a o e)
    · exact h2 a o e
  nf := fun a h0 hp => by
    unfold shield at hp
    split at hp
    · rename_i hm; exact (hw a hm).choose_spec.2.2
    · exact f.nf a h0 hp
  ns := f.ns
  piL := by
    unfold shield
    split
    · rename_i hm
      obtain ⟨o, h1, h2, _⟩ := hw _ hm
      obtain ⟨m, o', es, ep, ho, hd, _⟩ := f.ns
      rw [h1] at ho; cases ho
      unfold solid at h2; rw [hd] at h2; cases h2
    · exact f.piL
  sgL := f.sgL
  own := fun x hx => by
    obtain ⟨c, v, h1, h2, h3, h4, h5⟩ := f.own x hx
    refine ⟨c, v, h1, h2, ?_, h4, h5⟩
    unfold shield
    split
    · rename_i hm
      obtain ⟨o, q1, q2, _⟩ := hw _ hm
      obtain ⟨o', ho, hd⟩ := h2
      rw [q1] at ho; cases ho
      unfold solid at q2; rw [hd] at q2; cases q2
    · exact h3

theorem FS.shrink {κ' : Sg} (f : FS prog w C fa X σ₀ κ' σ h env sc ρ) (hl : Le κ κ') (hn : ∀ a, κ' a = none → κ a = none) (hb : ∃ hB, Wd fa X hB ∧ ∀ a o, hB.get? a = some o → κ a = some o) : FS prog w C fa X σ₀ κ σ h env sc ρ :=
  { f with
    pi := fun a o e => f.pi a o (hl a o e)
    bas := hb
    nf := fun a h0 hp => f.nf a h0 (by obtain ⟨o, ho⟩ := Option.isSome_iff_exists.mp hp; rw [hl a o ho]; rfl)
    piL := hn _ f.piL
    own := fun x hx => let ⟨c, v, h1, h2, h3, h4, h5⟩ := f.own x hx; ⟨c, v, h1, h2, hn _ h3, h4, h5⟩ }

noncomputable def ownName (sc : Names) (x : Str) : Bool := sc.lookup x == some .local || sc.lookup x == some .cell
theorem store_snd {x : Str} {v : Value} {d : D} {Q : Unit → Shared → Prop} (f : FS prog w C fa X σ₀ κ σ s.heap env sc ρ) (hx : ownName sc x = true)
    (hd : (x == ("__debug__" : Str)) = false ∧ (x == ("__classdict__" : Str)) = false) (hr : Rp prog w C σ v d)
    (hQ : ∀ h' tk, FS prog w C fa X σ₀ κ σ h' env sc (setR ρ x d) → (∀ b o, s.heap.get? b = some o → solid o = true → h'.get? b = some o) → Q () { s with heap := h', toks := tk }) :
    wpAny (model prog w) A (storeName env x v) Q E s := by
  obtain ⟨m, hm⟩ := f.ns
  obtain ⟨hB, wB, bB⟩ := f.bas
  have hkind := f.ok.stat.fn
  have hsome : (s.heap.get? env.locals).isSome = true := by obtain ⟨o, _, _, ho, _⟩ := hm; rw [ho]; rfl
  unfold ownName at hx
  rcases Bool.or_eq_true_iff.mp hx with hx | hx
  · have hx := beq_iff_eq.mp hx
    have hk := f.ok.stat.loc x hx
    refine wpAny_storeName_local hk hm (fun h' hn hsb => hQ h' _ ?_ ?_) (by rw [hkind]; rfl)
    · have keepN : ∀ a o, s.heap.get? a = some o → a ≠ env.locals → h'.get? a = some o := fun a o e ha => (hsb.2 a ha).trans e
      have cellK : ∀ c v, s.heap.IsCell c v → h'.IsCell c v := fun c v hc => hc.sameBut hsb (by
        rintro rfl; obtain ⟨o, ho, hd'⟩ := hc; obtain ⟨o', _, _, ho', hd'', _⟩ := hm; rw [ho] at ho'; cases ho'; rw [hd'] at hd''; cases hd'')
      have pi' : SubH κ h' := fun a o e => keepN a o (f.pi a o e) (by rintro rfl; rw [f.piL] at e; cases e)
      refine ⟨⟨fun a o e => keepN a o (f.ok.sub a o e) (by rintro rfl; rw [f.sgL] at e; cases e), wB.keep fun a o e => pi' a o (bB a o e), f.ok.stat,
        fun y hy => let ⟨c, v, h1, h2⟩ := f.ok.cells y hy; ⟨c, v, h1, cellK c _ h2⟩, ?_⟩, f.le0, pi', f.bas, f.nf, ⟨_, hn⟩, f.piL, f.sgL,
        fun y hy => let ⟨c, v, h1, h2, h3⟩ := f.own y hy; ⟨c, v, h1, cellK c _ h2, h3⟩⟩
      intro y d' hy
      unfold setR at hy
      split at hy
      · rename_i e; cases hy; subst e
        exact ⟨hd.1, hd.2, v, .inl ⟨hk, _, hn, by simp⟩, hr⟩
      · rename_i hne
        obtain ⟨e1, e2, v', hv, hr'⟩ := f.ok.vars y d' hy
        refine ⟨e1, e2, v', ?_, hr'⟩
        rcases hv with ⟨k, m', hm', hv⟩ | ⟨k, c, hc, hv⟩
        · cases Ns.unique hm hm'
          exact .inl ⟨k, _, hn, by simp only [hne, if_false]; exact hv⟩
        · exact .inr ⟨k, c, hc, cellK c _ hv⟩
    · intro b o e hsol
      refine (hsb.2 b ?_).trans e
      rintro rfl
      obtain ⟨o', _, _, ho', hd', _⟩ := hm
      rw [e] at ho'; cases ho'
      unfold solid at hsol; rw [hd'] at hsol; cases hsol
  · have hx := beq_iff_eq.mp hx
    have hk := f.ok.stat.cell x hx
    obtain ⟨c, v₀, hc, hcell, hpc, hsc, huniq⟩ := f.own x hx
    refine wpAny_storeName_cell (v₀ := v₀) hkind hk hc hcell fun h' hn hsb => ?_
    have q := hQ h' s.toks
    have hLc : env.locals ≠ c := by
      rintro rfl; obtain ⟨o, ho, hd'⟩ := hcell; obtain ⟨o', _, _, ho', hd'', _⟩ := hm; rw [ho] at ho'; cases ho'; rw [hd'] at hd''; cases hd''
    refine q ?_ ?_
    · have keepN : ∀ a o, s.heap.get? a = some o → a ≠ c → h'.get? a = some o := fun a o e ha => (hsb.2 a ha).trans e
      have pi' : SubH κ h' := fun a o e => keepN a o (f.pi a o e) (by rintro rfl; rw [hpc] at e; cases e)
      refine ⟨⟨fun a o e => keepN a o (f.ok.sub a o e) (by rintro rfl; rw [hsc] at e; cases e), wB.keep fun a o e => pi' a o (bB a o e), f.ok.stat, ?_, ?_⟩, f.le0, pi', f.bas, f.nf,
        ⟨_, hm.sameBut hsb hLc⟩, f.piL, f.sgL, ?_⟩
      · intro y hy
        obtain ⟨c', v', h1, h2⟩ := f.ok.cells y hy
        by_cases hcc : c' = c
        · subst hcc; exact ⟨c', _, h1, hn⟩
        · exact ⟨c', v', h1, h2.sameBut hsb hcc⟩
      · intro y d' hy
        unfold setR at hy
        split at hy
        · rename_i e; cases hy; subst e
          exact ⟨hd.1, hd.2, v, .inr ⟨.inl hk, c, hc, hn⟩, hr⟩
        · rename_i hne
          obtain ⟨e1, e2, v', hv, hr'⟩ := f.ok.vars y d' hy
          refine ⟨e1, e2, v', ?_, hr'⟩
          rcases hv with ⟨k, m', hm', hv⟩ | ⟨k, c', hc', hv⟩
          · exact .inl ⟨k, m', hm'.sameBut hsb hLc, hv⟩
          · exact .inr ⟨k, c', hc', hv.sameBut hsb (by rintro rfl; exact hne (huniq y hc'))⟩
      · intro y hy
        obtain ⟨c', v', h1, h2, h3⟩ := f.own y hy
        by_cases hcc : c' = c
        · subst hcc; exact ⟨c', _, h1, hn, h3⟩
        · exact ⟨c', v', h1, h2.sameBut hsb hcc, h3⟩
    · intro b o e hsol
      refine (hsb.2 b ?_).trans e
      rintro rfl
      obtain ⟨o', ho', hd'⟩ := hcell
      rw [e] at ho'; cases ho'
      unfold solid at hsol; rw [hd'] at hsol; cases hsol
end
end Mine.Internal

namespace Mine.Internal
section
variable {prog : Program} {w : World} {C : Addr} {A : Around} {E : Value → Shared → Prop} {s : Shared} {σ : Sg}

noncomputable def ownedIters : List String := ["enumerate", "zip", "dict_itemiterator", "dict_reverseitemiterator", "odict_iterator", "itertools.zip_longest", "itertools.pairwise"]
noncomputable def QuietIter (h : Heap) (I : Addr) : Prop := ∃ o n, h.get? I = some o ∧ o.cls = .type n ∧ ownedIters.contains n = false
theorem lgo_snd {M : Model} {target : Expr} {I : Addr} {v : Value} {Q : Unit → Shared → Prop} (hq : QuietIter s.heap I) (h : Q () s) : wpAny M A (letOwnedTupleGo target (.ref I) v) Q E s := by
  obtain ⟨o, n, ho, hc, hn⟩ := hq
  have go : wpAny M A (letOwnedTupleGo (.Tuple [] 0 default) (.ref I) v) Q E s := by
    unfold letOwnedTupleGo
    cases v <;> first
      | exact wpAny_pure h
      | (refine wpAny_bind (wpAny_load ho ?_)
         rw [hc]
         split
         · rename_i e1 e2
           cases e1
           have : ∀ y : Bool, (["enumerate", "zip", "dict_itemiterator", "dict_reverseitemiterator", "odict_iterator", "itertools.zip_longest", "itertools.pairwise"].contains n && y) = false := fun y => by
             show (ownedIters.contains n && y) = false
             rw [hn]; rfl
           rw [this]
           exact wpAny_pure h
         · exact wpAny_pure h)
  cases target <;> first | exact wpAny_pure h | exact go

variable (prog w C A) in
noncomputable def Src (σ : Sg) (h₀ h : Heap) (it : Value) (ds : List D) : Prop :=
  ∃ I fp wr P St, it = .ref I ∧ Walks prog w A I fp wr ds.length P St ∧ St 0 h ∧ (∀ i v, P i v → ∃ d, ds[i]? = some d ∧ Rp prog w C σ v d) ∧
    (∀ i h, St i h → (∀ b ∈ fp, ∃ o, h.get? b = some o ∧ solid o = true) ∧ QuietIter h I) ∧ (∀ b ∈ wr, h₀.get? b = none) ∧ (∀ b ∈ fp, b ∈ wr ∨ ∃ o, σ b = some o)

theorem iter_snd {n : Nat} (R : Room n A) (hs : SubH σ s.heap) {v : Value} {d : D} (r : Rp prog w C σ v d) {P : List D → Prop} (hp : itemsW d P) {Q : Value → Shared → Prop}
    (hQ : ∀ ds, P ds → ds.length ≤ 2000000 → ∀ it h', Kept s.heap h' → Src prog w C A σ s.heap h' it ds → Q it { s with heap := h' }) : wpAny (model prog w) A (pyIter v) Q E s := by
  have hne : ∀ a o, s.heap.get? a = some o → a ≠ s.heap.objs.size := fun a o e => Nat.ne_of_lt (Heap.lt_size e)
  unfold itemsW at hp
  split at hp
  · cases r with
    | @list a vs m _ ea ra =>
    have hl := isList_of hs ea
    refine wpAny_pyIter_list hl (hQ _ hp.2 (by have := hp.1; omega) _ _ (.push _ _) ?_)
    refine ⟨s.heap.objs.size, [s.heap.objs.size, a], [s.heap.objs.size], fun i v => vs.toArray[i]? = some v, fun i h => h.IsListIter s.heap.objs.size a i ∧ h.IsList a vs.toArray, rfl, by rw [← ra.length, ← List.size_toArray]; exact Walks.list R.handled _ a (hne _ _ (hs _ _ ea)) vs.toArray, ⟨⟨_, Heap.get?_push_size _ rfl, rfl, rfl⟩, hl.push _⟩, ?_, ?_, ?_, ?_⟩
    · intro i v hv
      have hv' : vs[i]? = some v := by simpa using hv
      have hi := (List.getElem?_eq_some_iff.mp hv').1
      rw [ra.length] at hi
      obtain ⟨u, hu, hr⟩ := ra.get (List.getElem?_eq_getElem hi)
      rw [hv'] at hu; cases hu
      exact ⟨_, List.getElem?_eq_getElem hi, hr⟩
    · rintro i h ⟨⟨o, ho, hc, hd⟩, o', ho', hc', n', hd'⟩
      refine ⟨fun b hb => ?_, o, _, ho, hc, by decide⟩
      simp only [List.mem_cons, List.not_mem_nil, or_false] at hb
      rcases hb with rfl | rfl
      · exact ⟨o, ho, by unfold solid; rw [hd]⟩
      · exact ⟨o', ho', by unfold solid; rw [hd']⟩
    · intro b hb; simp only [List.mem_singleton] at hb; subst hb; exact get?_size _
    · intro b hb
      simp only [List.mem_cons, List.not_mem_nil, or_false] at hb
      rcases hb with rfl | rfl
      · exact .inl (by simp)
      · exact .inr ⟨_, ea⟩
  · cases r with
    | @tup a vs m _ ea ra =>
    have hl : s.heap.IsTuple a vs.toArray := ⟨_, hs _ _ ea, rfl, _, rfl⟩
    refine wpAny_pyIter_tuple hl (hQ _ hp.2 (by have := hp.1; omega) _ _ (.push _ _) ?_)
    refine ⟨s.heap.objs.size, [s.heap.objs.size, a], [s.heap.objs.size], fun i v => vs.toArray[i]? = some v, fun i h => h.IsTupleIter s.heap.objs.size a i ∧ h.IsTuple a vs.toArray, rfl, by rw [← ra.length, ← List.size_toArray]; exact Walks.tuple R.handled _ a (hne _ _ (hs _ _ ea)) vs.toArray, ⟨⟨_, Heap.get?_push_size _ rfl, rfl, rfl⟩, hl.at fun o e => Heap.get?_push_of_some _ e⟩, ?_, ?_, ?_, ?_⟩
    · intro i v hv
      have hv' : vs[i]? = some v := by simpa using hv
      have hi := (List.getElem?_eq_some_iff.mp hv').1
      rw [ra.length] at hi
      obtain ⟨u, hu, hr⟩ := ra.get (List.getElem?_eq_getElem hi)
      rw [hv'] at hu; cases hu
      exact ⟨_, List.getElem?_eq_getElem hi, hr⟩
    · rintro i h ⟨⟨o, ho, hc, hd⟩, o', ho', hc', n', hd'⟩
      refine ⟨fun b hb => ?_, o, _, ho, hc, by decide⟩
      simp only [List.mem_cons, List.not_mem_nil, or_false] at hb
      rcases hb with rfl | rfl
      · exact ⟨o, ho, by unfold solid; rw [hd]⟩
      · exact ⟨o', ho', by unfold solid; rw [hd']⟩
    · intro b hb; simp only [List.mem_singleton] at hb; subst hb; exact get?_size _
    · intro b hb
      simp only [List.mem_cons, List.not_mem_nil, or_false] at hb
      rcases hb with rfl | rfl
      · exact .inl (by simp)
      · exact .inr ⟨_, ea⟩
  · rename_i a b
    cases r with
    | range ea =>
    obtain ⟨⟨h1, h2, h3, h4⟩, hp⟩ := hp
    refine wpAny_pyIter_range (hs _ _ ea) (small_one (by omega) (by omega) (by omega) (by omega)) (hQ _ hp (by simp only [List.length_map, List.length_range]; omega) _ _ (.push _ _) ?_)
    refine ⟨s.heap.objs.size, _, _, _, _, rfl, by rw [List.length_map, List.length_range]; exact (Walks.range R.handled _ a 1 (b - a).toNat).bound, ?_, ?_, ?_, ?_, ?_⟩
    · show IsRangeIter _ _ _ _ _
      have e := Heap.get?_push_size s.heap (o := { cls := .type "range_iterator", data := .fields #[rawInt a, rawInt (Builtin.Range.rangeSize a b 1), rawInt 1] }) rfl
      rw [rangeSize_nat] at e ⊢
      unfold IsRangeIter
      simpa using e
    · rintro i v ⟨hi, t, rfl⟩
      refine ⟨D.int (a + (i : Int)), by simp [hi], ?_⟩
      rw [Int.mul_one]; exact .int _ _
    · intro i h st
      have st' : h.get? s.heap.objs.size = some _ := st
      refine ⟨fun b hb => ?_, _, _, st', rfl, by decide⟩
      simp only [List.mem_singleton] at hb; subst hb
      exact ⟨_, st', rfl⟩
    · intro b hb; simp only [List.mem_singleton] at hb; subst hb; exact get?_size _
    · intro b hb; exact .inl hb
  · exact hp.elim
end
end Mine.Internal

namespace Mine.Internal

noncomputable def cloOf (cells : List (Str × Addr)) : Names → List (Str × Addr) → List (Str × Addr)
  | [], acc => acc
  | (n, k) :: r, acc => if k == .free then cloOf cells r ((n, (cells.lookup n).getD 0) :: acc) else cloOf cells r acc
theorem clo_lookup (cells : List (Str × Addr)) (x : Str) : ∀ (names : Names) (acc : List (Str × Addr)),
    (cloOf cells names acc).lookup x = if (x, NameKind.free) ∈ names then some ((cells.lookup x).getD 0) else acc.lookup x
  | [], acc => by simp [cloOf]
  | (n, k) :: r, acc => by
    unfold cloOf
    by_cases hk : k = .free
    · subst hk
      simp only [beq_self_eq_true, if_true, clo_lookup cells x r]
      by_cases hr : (x, NameKind.free) ∈ r
      · simp [hr]
      · rw [if_neg hr]
        by_cases hx : x = n
        · subst hx; simp
        · have hb : (x == n) = false := beq_eq_false_iff_ne.mpr hx
          rw [if_neg (by simp [hr, hx]), List.lookup_cons, hb]
    · have hb : (k == NameKind.free) = false := by simpa using hk
      rw [if_neg (by rw [hb]; simp), clo_lookup cells x r]
      by_cases hr : (x, NameKind.free) ∈ r
      · simp [hr]
      · rw [if_neg hr, if_neg]
        intro hm
        rcases List.mem_cons.mp hm with e | e
        · cases e; exact hk rfl
        · exact hr e
theorem forIn_clo (cells : List (Str × Addr)) (env : Env) (he : env.cells = cells) (f : Str × NameKind → List (Str × Addr) → Sem (ForInStep (List (Str × Addr))))
    (hf : ∀ n k acc, f (n, k) acc = if k == .free then (do let a ← cellOf env n; pure (.yield ((n, a) :: acc))) else pure (.yield acc)) :
    ∀ (names : Names) (acc : List (Str × Addr)), (∀ n, (n, NameKind.free) ∈ names → (cells.lookup n).isSome = true) → forIn names acc f = pure (cloOf cells names acc)
  | [], acc, _ => rfl
  | (n, k) :: r, acc, h => by
    have ih := forIn_clo cells env he f hf r
    rw [List.forIn_cons, hf]
    unfold cloOf
    split
    · rename_i hk
      have hk' : k = .free := by simpa using hk
      subst hk'
      obtain ⟨c, hc⟩ := Option.isSome_iff_exists.mp (h n List.mem_cons_self)
      have e : cellOf env n = pure c := by unfold cellOf; rw [he, hc]
      rw [e]
      simp only [pure_bind, hc, Option.getD_some]
      exact ih _ fun m hm => h m (List.mem_cons_of_mem _ hm)
    · simp only [pure_bind]
      exact ih _ fun m hm => h m (List.mem_cons_of_mem _ hm)
theorem closure_eq {cs : Scope} {env : Env} (h : ∀ n, (n, NameKind.free) ∈ cs.names → (env.cells.lookup n).isSome = true) : closureFor cs env = pure (cloOf env.cells cs.names []) := by
  simp only [closureFor]
  rw [forIn_clo env.cells env rfl _ (fun n k acc => by cases hk : (k == NameKind.free) <;> simp [hk]) cs.names [] h]
  rfl

theorem cellsFrom_append : ∀ (names : Names) (n : Nat) (acc : List (Str × Addr)), cellsFrom n names acc = cellsFrom n names [] ++ acc
  | [], _, _ => rfl
  | (x, k) :: r, n, acc => by
    unfold cellsFrom
    split
    · rw [cellsFrom_append r (n + 1) ((x, n) :: acc), cellsFrom_append r (n + 1) [(x, n)]]; simp
    · exact cellsFrom_append r n acc
theorem cellsFrom_mem {x : Str} {c : Addr} : ∀ (names : Names) (n : Nat), (x, c) ∈ cellsFrom n names [] → (x, NameKind.cell) ∈ names
  | [], _, h => by simp [cellsFrom] at h
  | (y, k) :: r, n, h => by
    unfold cellsFrom at h
    split at h
    · rename_i hk
      have hk' : k = .cell := by simpa using hk
      rw [cellsFrom_append] at h
      rcases List.mem_append.mp h with h | h
      · exact List.mem_cons_of_mem _ (cellsFrom_mem r _ h)
      · simp only [List.mem_singleton] at h; cases h; rw [hk']; exact List.mem_cons_self
    · exact List.mem_cons_of_mem _ (cellsFrom_mem r _ h)
theorem cellsFrom_some {x : Str} : ∀ (names : Names) (n : Nat), (x, NameKind.cell) ∈ names → ((cellsFrom n names []).lookup x).isSome = true
  | [], _, h => by simp at h
  | (y, k) :: r, n, h => by
    unfold cellsFrom
    rcases List.mem_cons.mp h with e | e
    · cases e
      simp only [beq_self_eq_true, if_true]
      rw [cellsFrom_append, List.lookup_append]
      cases (cellsFrom (n + 1) r []).lookup x <;> simp
    · have ih := fun n => cellsFrom_some r n e
      split
      · rw [cellsFrom_append, List.lookup_append]
        have := ih (n + 1)
        cases hq : (cellsFrom (n + 1) r []).lookup x with
        | none => rw [hq] at this; cases this
        | some c => simp
      · exact ih n

theorem lookup_relabel (cs : Scope) (env : Env) (x : Str) : (relabel cs env).names.lookup x =
    (cs.names.lookup x).map fun k => if (k == .free && env.scope.kind == .function && env.kindOf x == some .cell) = true then .cell else k := by
  unfold relabel
  show List.lookup x (cs.names.map _) = _
  induction cs.names with
  | nil => rfl
  | cons p r ih =>
    obtain ⟨n, k⟩ := p
    rw [List.map_cons]
    show List.lookup x ((if (k == NameKind.free && env.scope.kind == .function && env.kindOf n == some .cell) = true then (n, NameKind.cell) else (n, k)) :: _) = _
    cases hx : x == n with
    | true =>
      have e := beq_iff_eq.mp hx
      subst e
      by_cases hc : (k == NameKind.free && env.scope.kind == .function && env.kindOf x == some .cell) = true
      · rw [if_pos hc]; simp only [List.lookup_cons, beq_self_eq_true, Option.map_some, if_pos hc]
      · rw [if_neg hc]; simp only [List.lookup_cons, beq_self_eq_true, Option.map_some, if_neg hc]
    | false =>
      by_cases hc : (k == NameKind.free && env.scope.kind == .function && env.kindOf n == some .cell) = true
      · rw [if_pos hc]; simp only [List.lookup_cons, hx]; exact ih
      · rw [if_neg hc]; simp only [List.lookup_cons, hx]; exact ih

noncomputable def scOk (sc : Names) (cs : Scope) : Bool :=
  cs.kind == .function && decide (cs.names.map (·.1)).Nodup && cs.names.all fun p => match p.2 with
    | .local => true
    | .cell => true
    | .globalImplicit => true
    | .free => sc.lookup p.1 == some .cell || sc.lookup p.1 == some .free
    | .globalExplicit => false

theorem lookup_of_mem {x : Str} {k : NameKind} : ∀ {names : Names}, (names.map (·.1)).Nodup → (x, k) ∈ names → names.lookup x = some k
  | (n, j) :: r, hn, hm => by
    obtain ⟨h1, h2⟩ := List.nodup_cons.mp hn
    rw [List.lookup_cons]
    rcases List.mem_cons.mp hm with e | e
    · cases e; simp
    · have hne : (x == n) = false := beq_eq_false_iff_ne.mpr (by rintro rfl; exact h1 (List.mem_map.mpr ⟨_, e, rfl⟩))
      rw [hne]; exact lookup_of_mem h2 e

noncomputable def cenvOf (cs : Scope) (env : Env) (L : Addr) : Env :=
  { scope := relabel cs env, locals := L, globals := env.globals, cells := cellsFrom (L + 1) cs.names (cloOf env.cells cs.names []), qual := env.qual, func := none, code := env.code, frame := env.frame, builtins := env.builtins }

section
variable {prog : Program} {w : World} {C : Addr} {fa : Str → Option Addr} {X : Heap → Prop} {A : Around} {E : Value → Shared → Prop} {s : Shared} {σ : Sg} {env : Env} {sc : Names} {ρ : Rho}

theorem newEnv_snd {M : Model} {cs : Scope} {cl : List (Str × Addr)} {Q : Env → Shared → Prop}
    (hQ : Q { scope := cs, locals := s.heap.objs.size, globals := env.globals, cells := cellsFrom (s.heap.objs.size + 1) cs.names cl, qual := env.qual, func := none, code := env.code, frame := env.frame, builtins := env.builtins }
      { s with heap := pushCells (s.heap.push { cls := .type "dict", data := .dict #[] }) cs.names }) :
    wpAny M A (newFunctionEnv cs env.globals cl [] env.qual none .none (some env)) Q E s := by
  simp only [newFunctionEnv, Option.isSome_some, if_true]
  refine wpAny_bind (wpAny_alloc ?_)
  refine wpAny_bind (wpAny_layCells _ (fun name kind cells => by cases hkc : kind == NameKind.cell <;> simp [hkc]) _ _ _ _ ?_)
  rw [show ({ s with heap := s.heap.push { cls := .type "dict", data := .dict #[] } } : Shared).heap.objs.size = s.heap.objs.size + 1 from Heap.size_push ..]
  simp only [List.forIn_nil]
  exact wpAny_bind (wpAny_pure (wpAny_pure hQ))

theorem comp_start {h₀ : Heap} (ok : Ok prog w C fa X σ s.heap env sc ρ) {cs : Scope} (hcs : scOk sc cs = true) (k0 : Kept h₀ s.heap) (w0 : Wd fa X h₀) :
    FS prog w C fa X σ (fun b => h₀.get? b) σ (pushCells (s.heap.push { cls := .type "dict", data := .dict #[] }) cs.names) (cenvOf cs env s.heap.objs.size) cs.names (inner cs.names ρ) ∧
    Kept s.heap (pushCells (s.heap.push { cls := .type "dict", data := .dict #[] }) cs.names) := by
  have hk : Kept s.heap (pushCells (s.heap.push { cls := .type "dict", data := .dict #[] }) cs.names) := fun b o e => pushCells_keeps _ _ _ _ (Heap.get?_push_of_some _ e)
  unfold scOk at hcs
  simp only [Bool.and_eq_true, beq_iff_eq, decide_eq_true_eq, List.all_eq_true] at hcs
  obtain ⟨⟨hkind, hnodup⟩, hall⟩ := hcs
  have okc := cellsFrom_ok cs.names (s.heap.push { cls := .type "dict", data := .dict #[] }) (s.heap.objs.size + 1) [] ⟨fun _ _ hm => (nomatch hm), List.Pairwise.nil⟩ (by rw [Heap.size_push]; exact Nat.le_refl _)
  rw [Heap.size_push] at okc
  have hns : (pushCells (s.heap.push { cls := .type "dict", data := .dict #[] }) cs.names).Ns s.heap.objs.size fun _ => none := (Heap.Ns.new s.heap (.type "dict")).keeps (pushCells_keeps _ _)
  have hcells : (cenvOf cs env s.heap.objs.size).cells = cellsFrom (s.heap.objs.size + 1) cs.names [] ++ cloOf env.cells cs.names [] := by
    show cellsFrom _ _ _ = _
    rw [cellsFrom_append]
  have freeMem : ∀ x, cs.names.lookup x = some .free → (x, NameKind.free) ∈ cs.names := fun x h => mem_of_lookup h
  have freeCell : ∀ x, cs.names.lookup x = some .free → ∃ c v, env.cells.lookup x = some c ∧ s.heap.IsCell c v ∧ (cenvOf cs env s.heap.objs.size).cells.lookup x = some c := by
    intro x hx
    have hm := freeMem x hx
    have h1 := hall _ hm
    simp only [Bool.or_eq_true, beq_iff_eq] at h1
    obtain ⟨c, v, hc, hv⟩ := ok.cells x h1
    refine ⟨c, v, hc, hv, ?_⟩
    rw [hcells, List.lookup_append]
    have hno : (cellsFrom (s.heap.objs.size + 1) cs.names []).lookup x = none := by
      cases hq : (cellsFrom (s.heap.objs.size + 1) cs.names []).lookup x with
      | none => rfl
      | some c' =>
        have := lookup_of_mem hnodup (cellsFrom_mem _ _ (mem_of_lookup hq))
        rw [hx] at this; cases this
    rw [hno, Option.none_or, clo_lookup, if_pos hm, hc]; rfl
  have ownCell : ∀ x, cs.names.lookup x = some .cell → ∃ c, (cenvOf cs env s.heap.objs.size).cells.lookup x = some c ∧ (x, c) ∈ cellsFrom (s.heap.objs.size + 1) cs.names [] := by
    intro x hx
    obtain ⟨c, hc⟩ := Option.isSome_iff_exists.mp (cellsFrom_some cs.names (s.heap.objs.size + 1) (mem_of_lookup hx))
    refine ⟨c, ?_, mem_of_lookup hc⟩
    rw [hcells, List.lookup_append, hc]; rfl
  refine ⟨⟨⟨ok.sub.keep hk, ok.wd.keep hk, ?_, ?_, ?_⟩, .refl _, ?_, ?_, ?_, ⟨_, hns⟩, ?_, ?_, ?_⟩, hk⟩
  · -- the names' kinds
    have kind : ∀ x, (cenvOf cs env s.heap.objs.size).kindOf x = (cs.names.lookup x).map fun k => if (k == .free && env.scope.kind == .function && env.kindOf x == some .cell) = true then .cell else k := lookup_relabel cs env
    refine ⟨hkind, ok.stat.glob, ok.stat.built, fun x h => ?_, fun x h => ?_, fun x h => ?_, fun x h => ?_⟩
    · rw [kind, h]; rfl
    · rw [kind, h]; rfl
    · rw [kind, h]
      simp only [Option.map_some]
      split
      · exact .inr rfl
      · exact .inl rfl
    · rw [kind, h]; rfl
  · intro x hx
    rcases hx with hx | hx
    · obtain ⟨c, hc, hm⟩ := ownCell x hx
      exact ⟨c, none, hc, (okc.empty x c hm).1⟩
    · obtain ⟨c, v, _, hv, hc⟩ := freeCell x hx
      exact ⟨c, v, hc, hv.keeps hk⟩
  · intro x d hx
    unfold inner at hx
    split at hx
    · rename_i hfree
      obtain ⟨e1, e2, v, hv, hr⟩ := ok.vars x d hx
      refine ⟨e1, e2, v, ?_, hr⟩
      obtain ⟨c, v', hc, hv', hc'⟩ := freeCell x hfree
      right
      refine ⟨?_, c, hc', ?_⟩
      · show (relabel cs env).names.lookup x = _ ∨ (relabel cs env).names.lookup x = _
        rw [lookup_relabel, hfree]
        simp only [Option.map_some]
        split
        · exact .inl rfl
        · exact .inr rfl
      · rcases hv with ⟨kl, _⟩ | ⟨_, c2, hc2, hv2⟩
        · exfalso
          have h1 := hall _ (freeMem x hfree)
          simp only [Bool.or_eq_true, beq_iff_eq] at h1
          rcases h1 with h1 | h1
          · rw [ok.stat.cell x h1] at kl; cases kl
          · rcases ok.stat.free x h1 with h2 | h2 <;> (rw [h2] at kl; cases kl)
        · rw [hc] at hc2; cases hc2
          exact hv2.keeps hk
    · cases hx
  · exact fun a o e => hk a o (k0 a o e)
  · exact ⟨h₀, w0, fun _ _ e => e⟩
  · exact fun a h _ => h
  · show h₀.get? s.heap.objs.size = none
    cases q : h₀.get? s.heap.objs.size with
    | none => rfl
    | some o => exact absurd (Heap.lt_size (k0 _ _ q)) (Nat.lt_irrefl _)
  · exact none_of_sub ok.sub (get?_size _)
  · intro x hx
    obtain ⟨c, hc, hm⟩ := ownCell x hx
    obtain ⟨h1, h2⟩ := okc.empty x c hm
    have hcn : s.heap.get? c = none := by
      cases q : s.heap.get? c with
      | none => rfl
      | some o => exact absurd (Heap.lt_size q) (Nat.not_lt.mpr (Nat.le_of_succ_le h2))
    refine ⟨c, none, hc, h1, ?_, none_of_sub ok.sub hcn, fun y hy => ?_⟩
    · show h₀.get? c = none
      cases q : h₀.get? c with
      | none => rfl
      | some o => have := k0 _ _ q; rw [hcn] at this; cases this
    · rw [hcells, List.lookup_append] at hy
      cases hq : (cellsFrom (s.heap.objs.size + 1) cs.names []).lookup y with
      | some c' =>
        rw [hq] at hy
        simp only [Option.some_or, Option.some.injEq] at hy
        subst hy
        exact name_of_addr okc.apart (mem_of_lookup hq) hm
      | none =>
        rw [hq, Option.none_or, clo_lookup] at hy
        split at hy
        · rename_i hfm
          have hl := lookup_of_mem hnodup hfm
          obtain ⟨c2, v2, hc2, hv2, _⟩ := freeCell y hl
          rw [hc2] at hy
          simp only [Option.getD_some, Option.some.injEq] at hy
          subst hy
          obtain ⟨o, ho, _⟩ := hv2
          rw [hcn] at ho; cases ho
        · cases hy
end
end Mine.Internal

namespace Mine.Internal

noncomputable def ok1 (ok : Names → Expr → Bool) (sc : Names) (e : Expr) : Bool :=
  match e with
  | .Compare l [op] [r] _ => ok sc l && ok sc r && !behindInMarks op r
  | e => ok sc e
noncomputable def okT (ok : Names → Expr → Bool) (sc : Names) (e : Expr) : Bool :=
  match e with
  | .BoolOp _ [x, y] _ => ok1 ok sc x && ok1 ok sc y
  | e => ok1 ok sc e

section
variable (prog : Program) (w : World) (C : Addr) (fa : Str → Option Addr) (X : Heap → Prop)
noncomputable def EvOk (n : Nat) (ev : Ev) (ok : Names → Expr → Bool) : Prop :=
  ∀ (sc : Names) (ρ : Rho) (e : Expr) (post : D → Prop), ev sc ρ e post → ok sc e = true → ∀ {A : Around} {env : Env} {σ : Sg} {s : Shared} {Q E : Value → Shared → Prop}, Room n A →
    Ok prog w C fa X σ s.heap env sc ρ → Then prog w C σ s post Q → wpAny (model prog w) A (eval e env) Q E s

structure AccAt (κ σ : Sg) (h : Heap) (a : Addr) (vs : List Value) (ds : List D) : Prop where
  get : ∃ n, h.get? a = some (listOf vs.toArray n)
  rp : RpL prog w C σ vs ds
  ka : κ a = none
  sa : σ a = none

noncomputable def ActOk (n : Nat) (σ₀ : Sg) (env : Env) (sc : Names) (a : Addr) (P : Rho → Prop) (act : Sem Unit) (body : Rho → List D → (List D → Prop) → Prop) : Prop :=
  ∀ {A : Around} {κ σ : Sg} {ρ : Rho} {acc : List D} {vs : List Value} {post : List D → Prop} {s : Shared} {Q : Unit → Shared → Prop} {E : Value → Shared → Prop}, Room n A → P ρ →
    FS prog w C fa X σ₀ κ σ s.heap env sc ρ → AccAt prog w C κ σ s.heap a vs acc → body ρ acc post →
    (∀ acc', post acc' → ∀ σ' h' tk vs', FS prog w C fa X σ₀ κ σ' h' env sc ρ → AccAt prog w C κ σ' h' a vs' acc' → Le σ σ' → Q () { s with heap := h', toks := tk }) → wpAny (model prog w) A act Q E s
end

section
variable {prog : Program} {w : World} {C : Addr} {fa : Str → Option Addr} {X : Heap → Prop} {A : Around} {E : Value → Shared → Prop} {s : Shared}
  {σ₀ κ σ σ' : Sg} {h h' : Heap} {env : Env} {sc : Names} {ρ : Rho} {a : Addr} {vs : List Value} {ds : List D}

theorem AccAt.next (x : AccAt prog w C κ σ h a vs ds) (n : Nx σ h σ' h') : AccAt prog w C κ σ' h' a vs ds :=
  let ⟨k, e⟩ := x.get; ⟨⟨k, n.kept _ _ e⟩, x.rp.mono n.le, x.ka, n.newf a x.sa (by rw [e]; rfl)⟩
theorem AccAt.solidKeep (x : AccAt prog w C κ σ h a vs ds) (k : ∀ b o, h.get? b = some o → solid o = true → h'.get? b = some o) : AccAt prog w C κ σ h' a vs ds :=
  let ⟨n, e⟩ := x.get; ⟨⟨n, k _ _ e rfl⟩, x.rp, x.ka, x.sa⟩

theorem FS.iter {wr : List Addr} (f : FS prog w C fa X σ₀ κ σ h env sc ρ) (hk : ∀ b o, b ∉ wr → h.get? b = some o → h'.get? b = some o)
    (hw : ∀ b ∈ wr, κ b = none ∧ σ b = none ∧ ∃ o, h.get? b = some o ∧ solid o = true) : FS prog w C fa X σ₀ κ σ h' env sc ρ := by
  have pi' : SubH κ h' := fun b o e => hk b o (fun hm => by rw [(hw b hm).1] at e; cases e) (f.pi b o e)
  obtain ⟨hB, wB, bB⟩ := f.bas
  have nsK : ∀ L m, h.Ns L m → h'.Ns L m := fun L m hn => by
    obtain ⟨o, es, ep, ho, hd, r⟩ := hn
    refine ⟨o, es, ep, hk _ _ (fun hm => ?_) ho, hd, r⟩
    obtain ⟨_, _, o', ho', hs'⟩ := hw _ hm
    rw [ho] at ho'; cases ho'
    unfold solid at hs'; rw [hd] at hs'; cases hs'
  have cK : ∀ c v, h.IsCell c v → h'.IsCell c v := fun c v hc => by
    obtain ⟨o, ho, hd⟩ := hc
    refine ⟨o, hk _ _ (fun hm => ?_) ho, hd⟩
    obtain ⟨_, _, o', ho', hs'⟩ := hw _ hm
    rw [ho] at ho'; cases ho'
    unfold solid at hs'; rw [hd] at hs'; cases hs'
  refine ⟨⟨fun b o e => hk b o (fun hm => by rw [(hw b hm).2.1] at e; cases e) (f.ok.sub b o e), wB.keep fun b o e => pi' b o (bB b o e), f.ok.stat, fun x hx => ?_, fun x d hx => ?_⟩,
    f.le0, pi', ⟨hB, wB, bB⟩, f.nf, ?_, f.piL, f.sgL, fun x hx => ?_⟩
  · obtain ⟨c, v, h1, h2⟩ := f.ok.cells x hx; exact ⟨c, v, h1, cK _ _ h2⟩
  · obtain ⟨e1, e2, v, hv, hr⟩ := f.ok.vars x d hx
    refine ⟨e1, e2, v, ?_, hr⟩
    rcases hv with ⟨k, m, hm, q⟩ | ⟨k, c, hc, q⟩
    · exact .inl ⟨k, m, nsK _ _ hm, q⟩
    · exact .inr ⟨k, c, hc, cK _ _ q⟩
  · obtain ⟨m, hm⟩ := f.ns; exact ⟨m, nsK _ _ hm⟩
  · obtain ⟨c, v, h1, h2, h3⟩ := f.own x hx; exact ⟨c, v, h1, cK _ _ h2, h3⟩

theorem compTurns_snd {R : Result → Shared → Prop} {elt : Expr} {gens : List Comprehension} {cs : Scope} {pos : Pos} {depth : Nat} {it acc : Value} {x : Str} {px p : Pos} {ifs : List Expr} {act : Sem Unit} (I : Nat → Shared → Prop)
    (heq : compTurn (.ListComp elt gens cs pos) depth it acc env = (standAt p >>= fun _ => pyNext it >>= fun r => match r with
      | none => pure (.done .next)
      | some v => letOwnedTupleGo (.Name x px) it v >>= fun _ => assign (.Name x px) env v >>= fun _ =>
        (forIn ifs true fun c r => if r = true then do let ok ← isTrue c env (eval c env); pure (ForInStep.yield ok) else pure (ForInStep.yield r)) >>= fun ok =>
          if ok = true then act >>= fun _ => again (.compLoop (.ListComp elt gens cs pos) depth it acc env) else again (.compLoop (.ListComp elt gens cs pos) depth it acc env)))
    (turn : ∀ n s, I n s → wpAny (model prog w) A (pyNext it) (fun r s₁ => match r with
      | none => R (.ok .next) s₁
      | some v => wpAny (model prog w) A (assign (.Name x px) env v) (fun _ s₂ =>
          wpAny (model prog w) A (forIn ifs true fun c r => if r = true then do let ok ← isTrue c env (eval c env); pure (ForInStep.yield ok) else pure (ForInStep.yield r)) (fun ok s₃ =>
            if ok = true then wpAny (model prog w) A act (fun _ s₄ => ∃ m, m < n ∧ I m s₄) (notedBy (model prog w) A env fun e s' => R (.error e) s') s₃
            else ∃ m, m < n ∧ I m s₃) (notedBy (model prog w) A env fun e s' => R (.error e) s') s₂) (notedBy (model prog w) A env fun e s' => R (.error e) s') s₁) (notedBy (model prog w) A env fun e s' => R (.error e) s') s)
    (n : Nat) (h : I n s) : codeAny (model prog w) A (.compLoop (.ListComp elt gens cs pos) depth it acc env) R s := by
  refine codeAny_loop rfl I (fun n s hI => ?_) n h
  show wpAny _ A ((compTurn (.ListComp elt gens cs pos) depth it acc env).onRaise (fun x => do noteFrame x env; theTreesLotGoes x)) _ _ s
  refine wpAny_noted ?_
  rw [heq]
  refine wpAny_bind (wpAny_standAt (wpAny_bind (wpAny_mono (turn n s hI) (fun r s₁ h₁ => ?_) fun _ _ h' => h')))
  cases r with
  | none => exact wpAny_pure h₁
  | some v =>
    refine wpAny_bind (wpAny_pure ?_)
    refine wpAny_bind (wpAny_mono h₁ (fun _ s₂ h₂ => wpAny_bind (wpAny_mono h₂ (fun ok s₃ h₃ => ?_) fun _ _ h' => h')) fun _ _ h' => h')
    cases ok with
    | false => exact wpAny_pure ⟨rfl, h₃⟩
    | true => exact wpAny_bind (wpAny_mono h₃ (fun _ s₄ h₄ => wpAny_pure ⟨rfl, h₄⟩) fun _ _ h' => h')

theorem test1_snd {n : Nat} {ev : Ev} {ok : Names → Expr → Bool} (hev : EvOk prog w C fa X n ev ok) (R : Room n A) (o : Ok prog w C fa X σ s.heap env sc ρ) {e : Expr} {post : Bool → Prop}
    (hok : ok1 ok sc e = true) (hp : test1W ev sc ρ e post) {Q : Bool → Shared → Prop} (hQ : ThenB σ s post Q) :
    wpAny (model prog w) A (isTrue e env (eval e env)) Q E s := by
  cases e with
  | Compare l ops rs p =>
    cases ops with
    | nil => exact False.elim hp
    | cons op os =>
    cases os with
    | cons _ _ => exact False.elim hp
    | nil =>
    cases rs with
    | nil => exact False.elim hp
    | cons r rr =>
    cases rr with
    | cons _ _ => exact False.elim hp
    | nil =>
      have hok := Bool.and_eq_true_iff.mp hok
      have ho := Bool.and_eq_true_iff.mp hok.1
      refine wpAny_isTrue_Compare1 (hev _ _ _ _ hp ho.1 R o fun d₁ h₁ v₁ σ₁ H₁ t₁ n₁ r₁ => hev _ _ _ _ h₁ ho.2 R (o.next n₁) fun d₂ h₂ v₂ σ₂ H₂ t₂ n₂ r₂ => ?_) (Bool.not_eq_true' _ |>.mp hok.2)
      refine cmp_snd (s := { s with heap := H₂, toks := t₂ }) R n₂.sub (r₁.mono n₂.le) r₂ h₂ fun c hc tk => ?_
      exact wpAny_truthy_bool (hQ c hc _ _ _ (n₁.trans n₂))
  | Name _ _ => exact wpAny_isTrue_value (hev _ _ _ _ hp hok R o fun d₁ h₁ v₁ σ₁ H₁ t₁ n₁ r₁ => truthy_snd r₁ h₁ fun c hc => hQ c hc _ _ _ n₁)
  | Subscript _ _ _ => exact wpAny_isTrue_value (hev _ _ _ _ hp hok R o fun d₁ h₁ v₁ σ₁ H₁ t₁ n₁ r₁ => truthy_snd r₁ h₁ fun c hc => hQ c hc _ _ _ n₁)
  | Call _ _ _ _ => exact wpAny_isTrue_value (hev _ _ _ _ hp hok R o fun d₁ h₁ v₁ σ₁ H₁ t₁ n₁ r₁ => truthy_snd r₁ h₁ fun c hc => hQ c hc _ _ _ n₁)
  | _ => exact False.elim hp

theorem test_snd {n : Nat} {ev : Ev} {ok : Names → Expr → Bool} (hev : EvOk prog w C fa X n ev ok) (R : Room n A) (o : Ok prog w C fa X σ s.heap env sc ρ) {e : Expr} {post : Bool → Prop}
    (hok : okT ok sc e = true) (hp : testW ev sc ρ e post) {Q : Bool → Shared → Prop} (hQ : ThenB σ s post Q) :
    wpAny (model prog w) A (isTrue e env (eval e env)) Q E s := by
  cases e with
  | BoolOp op vs p =>
    replace hp : boolT ev sc ρ op vs post := hp
    unfold boolT at hp
    split at hp
    · cases op with
      | And =>
        have hok := Bool.and_eq_true_iff.mp hok
        refine wpAny_isTrue_BoolOp (wpAny_allTrue_And_cons (test1_snd hev R o hok.1 hp fun b hb σ₁ H₁ t₁ n₁ => ?_))
        cases b with
        | false => exact hQ _ (hb.2 rfl) _ _ _ n₁
        | true =>
          refine wpAny_allTrue_And_cons (test1_snd (s := { s with heap := H₁, toks := t₁ }) hev R (o.next n₁) hok.2 (hb.1 rfl) fun c hc σ₂ H₂ t₂ n₂ => ?_)
          cases c with
          | false => exact hQ _ hc _ _ _ (n₁.trans n₂)
          | true => exact wpAny_allTrue_And_nil (hQ _ hc _ _ _ (n₁.trans n₂))
      | Or =>
        have hok := Bool.and_eq_true_iff.mp hok
        refine wpAny_isTrue_BoolOp (wpAny_allTrue_Or_cons (test1_snd hev R o hok.1 hp fun b hb σ₁ H₁ t₁ n₁ => ?_))
        cases b with
        | true => exact hQ _ (hb.1 rfl) _ _ _ n₁
        | false =>
          refine wpAny_allTrue_Or_cons (test1_snd (s := { s with heap := H₁, toks := t₁ }) hev R (o.next n₁) hok.2 (hb.2 rfl) fun c hc σ₂ H₂ t₂ n₂ => ?_)
          cases c with
          | true => exact hQ _ hc _ _ _ (n₁.trans n₂)
          | false => exact wpAny_allTrue_Or_nil (hQ _ hc _ _ _ (n₁.trans n₂))
    · exact hp.elim
  | Compare l ops rs p => exact test1_snd (e := .Compare l ops rs p) hev R o hok hp hQ
  | Name x p => exact test1_snd (e := .Name x p) hev R o hok hp hQ
  | Subscript x y p => exact test1_snd (e := .Subscript x y p) hev R o hok hp hQ
  | Call x y z p => exact test1_snd (e := .Call x y z p) hev R o hok hp hQ
  | _ => exact False.elim hp

theorem tests_snd {n : Nat} {ev : Ev} {ok : Names → Expr → Bool} (hev : EvOk prog w C fa X n ev ok) (R : Room n A) (o : Ok prog w C fa X σ s.heap env sc ρ) {ifs : List Expr} {post : Bool → Prop}
    (hok : ifs.all (okT ok sc) = true) (hp : testsW ev sc ρ ifs post) {Q : Bool → Shared → Prop} (hQ : ThenB σ s post Q) :
    wpAny (model prog w) A (forIn ifs true fun c r => if r = true then do let ok ← isTrue c env (eval c env); pure (ForInStep.yield ok) else pure (ForInStep.yield r)) Q E s := by
  unfold testsW at hp
  split at hp
  · exact wpAny_tests_nil (hQ _ hp _ _ _ (Nx.refl o.sub))
  · simp only [List.all_cons, List.all_nil, Bool.and_true] at hok
    exact wpAny_tests_one (test_snd hev R o hok hp hQ)
  · exact hp.elim

theorem loop_snd {n : Nat} {ev : Ev} {ok : Names → Expr → Bool} (hev : EvOk prog w C fa X n ev ok) (R : Room n A) {Rr : Result → Shared → Prop} {elt : Expr} {gens : List Comprehension} {cs : Scope} {pos : Pos} {depth : Nat}
    {it : Value} {x : Str} {px p : Pos} {ifs : List Expr} {act : Sem Unit} {body : Rho → List D → (List D → Prop) → Prop} {h₀ : Heap} {post : List D → Prop} {acc : List D}
    (heq : compTurn (.ListComp elt gens cs pos) depth it (.ref a) env = (standAt p >>= fun _ => pyNext it >>= fun r => match r with
      | none => pure (.done .next)
      | some v => letOwnedTupleGo (.Name x px) it v >>= fun _ => assign (.Name x px) env v >>= fun _ =>
        (forIn ifs true fun c r => if r = true then do let ok ← isTrue c env (eval c env); pure (ForInStep.yield ok) else pure (ForInStep.yield r)) >>= fun ok =>
          if ok = true then act >>= fun _ => again (.compLoop (.ListComp elt gens cs pos) depth it (.ref a) env) else again (.compLoop (.ListComp elt gens cs pos) depth it (.ref a) env)))
    {Pr : Rho → Prop} (hact : ActOk prog w C fa X n σ₀ env sc a Pr act body) (hPr : ∀ d, Pr (setR ρ x d)) (hx : ownName sc x = true) (hxd : (x == ("__debug__" : Str)) = false ∧ (x == ("__classdict__" : Str)) = false) (hρ : ρ x = none) (hifs : ifs.all (okT ok sc) = true)
    {hs : Heap} (src : Src prog w C A σ h₀ hs it ds) (hks : Kept hs s.heap) (hκ : ∀ b o, κ b = some o → h₀.get? b = some o) (hσ : ∀ b o, σ b = some o → h₀.get? b = some o) (ha : hs.get? a = none ∨ (h₀.get? a).isSome = true)
    (f : FS prog w C fa X σ₀ κ σ s.heap env sc ρ) (ac : AccAt prog w C κ σ s.heap a vs acc) (hl : loopW ev sc x ifs body ρ ds acc post)
    (hR : ∀ acc', post acc' → ∀ σ' h' tk vs', FS prog w C fa X σ₀ κ σ' h' env sc ρ → AccAt prog w C κ σ' h' a vs' acc' → Le σ σ' → Rr (.ok .next) { s with heap := h', toks := tk }) :
    codeAny (model prog w) A (.compLoop (.ListComp elt gens cs pos) depth it (.ref a) env) Rr s := by
  obtain ⟨I, fp, wr, P, St, rfl, W, hst, hP, hsol, hwr, hfp⟩ := src
  have hκw : ∀ b ∈ wr, κ b = none := fun b hb => by
    cases q : κ b with
    | none => rfl
    | some o => have := hκ b o q; rw [hwr b hb] at this; cases this
  have hσw : ∀ b ∈ wr, σ b = none := fun b hb => by
    cases q : σ b with
    | none => rfl
    | some o => have := hσ b o q; rw [hwr b hb] at this; cases this
  have haW : a ∉ wr := fun hm => by
    rcases ha with ha | ha
    · obtain ⟨o, ho, _⟩ := (hsol _ _ hst).1 a (W.sub a hm); rw [ha] at ho; cases ho
    · rw [hwr a hm] at ha; cases ha
  have hst : St 0 s.heap := W.frame _ _ _ hst fun b _ o e => hks b o e
  refine compTurns_snd (act := act) (fun k s' => ∃ σ₁ h₁ tk₁ vs₁ acc₁ done rest, s' = { s with heap := h₁, toks := tk₁ } ∧ ds = done ++ rest ∧ k = rest.length + 1 ∧ St done.length h₁ ∧
      FS prog w C fa X σ₀ κ σ₁ h₁ env sc ρ ∧ AccAt prog w C κ σ₁ h₁ a vs₁ acc₁ ∧ Le σ σ₁ ∧ (∀ b ∈ wr, σ₁ b = none) ∧ loopW ev sc x ifs body ρ rest acc₁ post) heq ?_ (ds.length + 1)
    ⟨σ, s.heap, s.toks, vs, acc, [], ds, rfl, rfl, rfl, hst, f, ac, .refl _, hσw, hl⟩
  rintro k s' ⟨σ₁, h₁, tk₁, vs₁, acc₁, done, rest, rfl, hds, rfl, st₁, f₁, ac₁, le₁, hw₁, hl₁⟩
  have hiter : ∀ h, (∀ b o, b ∉ wr → h₁.get? b = some o → h.get? b = some o) → FS prog w C fa X σ₀ κ σ₁ h env sc ρ ∧ AccAt prog w C κ σ₁ h a vs₁ acc₁ := fun h hk =>
    ⟨f₁.iter hk fun b hb => ⟨hκw b hb, hw₁ b hb, (hsol _ _ st₁).1 b (W.sub b hb)⟩, let ⟨m, e⟩ := ac₁.get; ⟨⟨m, hk _ _ haW e⟩, ac₁.rp, ac₁.ka, ac₁.sa⟩⟩
  cases rest with
  | nil =>
    have hlen : done.length = ds.length := by rw [hds]; simp
    refine W.done _ _ _ (hlen ▸ st₁) fun h₂ tk₂ hk => ?_
    obtain ⟨f₂, ac₂⟩ := hiter h₂ hk
    exact hR _ hl₁ _ _ _ _ f₂ ac₂ le₁
  | cons d r =>
    have hlt : done.length < ds.length := by rw [hds]; simp
    refine W.item done.length _ _ _ hlt st₁ fun v h₂ tk₂ hPv st₂ hk => ?_
    obtain ⟨f₂, ac₂⟩ := hiter h₂ hk
    obtain ⟨d', hd', hr'⟩ := hP _ _ hPv
    have : d' = d := by rw [hds] at hd'; simpa using hd'.symm
    subst this
    have hgrow : ∀ b ∈ wr, ∃ o, h₂.get? b = some o ∧ solid o = true ∧ σ₁ b = none := fun b hb =>
      let ⟨o, h1, h2⟩ := (hsol _ _ st₂).1 b (W.sub b hb); ⟨o, h1, h2, hw₁ b hb⟩
    have f₃ := f₂.grow hgrow
    have kW : ∀ b ∈ wr, (shield κ wr h₂) b = h₂.get? b := fun b hb => if_pos hb
    have kN : ∀ b, b ∉ wr → (shield κ wr h₂) b = κ b := fun b hb => if_neg hb
    refine wpAny_assign_Name (store_snd (s := { s with heap := h₂, toks := tk₂ }) f₃ hx hxd (hr'.mono le₁) fun h₄ tk₄ f₄ sol₄ => ?_)
    have ac₄ : AccAt prog w C (shield κ wr h₂) σ₁ h₄ a vs₁ acc₁ := let z := ac₂.solidKeep sol₄; ⟨z.get, z.rp, by rw [kN a haW]; exact z.ka, z.sa⟩
    -- the turn's end
    have back : ∀ σ₅ h₅ tk₅ vs₅ acc₅, FS prog w C fa X σ₀ (shield κ wr h₂) σ₅ h₅ env sc (setR ρ x d') → AccAt prog w C (shield κ wr h₂) σ₅ h₅ a vs₅ acc₅ → Le σ₁ σ₅ → loopW ev sc x ifs body ρ r acc₅ post →
        ∃ m, m < (d' :: r).length + 1 ∧ ∃ σ₁ h₁ tk₁ vs₁ acc₁ done rest, ({ s with heap := h₅, toks := tk₅ } : Shared) = { s with heap := h₁, toks := tk₁ } ∧ ds = done ++ rest ∧ m = rest.length + 1 ∧ St done.length h₁ ∧
          FS prog w C fa X σ₀ κ σ₁ h₁ env sc ρ ∧ AccAt prog w C κ σ₁ h₁ a vs₁ acc₁ ∧ Le σ σ₁ ∧ (∀ b ∈ wr, σ₁ b = none) ∧ loopW ev sc x ifs body ρ rest acc₁ post := by
      intro σ₅ h₅ tk₅ vs₅ acc₅ f₅ ac₅ le₅ hl₅
      refine ⟨r.length + 1, by simp, σ₅, h₅, tk₅, vs₅, acc₅, done ++ [d'], r, rfl, by rw [hds]; simp, rfl, ?_, ?_, ?_, le₁.trans le₅, ?_, hl₅⟩
      · have : (done ++ [d']).length = done.length + 1 := by simp
        rw [this]
        refine W.frame _ _ _ st₂ fun b hb o e => ?_
        rcases hfp b hb with hb' | ⟨o', ho'⟩
        · exact f₅.pi b o (by rw [kW b hb']; exact e)
        · have h1 := f₂.ok.sub b o' (le₁ b o' ho')
          rw [e] at h1; cases h1
          exact f₅.ok.sub b o (le₅ _ _ (le₁ b o ho'))
      · refine (f₅.shrink (fun b o e => ?_) (fun b e => ?_) f₁.bas).rho fun y d hy => ?_
        · by_cases hb : b ∈ wr
          · rw [hκw b hb] at e; cases e
          · rw [kN b hb]; exact e
        · by_cases hb : b ∈ wr
          · exact hκw b hb
          · rw [kN b hb] at e; exact e
        · unfold setR
          split
          · rename_i e; subst e; rw [hρ] at hy; cases hy
          · exact hy
      · exact ⟨ac₅.get, ac₅.rp, ac₁.ka, ac₅.sa⟩
      · intro b hb
        refine f₅.nf b ?_ (by rw [kW b hb]; obtain ⟨o, ho, _⟩ := hgrow b hb; rw [ho]; rfl)
        cases q : σ₀ b with
        | none => rfl
        | some o => have := f₁.le0 b o q; rw [hw₁ b hb] at this; cases this
    refine tests_snd (s := { s with heap := h₄, toks := tk₄ }) hev R f₄.ok hifs hl₁ fun b hb σ₅ h₅ tk₅ n₅ => ?_
    cases b with
    | false =>
      simp only [Bool.false_eq_true, if_false]
      exact back σ₅ h₅ tk₅ _ _ (f₄.next n₅) (ac₄.next n₅) n₅.le (hb.2 rfl)
    | true =>
      simp only [if_true]
      exact hact (s := { s with heap := h₅, toks := tk₅ }) R (hPr d') (f₄.next n₅) (ac₄.next n₅) (hb.1 rfl) fun acc₆ hp₆ σ₆ h₆ tk₆ vs₆ f₆ ac₆ le₆ => back σ₆ h₆ tk₆ vs₆ acc₆ f₆ ac₆ (n₅.le.trans le₆) hp₆
end
end Mine.Internal

namespace Mine.Internal

theorem turn1 (elt it0 : Expr) (x : Str) (px : Pos) (ifs : List Expr) (scope : Scope) (pos : Pos) (it acc : Value) (env : Env) :
    compTurn (.ListComp elt [⟨.Name x px, it0, ifs, 0⟩] scope pos) 0 it acc env = (standAt it0.pos >>= fun _ => pyNext it >>= fun r => match r with
      | none => pure (.done .next)
      | some v => letOwnedTupleGo (.Name x px) it v >>= fun _ => assign (.Name x px) env v >>= fun _ =>
        (forIn ifs true fun c r => if r = true then do let ok ← isTrue c env (eval c env); pure (ForInStep.yield ok) else pure (ForInStep.yield r)) >>= fun ok =>
          if ok = true then (eval elt env >>= fun y => call (.builtin "list.append") [acc, y] >>= fun _ => pure ()) >>= fun _ => again (.compLoop (.ListComp elt [⟨.Name x px, it0, ifs, 0⟩] scope pos) 0 it acc env)
          else again (.compLoop (.ListComp elt [⟨.Name x px, it0, ifs, 0⟩] scope pos) 0 it acc env)) := rfl
theorem turn2in (elt it0 jt : Expr) (x y : Str) (px py : Pos) (ifs : List Expr) (scope : Scope) (pos : Pos) (it acc : Value) (env : Env) :
    compTurn (.ListComp elt [⟨.Name x px, it0, [], 0⟩, ⟨.Name y py, jt, ifs, 0⟩] scope pos) 1 it acc env = (standAt jt.pos >>= fun _ => pyNext it >>= fun r => match r with
      | none => pure (.done .next)
      | some v => letOwnedTupleGo (.Name y py) it v >>= fun _ => assign (.Name y py) env v >>= fun _ =>
        (forIn ifs true fun c r => if r = true then do let ok ← isTrue c env (eval c env); pure (ForInStep.yield ok) else pure (ForInStep.yield r)) >>= fun ok =>
          if ok = true then (eval elt env >>= fun y => call (.builtin "list.append") [acc, y] >>= fun _ => pure ()) >>= fun _ => again (.compLoop (.ListComp elt [⟨.Name x px, it0, [], 0⟩, ⟨.Name y py, jt, ifs, 0⟩] scope pos) 1 it acc env)
          else again (.compLoop (.ListComp elt [⟨.Name x px, it0, [], 0⟩, ⟨.Name y py, jt, ifs, 0⟩] scope pos) 1 it acc env)) := rfl
noncomputable def innerAct (e : Expr) (jt : Expr) (acc : Value) (env : Env) : Sem Unit :=
  eval jt env >>= fun x1 => standAt jt.pos >>= fun _ => foldedSetIterable jt env x1 >>= fun x1 => holding [x1] (pyIter x1) >>= fun i2 => runOwn (.compStart e 1 i2 acc env) env >>= fun _ => pure ()
theorem turn2out (elt it0 jt : Expr) (x y : Str) (px py : Pos) (ifs : List Expr) (scope : Scope) (pos : Pos) (it acc : Value) (env : Env) :
    compTurn (.ListComp elt [⟨.Name x px, it0, [], 0⟩, ⟨.Name y py, jt, ifs, 0⟩] scope pos) 0 it acc env = (standAt it0.pos >>= fun _ => pyNext it >>= fun r => match r with
      | none => pure (.done .next)
      | some v => letOwnedTupleGo (.Name x px) it v >>= fun _ => assign (.Name x px) env v >>= fun _ =>
        (forIn ([] : List Expr) true fun c r => if r = true then do let ok ← isTrue c env (eval c env); pure (ForInStep.yield ok) else pure (ForInStep.yield r)) >>= fun ok =>
          if ok = true then innerAct (.ListComp elt [⟨.Name x px, it0, [], 0⟩, ⟨.Name y py, jt, ifs, 0⟩] scope pos) jt acc env >>= fun _ => again (.compLoop (.ListComp elt [⟨.Name x px, it0, [], 0⟩, ⟨.Name y py, jt, ifs, 0⟩] scope pos) 0 it acc env)
          else again (.compLoop (.ListComp elt [⟨.Name x px, it0, [], 0⟩, ⟨.Name y py, jt, ifs, 0⟩] scope pos) 0 it acc env)) := by
  unfold innerAct
  simp only [bind_assoc, pure_bind]
  rfl

noncomputable def noSet : Expr → Bool
  | .Set .. => false
  | _ => true
theorem noSet_eq {e : Expr} (h : noSet e = true) (env : Env) (x : Value) : foldedSetIterable e env x = pure x := by
  cases e <;> first | rfl | (cases h)

section
variable {prog : Program} {w : World} {C : Addr} {fa : Str → Option Addr} {X : Heap → Prop} {A : Around} {E : Value → Shared → Prop} {s : Shared}
  {σ₀ κ σ σ' : Sg} {h h' : Heap} {env : Env} {sc : Names} {ρ : Rho} {a : Addr} {vs : List Value} {ds : List D}

theorem emit_act {n : Nat} {ev : Ev} {ok : Names → Expr → Bool} (hev : EvOk prog w C fa X n ev ok) {elt : Expr} (hok : ok sc elt = true) (P : Rho → Prop) :
    ActOk prog w C fa X n σ₀ env sc a P (eval elt env >>= fun y => call (.builtin "list.append") [.ref a, y] >>= fun _ => pure ()) (emitW ev sc elt) := by
  intro A κ σ ρ acc vs post s Q E R _ f ac hp hQ
  refine wpAny_bind (hev _ _ _ _ hp hok R f.ok fun d hd v σ₁ h₁ tk₁ n₁ r₁ => ?_)
  have f₁ := f.next n₁
  have ac₁ := ac.next n₁
  obtain ⟨m, e⟩ := ac₁.get
  refine wpAny_bind (wpAny_list_append_plain (s := { s with heap := h₁, toks := tk₁ }) (l := a) (items := vs.toArray) ⟨m, e⟩ (fun h₂ hl hsb => wpAny_pure ?_) (by simp only [List.size_toArray]; rw [ac₁.rp.length]; exact sl hd.1))
  have f₂ := f₁.iter (wr := [a]) (h' := h₂) (fun b o hb e => (hsb.2 b (by simpa using hb)).trans e) fun b hb => by
    simp only [List.mem_singleton] at hb; subst hb; exact ⟨ac₁.ka, ac₁.sa, _, e, rfl⟩
  refine hQ _ hd.2 σ₁ h₂ tk₁ (vs ++ [v]) f₂ ⟨?_, ac₁.rp.append (.cons r₁ .nil), ac₁.ka, ac₁.sa⟩ n₁.le
  obtain ⟨m', e'⟩ := hl
  exact ⟨m', by rw [e']; simp [W.listOf]⟩

theorem codeAny_compStart1 {Rr : Result → Shared → Prop} {elt it0 jt : Expr} {x y : Str} {px py : Pos} {ifs : List Expr} {scope : Scope} {pos : Pos} {it acc : Value}
    (h0 : codeAny (model prog w) A (.compLoop (.ListComp elt [⟨.Name x px, it0, [], 0⟩, ⟨.Name y py, jt, ifs, 0⟩] scope pos) 1 it acc env) Rr s)
    (h : wpAny (model prog w) A (pyIter it) (fun it' s' => codeAny (model prog w) A (.compLoop (.ListComp elt [⟨.Name x px, it0, [], 0⟩, ⟨.Name y py, jt, ifs, 0⟩] scope pos) 1 it' acc env) Rr s')
      (notedBy (model prog w) A env fun x s' => Rr (.error x) s') s) :
    codeAny (model prog w) A (.compStart (.ListComp elt [⟨.Name x px, it0, [], 0⟩, ⟨.Name y py, jt, ifs, 0⟩] scope pos) 1 it acc env) Rr s := by
  refine codeAny_of_tree ?_
  show wpAny _ _ ((compStart (.ListComp elt [⟨.Name x px, it0, [], 0⟩, ⟨.Name y py, jt, ifs, 0⟩] scope pos) 1 it acc env).onRaise (fun x => do noteFrame x env; standAt theWindowsPlace)) _ _ s
  refine wpAny_notedAt ?_
  unfold compStart
  show wpAny _ _ (ask >>= _) _ _ s
  refine wpAny_bind (wpAny_askSetting (wpAny_ite ?_))
  split
  · first
      | exact wpAny_bind (wpAny_pure (wpAny_pure (And.intro rfl h0)))
      | exact wpAny_pure (And.intro rfl h0)
  · first
      | exact wpAny_bind (wpAny_rule (wpAny_bind (wpAny_standAt (wpAny_bind (wpAny_mono h (fun it' s' h' => wpAny_pure (And.intro rfl h')) fun _ _ x => x)))))
      | (refine wpAny_bind (wpAny_rule ?_); show wpAny _ _ (standAt jt.pos >>= _) _ _ s; exact wpAny_bind (wpAny_standAt (wpAny_bind (wpAny_mono h (fun it' s' h' => wpAny_pure (And.intro rfl h')) fun _ _ x => x))))

theorem Src.self {h₀ : Heap} {it : Value} {Q : Value → Shared → Prop} (src : Src prog w C A σ h₀ s.heap it ds) (h : Q it s) : wpAny (model prog w) A (pyIter it) Q E s := by
  obtain ⟨I, fp, wr, P, St, rfl, W, hst, _⟩ := src
  exact W.self 0 s Q E hst h

theorem Src.self' {h₀ h : Heap} {it : Value} {Q : Value → Shared → Prop} (src : Src prog w C A σ h₀ h it ds) (k : Kept h s.heap) (h : Q it s) : wpAny (model prog w) A (pyIter it) Q E s := by
  obtain ⟨I, fp, wr, P, St, rfl, W, hst, _⟩ := src
  exact W.self 0 s Q E (W.frame _ _ _ hst fun b _ o e => k b o e) h

theorem inner_act {n : Nat} {ev : Ev} {ok : Names → Expr → Bool} (hev : EvOk prog w C fa X n ev ok) {elt it0 jt : Expr} {x y : Str} {px py : Pos} {ifs : List Expr} {scope : Scope} {pos : Pos}
    (hok : ok sc elt = true) (hjt : ok sc jt = true) (hns : noSet jt = true) (hy : ownName sc y = true) (hyd : (y == ("__debug__" : Str)) = false ∧ (y == ("__classdict__" : Str)) = false) (hifs : ifs.all (okT ok sc) = true):
    ActOk prog w C fa X n σ₀ env sc a (fun ρ => ρ y = none) (innerAct (.ListComp elt [⟨.Name x px, it0, [], 0⟩, ⟨.Name y py, jt, ifs, 0⟩] scope pos) jt (.ref a) env)
      (fun ρ acc post => ev sc ρ jt fun s => itemsW s fun es => loopW ev sc y ifs (emitW ev sc elt) ρ es acc post) := by
  intro A κ σ ρ acc vs post s Q E R hP f ac hp hQ
  unfold innerAct
  refine wpAny_bind (hev _ _ _ _ hp hjt R f.ok fun d hd v σ₁ h₁ tk₁ n₁ r₁ => wpAny_bind (wpAny_standAt (wpAny_bind (wpAny_of_eq (noSet_eq hns env v) (wpAny_bind (wpAny_holding ?_))))))
  have f₁ := f.next n₁
  have ac₁ := ac.next n₁
  refine iter_snd (s := { s with heap := h₁, toks := tk₁ }) R n₁.sub r₁ hd fun es hes hlen it h₂ k₂ src => ?_
  have n₂ : Nx σ₁ h₁ σ₁ h₂ := Nx.grow n₁.sub k₂
  have f₂ := f₁.next n₂
  have ac₂ := ac₁.next n₂
  have fin : codeAny (model prog w) A (.compLoop (.ListComp elt [⟨.Name x px, it0, [], 0⟩, ⟨.Name y py, jt, ifs, 0⟩] scope pos) 1 it (.ref a) env)
      (fun r s' => match r with | .ok fl => (fun _ s' => Q () s') fl s' | .error e => cameBackBy (model prog w) A env E e s') { s with heap := h₂, toks := tk₁ } := by
    refine loop_snd (s := { s with heap := h₂, toks := tk₁ }) hev R (turn2in elt it0 jt x y px py ifs scope pos it (.ref a) env) (emit_act hev hok (fun _ => True)) (fun _ => trivial) hy hyd hP hifs src (.refl _) (fun b o e => f₁.pi b o e) (fun b o e => n₁.sub b o e) (.inr ?_) f₂ ac₂ hes
      fun acc' hpost σ₃ h₃ tk₃ vs₃ f₃ ac₃ le₃ => hQ acc' hpost σ₃ h₃ tk₃ vs₃ f₃ ac₃ (n₁.le.trans le₃)
    obtain ⟨m, e⟩ := ac₁.get
    show (h₁.get? a).isSome = true
    rw [e]; rfl
  refine wpAny_bind (wpAny_runOwn (Q := fun _ s' => wpAny (model prog w) A (pure ()) Q E s') (codeAny_mono (codeAny_compStart1 fin (src.self (s := { s with heap := h₂, toks := tk₁ }) fin)) fun r s' hr => ?_))
  cases r with
  | ok fl => exact wpAny_pure hr
  | error e => exact hr
end
end Mine.Internal

namespace Mine.Internal

noncomputable def zeroOf (x : Str) : Int → Option Str
  | .ofNat n => (match n with
    | 0 => some x
    | _ + 1 => none)
  | .negSucc _ => none
noncomputable def genOf (g : Comprehension) : Option Str := match nmOf g.target with
  | some x => zeroOf x g.is_async
  | none => none
theorem genOf_inv {g : Comprehension} {x : Str} (h : genOf g = some x) : ∃ p it ifs, g = ⟨.Name x p, it, ifs, 0⟩ := by
  obtain ⟨t, it, ifs, k⟩ := g
  have h : (match nmOf t with | some x => zeroOf x k | none => none) = some x := h
  cases hn : nmOf t with
  | none => rw [hn] at h; exact noS h
  | some y =>
    rw [hn] at h
    cases k with
    | negSucc _ => exact noS h
    | ofNat k =>
    cases k with
    | succ _ => exact noS h
    | zero =>
      cases h
      obtain ⟨p, rfl⟩ := nmOf_inv hn
      exact ⟨p, it, ifs, rfl⟩
noncomputable def c1Ok (ok : Names → Expr → Bool) (sc : Names) (elt : Expr) (cs : Scope) (x : Str) (it : Expr) (ifs : List Expr) : Bool :=
  ok sc it && noSet it && ownName cs.names x && (x != ("__debug__" : Str)) && (x != ("__classdict__" : Str)) && ifs.all (okT ok cs.names) && ok cs.names elt
noncomputable def c2Ok (ok : Names → Expr → Bool) (sc : Names) (elt : Expr) (cs : Scope) (x y : Str) (it jt : Expr) (ifs : List Expr) : Bool :=
  ok sc it && noSet it && ownName cs.names x && (x != ("__debug__" : Str)) && (x != ("__classdict__" : Str)) && (x != y) &&
    ownName cs.names y && (y != ("__debug__" : Str)) && (y != ("__classdict__" : Str)) && ok cs.names jt && noSet jt && ifs.all (okT ok cs.names) && ok cs.names elt
noncomputable def compOk (ok : Names → Expr → Bool) (sc : Names) (elt : Expr) (gens : List Comprehension) (cs : Scope) : Bool :=
  scOk sc cs && (match gens with
    | [g] => (match genOf g with
      | some x => c1Ok ok sc elt cs x g.iter g.ifs
      | none => false)
    | [g, g2] => (match genOf g with
      | some x => (match genOf g2 with
        | some y => (match g.ifs with
          | [] => c2Ok ok sc elt cs x y g.iter g2.iter g2.ifs
          | _ => false)
        | none => false)
      | none => false)
    | _ => false)

theorem comp_inv {ok : Names → Expr → Bool} {sc : Names} {elt : Expr} {gens : List Comprehension} {cs : Scope} (h : compOk ok sc elt gens cs = true) : scOk sc cs = true ∧
    ((∃ x p it ifs, gens = [⟨.Name x p, it, ifs, 0⟩] ∧ (ok sc it && noSet it && ownName cs.names x && (x != ("__debug__" : Str)) && (x != ("__classdict__" : Str)) && ifs.all (okT ok cs.names) && ok cs.names elt) = true) ∨
     (∃ x p it y q jt ifs, gens = [⟨.Name x p, it, [], 0⟩, ⟨.Name y q, jt, ifs, 0⟩] ∧ (ok sc it && noSet it && ownName cs.names x && (x != ("__debug__" : Str)) && (x != ("__classdict__" : Str)) && (x != y) &&
        ownName cs.names y && (y != ("__debug__" : Str)) && (y != ("__classdict__" : Str)) && ok cs.names jt && noSet jt && ifs.all (okT ok cs.names) && ok cs.names elt) = true)) := by
  have b := Bool.and_eq_true_iff.mp h
  refine ⟨b.1, ?_⟩
  have h := b.2
  clear b
  cases gens with
  | nil => cases h
  | cons g gs =>
    cases gs with
    | nil =>
      cases hg : genOf g with
      | none => replace h : (match genOf g with | some x => c1Ok ok sc elt cs x g.iter g.ifs | none => false) = true := h; rw [hg] at h; cases h
      | some x =>
        replace h : (match genOf g with | some x => c1Ok ok sc elt cs x g.iter g.ifs | none => false) = true := h
        rw [hg] at h
        obtain ⟨p, it, ifs, rfl⟩ := genOf_inv hg
        exact .inl ⟨x, p, it, ifs, rfl, h⟩
    | cons g2 gs =>
      cases gs with
      | cons _ _ => cases h
      | nil =>
        replace h : (match genOf g with | some x => (match genOf g2 with | some y => (match g.ifs with | [] => c2Ok ok sc elt cs x y g.iter g2.iter g2.ifs | _ => false) | none => false) | none => false) = true := h
        cases hg : genOf g with
        | none => rw [hg] at h; cases h
        | some x =>
          rw [hg] at h
          cases hg2 : genOf g2 with
          | none => rw [hg2] at h; cases h
          | some y =>
            rw [hg2] at h
            obtain ⟨p, it, ifs, rfl⟩ := genOf_inv hg
            obtain ⟨q, jt, jfs, rfl⟩ := genOf_inv hg2
            cases ifs with
            | cons _ _ => cases h
            | nil => exact .inr ⟨x, p, it, y, q, jt, jfs, rfl, h⟩

theorem own_inner {sc : Names} {ρ : Rho} {x : Str} (h : ownName sc x = true) : inner sc ρ x = none := by
  unfold inner
  unfold ownName at h
  rcases Bool.or_eq_true_iff.mp h with h | h <;> rw [beq_iff_eq.mp h]

section
variable {prog : Program} {w : World} {C : Addr} {fa : Str → Option Addr} {X : Heap → Prop} {A : Around} {E : Value → Shared → Prop} {s : Shared}
  {σ₀ κ σ σ' : Sg} {h h' : Heap} {env : Env} {sc : Names} {ρ : Rho} {a : Addr} {vs : List Value} {ds : List D}

variable (prog w C) in
structure CompEnd (σ : Sg) (h : Heap) (σ' : Sg) (h' : Heap) (a L : Addr) (ds : List D) : Prop where
  nx : Nx σ h σ' h'
  rp : Rp prog w C σ' (.ref a) (.list ds)
  ns : ∃ m, h'.Ns L m
  new : h.get? L = none
  free : σ' L = none

theorem scopeNames {sc : Names} {cs : Scope} (h : scOk sc cs = true) : cs.kind = .function ∧ (∀ x ∈ cs.names, x.2 = .local → cs.names.lookup x.1 = some .local) ∧
    ∀ n, (n, NameKind.free) ∈ cs.names → sc.lookup n = some .cell ∨ sc.lookup n = some .free := by
  unfold scOk at h
  simp only [Bool.and_eq_true, beq_iff_eq, decide_eq_true_eq, List.all_eq_true] at h
  obtain ⟨⟨h1, h2⟩, h3⟩ := h
  refine ⟨h1, fun x hx e => lookup_of_mem h2 (by rw [← e]; exact hx), fun n hn => ?_⟩
  have := h3 _ hn
  simpa using this

theorem comp_core {n : Nat} {ev : Ev} {ok : Names → Expr → Bool} (hev : EvOk prog w C fa X n ev ok) (R : Room n A) (o : Ok prog w C fa X σ s.heap env sc ρ) {elt : Expr} {g : Comprehension} {gs : List Comprehension} {cs : Scope} {pos pos' : Pos}
    (hok : compOk ok sc elt (g :: gs) cs = true) {post : List D → Prop} (hp : ev sc ρ g.iter fun s => itemsW s fun ds => compW ev cs.names elt (g :: gs) (inner cs.names ρ) ds [] post) {use : Option (Value → Sem Unit)} {Q : Value → Shared → Prop}
    (hQ : ∀ vs, post vs → ∀ σ' h' tk a L, CompEnd prog w C σ s.heap σ' h' a L vs → compPost (model prog w) A E use Q (.ref a) L (.ok .next) { s with heap := h', toks := tk }) :
    wpAny (model prog w) A (comprehension (.ListComp elt (g :: gs) cs pos) cs env pos' (newList []) false (eval g.iter env) use) Q E s := by
  replace hok := comp_inv hok
  obtain ⟨hsc, hok⟩ := hok
  obtain ⟨hkind, hnames, hfree⟩ := scopeNames hsc
  have hcells : ∀ n, (n, NameKind.free) ∈ cs.names → (env.cells.lookup n).isSome = true := fun n hn => by
    obtain ⟨c, v, h1, _⟩ := o.cells n (hfree n hn); rw [h1]; rfl
  have hit : ok sc g.iter = true ∧ noSet g.iter = true := by
    rcases hok with ⟨_, _, _, _, e, hok⟩ | ⟨_, _, _, _, _, _, _, e, hok⟩
    · cases e; simp only [Bool.and_eq_true] at hok; exact ⟨hok.1.1.1.1.1.1, hok.1.1.1.1.1.2⟩
    · cases e; simp only [Bool.and_eq_true] at hok; exact ⟨hok.1.1.1.1.1.1.1.1.1.1.1.1, hok.1.1.1.1.1.1.1.1.1.1.1.2⟩
  refine wpAny_comprehension_free rfl (fun x => noSet_eq hit.2 env x) (closure_eq hcells) hkind hnames ?_
  refine hev _ _ _ _ hp hit.1 R o fun d hd v σ₁ h₁ tk₁ n₁ r₁ => ?_
  refine iter_snd (s := { s with heap := h₁, toks := tk₁ }) R n₁.sub r₁ hd fun ds hds hlen it h₂ k₂ src => ?_
  have n₂ : Nx σ₁ h₁ σ₁ h₂ := Nx.grow n₁.sub k₂
  have o₂ := (o.next n₁).next n₂
  refine wpAny_newObj_type ?_
  dsimp only
  have kp : Kept h₂ (h₂.push (W.listOf ([] : List Value).toArray 0)) := .push _ _
  have n₃ : Nx σ₁ h₂ σ₁ (h₂.push (W.listOf ([] : List Value).toArray 0)) := Nx.grow n₂.sub kp
  have o₃ := o₂.next n₃
  refine newEnv_snd (s := { s with heap := h₂.push (W.listOf ([] : List Value).toArray 0), toks := tk₁ }) ?_
  dsimp only
  obtain ⟨f, k₄⟩ := comp_start (s := { s with heap := h₂.push (W.listOf ([] : List Value).toArray 0), toks := tk₁ }) (h₀ := h₁) o₃ hsc (k₂.trans kp) (o.next n₁).wd
  dsimp only at f k₄
  generalize hL : (h₂.push (W.listOf ([] : List Value).toArray 0)).objs.size = L at f k₄ ⊢
  generalize hH : pushCells ((h₂.push (W.listOf ([] : List Value).toArray 0)).push { cls := .type "dict", data := .dict #[] }) cs.names = h₄ at f k₄ ⊢
  have haL : L ≠ h₂.objs.size := by rw [← hL, Heap.size_push]; exact Nat.succ_ne_self _
  have hL2 : h₂.get? L = none := by
    cases q : h₂.get? L with
    | none => rfl
    | some o => have := Heap.lt_size q; rw [← hL, Heap.size_push] at this; exact absurd this (Nat.not_lt.mpr (Nat.le_succ _))
  have none1 : ∀ b, h₂.get? b = none → h₁.get? b = none := fun b hb => by
    cases q : h₁.get? b with
    | none => rfl
    | some o => have := k₂ _ _ q; rw [hb] at this; cases this
  have ac : AccAt prog w C (fun b => h₁.get? b) σ₁ h₄ h₂.objs.size [] [] :=
    ⟨⟨0, k₄ _ _ (Heap.get?_push_size _ rfl)⟩, .nil, none1 _ (get?_size _), none_of_sub n₂.sub (get?_size _)⟩
  have hκ : ∀ b o, h₂.get? b = some o → b ≠ h₂.objs.size := fun b o e => Nat.ne_of_lt (Heap.lt_size e)
  have kh : Kept h₂ h₄ := kp.trans k₄
  -- the end
  have fin : ∀ vs', post vs' → ∀ σ' h' tk us, FS prog w C fa X σ₁ (fun b => h₁.get? b) σ' h' (cenvOf cs env L) cs.names (inner cs.names ρ) → AccAt prog w C (fun b => h₁.get? b) σ' h' h₂.objs.size us vs' → Le σ₁ σ' →
      compPost (model prog w) A E use Q (.ref h₂.objs.size) L (.ok .next) { s with heap := h', toks := tk } := by
    intro vs' hv σ' h' tk us f' ac' le'
    obtain ⟨m, e⟩ := ac'.get
    have hL' : σ' L = none := f'.sgL
    refine hQ vs' hv (addS σ' h₂.objs.size (W.listOf us.toArray m)) h' tk _ L ⟨⟨(n₁.le.trans le').trans (addS_le ac'.sa), addS_sub f'.ok.sub e, fun b o q => f'.pi b o (n₁.kept b o q), ?_⟩, .list (addS_self _ _ _) (ac'.rp.mono (addS_le ac'.sa)), f'.ns, ?_, ?_⟩
    · intro b hb hs
      have h1s := Kept.isSome n₁.kept hs
      have h2s := Kept.isSome k₂ h1s
      have : σ' b = none := f'.nf b (n₁.newf b hb hs) h1s
      unfold addS
      rw [if_neg (by rintro rfl; rw [get?_size] at h2s; cases h2s)]
      exact this
    · cases q : s.heap.get? L with
      | none => rfl
      | some o => have := k₂ _ _ (n₁.kept _ _ q); rw [hL2] at this; cases this
    · unfold addS; rw [if_neg haL]; exact hL'
  rcases hok with ⟨x, px, it0, ifs, e, hok⟩ | ⟨x, px, it0, y, py, jt, ifs, e, hok⟩
  · cases e
    simp only [Bool.and_eq_true, bne_iff_ne] at hok
    obtain ⟨⟨⟨⟨⟨⟨_, _⟩, hx⟩, hx1⟩, hx2⟩, hifs⟩, helt⟩ := hok
    have loop : codeAny (model prog w) A (.compLoop (.ListComp elt [⟨.Name x px, it0, ifs, 0⟩] cs pos) 0 it (.ref h₂.objs.size) (cenvOf cs env L)) (compPost (model prog w) A E use Q (.ref h₂.objs.size) L) { s with heap := h₄, toks := tk₁ } :=
      loop_snd (s := { s with heap := h₄, toks := tk₁ }) hev R (turn1 elt it0 x px ifs cs pos it (.ref h₂.objs.size) (cenvOf cs env L)) (emit_act hev helt (fun _ => True)) (fun _ => trivial) hx
        ⟨beq_eq_false_iff_ne.mpr hx1, beq_eq_false_iff_ne.mpr hx2⟩ (own_inner hx) hifs src kh (fun b o e => e) (fun b o e => n₁.sub b o e) (.inl (get?_size _)) f ac hds fin
    exact codeAny_compStart_list loop (src.self' kh loop)
  · cases e
    simp only [Bool.and_eq_true, bne_iff_ne] at hok
    obtain ⟨⟨⟨⟨⟨⟨⟨⟨⟨⟨⟨⟨_, _⟩, hx⟩, hx1⟩, hx2⟩, hxy⟩, hy⟩, hy1⟩, hy2⟩, hjt⟩, hns⟩, hifs⟩, helt⟩ := hok
    have loop : codeAny (model prog w) A (.compLoop (.ListComp elt [⟨.Name x px, it0, [], 0⟩, ⟨.Name y py, jt, ifs, 0⟩] cs pos) 0 it (.ref h₂.objs.size) (cenvOf cs env L)) (compPost (model prog w) A E use Q (.ref h₂.objs.size) L) { s with heap := h₄, toks := tk₁ } :=
      loop_snd (s := { s with heap := h₄, toks := tk₁ }) hev R (turn2out elt it0 jt x y px py ifs cs pos it (.ref h₂.objs.size) (cenvOf cs env L))
        (inner_act hev helt hjt hns hy ⟨beq_eq_false_iff_ne.mpr hy1, beq_eq_false_iff_ne.mpr hy2⟩ hifs) (fun d => by show (if y = x then some d else inner cs.names ρ y) = none; rw [if_neg (Ne.symm hxy)]; exact own_inner hy) hx
        ⟨beq_eq_false_iff_ne.mpr hx1, beq_eq_false_iff_ne.mpr hx2⟩ (own_inner hx) rfl src kh (fun b o e => e) (fun b o e => n₁.sub b o e) (.inl (get?_size _)) f ac hds fin
    exact codeAny_compStart_list loop (src.self' kh loop)

theorem listcomp_snd {n : Nat} {ev : Ev} {ok : Names → Expr → Bool} (hev : EvOk prog w C fa X n ev ok) (R : Room n A) (o : Ok prog w C fa X σ s.heap env sc ρ) {elt : Expr} {g : Comprehension} {gs : List Comprehension} {cs : Scope} {pos : Pos}
    (hok : compOk ok sc elt (g :: gs) cs = true) {post : D → Prop} (hp : ev sc ρ g.iter fun s => itemsW s fun ds => compW ev cs.names elt (g :: gs) (inner cs.names ρ) ds [] fun vs => post (.list vs)) {Q : Value → Shared → Prop}
    (hQ : Then prog w C σ s post Q) : wpAny (model prog w) A (eval (.ListComp elt (g :: gs) cs pos) env) Q E s := by
  have hasy : firstAsync (g :: gs) = false := by
    rcases (comp_inv hok).2 with ⟨_, _, _, _, e, _⟩ | ⟨_, _, _, _, _, _, _, e, _⟩ <;> cases e <;> rfl
  rw [eval_ListComp, hasy]
  obtain ⟨gt, gi, gf, gk⟩ := g
  refine comp_core (pos := pos) (pos' := gi.pos) (use := none) hev R o hok hp fun vs hv σ' h' tk a L ce => ?_
  obtain ⟨m, hm⟩ := ce.ns
  refine ⟨m, hm, fun h'' hsb => ?_⟩
  have kk : ∀ b o, h'.get? b = some o → b ≠ L → h''.get? b = some o := fun b o e hb => (hsb.2 b hb).trans e
  refine hQ _ hv _ σ' h'' tk ⟨ce.nx.le, fun b o e => kk b o (ce.nx.sub b o e) (by rintro rfl; rw [ce.free] at e; cases e), fun b o e => kk b o (ce.nx.kept b o e) (by rintro rfl; rw [ce.new] at e; cases e), ce.nx.newf⟩ ce.rp
end
end Mine.Internal

namespace Mine.Internal

noncomputable def plainArg : Expr → Bool
  | .Starred .. => false
  | _ => true
noncomputable def notSlice : Expr → Bool
  | .Slice .. => false
  | _ => true
noncomputable def baseOk : Expr → Bool
  | .Call .. => false
  | _ => true
noncomputable def baseOk' : Expr → Bool
  | .Call (.Name _ _) [] [] _ => false
  | _ => true
noncomputable def okO (ok : Names → Expr → Bool) (sc : Names) : Option Expr → Bool
  | none => true
  | some e => ok sc e
noncomputable def argsOkE (ok : Names → Expr → Bool) (sc : Names) (es : List Expr) : Bool := es.all fun e => plainArg e && ok sc e

noncomputable def dcompOk (ok : Names → Expr → Bool) (sc : Names) (ke ve it : Expr) (cs : Scope) (x : Str) : Bool :=
  scOk sc cs && (ok sc it && (noSet it && (cs.names.lookup x == some .local && (cs.names.all (fun p => p.2 != .cell) && (x != ("__debug__" : Str) && (x != ("__classdict__" : Str) && (ok cs.names ke && ok cs.names ve)))))))
section
variable (nm : List Str) (ok : Names → Expr → Bool) (sc : Names)
noncomputable def okDict (ks : List (Option Expr)) (vs : List Expr) : Bool := match ks, vs with
  | [], [] => true
  | [some k], [v] => ok sc k && ok sc v
  | _, _ => false
noncomputable def okSub (a i : Expr) : Bool := match i with
  | .Slice lo hi st _ => ok sc a && okO ok sc lo && okO ok sc hi && okO ok sc st
  | i => ok sc a && ok sc i && notSlice i
noncomputable def okCmp (l : Expr) (ops : List CmpOp) (rs : List Expr) : Bool := match ops, rs with
  | [op], [r] => ok sc l && ok sc r && !behindInMarks op r
  | _, _ => false
noncomputable def okBool (o : BoolOp) (vs : List Expr) : Bool := match o with
  | .And => (match vs with
    | [x, y] => ok sc x && ok sc y
    | _ => false)
  | _ => false
noncomputable def okIsi (args : List Expr) : Bool := match args with
  | [a, .Name t _] => plainArg a && ok sc a && (t != ("__debug__" : Str)) && (sc.lookup t == some .globalImplicit)
  | _ => false
noncomputable def okCall (f : Expr) (args : List Expr) (pos : Pos) : Bool := match f with
  | .Attribute o m ap => (m != ("compare" : Str) || nm.contains m) && ok sc o && baseOk' o && (ap.endLine == pos.line) && !args.isEmpty && decide (args.length < 30) && argsOkE ok sc args
  | .Name f _ => (f != ("__debug__" : Str)) && (f != ("tuple" : Str)) && (sc.lookup f == some .globalImplicit) && !args.isEmpty && (if f = "isinstance" then okIsi ok sc args else ((builtinVal f).isSome || (f != ("compare" : Str) && nm.contains f)) && argsOkE ok sc args)
  | _ => false
noncomputable def okCallK (f : Expr) (args : List Expr) (kws : List Keyword) (pos : Pos) : Bool := match kws with
  | [] => okCall nm ok sc f args pos
  | _ => false
noncomputable def okDc (ke ve : Expr) (gens : List Comprehension) (cs : Scope) : Bool := match gens with
  | [⟨.Name x _, it, [], 0⟩] => dcompOk ok sc ke ve it cs x
  | _ => false
end
noncomputable def okF (nm : List Str) (ok : Names → Expr → Bool) : Names → Expr → Bool := fun sc e => match e with
  | .Constant _ _ _ => true
  | .Name _ _ => true
  | .BinOp l _ r _ => ok sc l && ok sc r
  | .UnaryOp _ x _ => ok sc x
  | .IfExp t a b _ => okT ok sc t && ok sc a && ok sc b
  | .List es _ => argsOkE ok sc es
  | .Tuple es _ _ => argsOkE ok sc es
  | .Dict ks vs _ => okDict ok sc ks vs
  | .Compare l ops rs _ => okCmp ok sc l ops rs
  | .BoolOp o vs _ => okBool ok sc o vs
  | .Subscript a i _ => okSub ok sc a i
  | .Attribute a _ _ => ok sc a && baseOk' a
  | .Call f args kws pos => okCallK nm ok sc f args kws pos
  | .ListComp elt gens cs _ => compOk ok sc elt gens cs
  | .DictComp ke ve gens cs _ => okDc ok sc ke ve gens cs
  | _ => false

noncomputable def okE (nm : List Str) : Nat → Names → Expr → Bool
  | 0 => fun _ _ => false
  | n + 1 => okF nm (okE nm n)

section
variable (prog : Program) (w : World) (C : Addr) (fa : Str → Option Addr) (X : Heap → Prop)
noncomputable abbrev KeepAt (a : Addr) : Prop := ∀ h, Wd fa X h → ∃ k, (k = Keeper.frame ∨ k = Keeper.machine ∨ k = Keeper.boundFrame) ∧ Looks (model prog w) h (keeperOf (.ref a)) k

structure Fn1 (n : Nat) (a : Addr) (W : List D → (D → Prop) → Prop) : Prop where
  keep : KeepAt prog w fa X a
  go : ∀ {A : Around} {E Q : Value → Shared → Prop} {s : Shared} {σ : Sg} {vs : List Value} {ds : List D} {post : D → Prop}, Room n A → SubH σ s.heap → Wd fa X s.heap → RpL prog w C σ vs ds → W ds post →
    Then prog w C σ s post Q → wpAny (model prog w) A (call (.ref a) vs) Q E s

structure Calls (n : Nat) (nm : List Str) (Φ : Tab) : Prop where
  fn : ∀ f, nm.contains f = true → f ≠ "compare" → builtinVal f = none → ∃ a, fa f = some a ∧ Fn1 prog w C fa X n a (Φ.fn f)
  cmp : nm.contains "compare" = true → ∃ a, Fn1 prog w C fa X n a (fun ds post => ∃ d x y, ds = [.duel d, x, y] ∧ Φ.cmp d x y post) ∧
    ∀ {A : Around} {E : Value → Shared → Prop} {Q : Value × List Value → Shared → Prop} {s : Shared} {σ : Sg} {v : Value} {d : D} {pl : Sem Bool}, SubH σ s.heap → Wd fa X s.heap → Rp prog w C σ v (.duel d) →
      Q (.ref a, [v]) s → wpAny (model prog w) A (getMethod v "compare" pl) Q E s
  att : ∀ {A : Around} {E Q : Value → Shared → Prop} {s : Shared} {σ : Sg} {v : Value} {d : D} {b : Bool}, SubH σ s.heap → Wd fa X s.heap → Rp prog w C σ v (.duel d) →
    (∀ u h' tk, Nx σ s.heap σ h' → Rp prog w C σ u d → Q u { s with heap := h', toks := tk }) → wpAny (model prog w) A (getAttr v "comp_select_list" b) Q E s
end

section
variable {prog : Program} {w : World} {C : Addr} {fa : Str → Option Addr} {X : Heap → Prop} {A : Around} {E : Value → Shared → Prop} {s : Shared}
  {σ σ' : Sg} {h h' : Heap} {env : Env} {sc : Names} {ρ : Rho} {a : Addr} {vs : List Value} {ds : List D}

theorem slot_rjust : Slot "bytes" "rjust" "bytes.rjust" :=
  .of (owner := "bytes") (n := "rjust") (by rw [typeLookup_type, builtinLookup_eq_fast]; kernel_rfl) (by decide +kernel) (by decide +kernel) (by decide +kernel)
    (by first | exact .inl (by decide +kernel) | exact .inr (by decide +kernel)) (by rw [isSubtype_type]; kernel_rfl)
theorem type_rjust : typeOf (.builtin "bytes.rjust") = pure (.type "method_descriptor") := by show builtinType _ = _; rw [builtinType_eq_fast]; kernel_rfl
theorem entry_rjust : entryFor table "bytes.rjust" = some Builtin.«bytes.rjust» := entryFor_of_tree (by kernel_rfl)
theorem args_rjust (a b c : Value) : argsOk "bytes.rjust" ⟨[a, b, c], []⟩ := by
  unfold argsOk; rw [signature?_of (id := "bytes.rjust") (n := ['t', 's', 'u', 'j', 'r']) (o := ['s', 'e', 't', 'y', 'b']) (by kernel_rfl) FB.owner_bytes]; kernel_rfl
theorem rjust_bytes {b : List UInt8} {n : Int} {c : UInt8} {t u v : Tok} {Q : Value → Shared → Prop} (h : 0 ≤ n ∧ n ≤ 1000000 ∧ b.length ≤ 1000000)
    (hQ : ∀ t tk, Q (.bytes (List.replicate (n.toNat - b.length) c ++ b).toArray t) { s with toks := tk }) :
    wpAny (model prog w) A (call (.builtin "bytes.rjust") [.bytes b.toArray t, .int n u, .bytes [c].toArray v]) Q E s := by
  refine wpAny_call_entry slot_rjust (typeIs_bytes _ _ _) entry_rjust ?_ (args_rjust _ _ _)
  show wpAny _ _ (Builtin.Bytes.countArg _ (.int n u) >>= fun y => _) _ _ s
  have e1 : ∀ id, Builtin.Bytes.countArg id (.int n u) = pure n := fun id => by
    unfold Builtin.Bytes.countArg
    show (if (!Builtin.Bytes.fitsIndex n) = true then _ else _) = _
    have : Builtin.Bytes.fitsIndex n = true := by
      unfold Builtin.Bytes.fitsIndex
      simp only [Bool.and_eq_true, decide_eq_true_eq]
      omega
    rw [this]; rfl
  rw [e1]
  show wpAny _ _ (if n ≤ (b.toArray.size : Int) then _ else _) _ _ s
  split
  · rename_i hle
    have e : List.replicate (n.toNat - b.length) c = [] := by
      rw [show n.toNat - b.length = 0 by simp at hle; omega]; rfl
    rw [e] at hQ
    refine wpAny_bind (wpAny_rule ?_)
    show wpAny _ _ (Builtin.Bytes.Kind.same .bytes (.bytes b.toArray t) >>= fun v => ret v) _ _ s
    refine wpAny_bind ?_
    unfold Builtin.Bytes.Kind.same
    rw [if_pos (by decide)]
    refine wpAny_bind (wpAny_typeOf (typeIs_bytes _ _ _) ?_)
    rw [if_pos (by decide)]
    exact wpAny_pure (wpAny_pure ⟨_, rfl, hQ _ _⟩)
  · rename_i hle
    have hl : ¬ n ≤ (b.length : Int) := by simpa using hle
    show wpAny _ _ (if Builtin.Bytes.tooLong n.toNat = true then _ else _) _ _ s
    have e3 : Builtin.Bytes.tooLong n.toNat = false := by
      unfold Builtin.Bytes.tooLong
      have : n.toNat ≤ sizeLine := by rw [sizeLine_eq]; omega
      simpa using this
    rw [e3]
    show wpAny _ _ (mkBytes (Array.replicate (n.toNat - b.toArray.size) c ++ b.toArray ++ Array.replicate (n.toNat - b.toArray.size - (n.toNat - b.toArray.size)) c) >>= fun v => ret v) _ _ s
    have e4 : Array.replicate (n.toNat - b.toArray.size) c ++ b.toArray ++ Array.replicate (n.toNat - b.toArray.size - (n.toNat - b.toArray.size)) c = (List.replicate (n.toNat - b.length) c ++ b).toArray := by
      simp
    rw [e4]
    exact wpAny_bind (wpAny_mkBytes (wpAny_pure ⟨_, rfl, hQ _ _⟩) (by simp [sizeLine_eq]; omega))

theorem base_any {o : Expr} (h : baseOk' o = true) {m : Str} {env : Env} {u : Sem Value} : attributeBase o m env u = u := by
  cases o with
  | Call f args kws p =>
    cases f with
    | Name _ _ => cases args <;> cases kws <;> first | rfl | cases h
    | _ => rfl
  | _ => rfl
theorem base_eq {o : Expr} (h : baseOk' o = true) (m : Str) (env : Env) : attributeBase o m env (eval o env) = eval o env := base_any h

theorem name_snd (o : Ok prog w C fa X σ s.heap env sc ρ) {x : Str} {p : Pos} {d : D} (hx : ρ x = some d) {post : D → Prop} (hp : post d) {Q : Value → Shared → Prop} (hQ : Then prog w C σ s post Q) :
    wpAny (model prog w) A (eval (.Name x p) env) Q E s := by
  obtain ⟨h1, h2, v, hv, hr⟩ := o.vars x d hx
  refine wpAny_Name ?_ h1
  have q := hQ d hp v σ s.heap s.toks (Nx.refl o.sub) hr
  rcases hv with ⟨k, m, hm, e⟩ | ⟨k, c, hc, e⟩
  · exact wpAny_loadName_local o.stat.fn k hm e q
  · rcases k with k | k
    · exact wpAny_loadName_cell o.stat.fn k hc e q
    · exact wpAny_loadName_free o.stat.fn k hc e q h2

theorem global_snd (o : Ok prog w C fa X σ s.heap env sc ρ) {f : Str} {p : Pos} {v : Value} (hd : (f == ("__debug__" : Str)) = false) (hf : sc.lookup f = some .globalImplicit) (hv : GlobAt s.heap f v)
    {Q : Value → Shared → Prop} (hQ : Q v s) : wpAny (model prog w) A (eval (.Name f p) env) Q E s := by
  obtain ⟨mg, mb, h1, h2, h3⟩ := hv
  refine Calls.Name_function_global o.stat.fn (o.stat.imp f hf) ?_ hd
  rcases h3 with h3 | ⟨h3, h4⟩
  · exact Calls.loadGlobal_global (by rw [o.stat.glob]; exact h1) h3 hQ
  · exact Calls.loadGlobal_builtin (by rw [o.stat.glob]; exact h1) h3 (by rw [o.stat.built]; exact h2) h4 hQ

theorem star_plain {e : Expr} (h : plainArg e = true) (rest : List Expr) (env : Env) : starEach (e :: rest) env = (false, eval e env) :: starEach rest env := by
  cases e <;> first | rfl | cases h
theorem star_none {es : List Expr} (ok : Names → Expr → Bool) (h : argsOkE ok sc es = true) (pos : Pos) (env : Env) : (backTo pos (starEach es env)).any (·.1) = false := by
  induction es with
  | nil => rfl
  | cons e es ih =>
    simp only [argsOkE, List.all_cons, Bool.and_eq_true] at h
    rw [star_plain h.1.1]
    simp only [backTo, List.map_cons, List.any_cons, Bool.false_or] at ih ⊢
    exact ih h.2
theorem star_few {es : List Expr} (ok : Names → Expr → Bool) (h : argsOkE ok sc es = true) (pos : Pos) (env : Env) : (backTo pos (starEach es env)).all (fun x => !x.1) = true := by
  have := star_none ok h pos env
  rw [List.all_eq_true]
  rw [List.any_eq_false] at this
  intro x hx
  simpa using this x hx

theorem args_snd {n : Nat} {ev : Ev} {ok : Names → Expr → Bool} (hev : EvOk prog w C fa X n ev ok) (R : Room n A) (pos : Pos) : ∀ {es : List Expr} {s : Shared} {σ : Sg} {post : List D → Prop}, Ok prog w C fa X σ s.heap env sc ρ →
    argsOkE ok sc es = true → listW ev sc ρ es post → ∀ {Q : List Value → Shared → Prop},
    (∀ ds, post ds → ∀ vs σ' h' tk, Nx σ s.heap σ' h' → RpL prog w C σ' vs ds → Q vs { s with heap := h', toks := tk }) → wpAny (model prog w) A (spliced (backTo pos (starEach es env))) Q E s
  | [], s, σ, post, o, _, hp, Q, hQ => wpAny_items_nil (hQ [] hp [] σ s.heap s.toks (Nx.refl o.sub) .nil)
  | e :: es, s, σ, post, o, hok, hp, Q, hQ => by
    simp only [argsOkE, List.all_cons, Bool.and_eq_true] at hok
    refine wpAny_items_cons (hev _ _ _ _ hp hok.1.2 R o fun d hd v σ₁ h₁ t₁ n₁ r₁ => ?_) (star_plain hok.1.1 _ _)
    refine args_snd (s := { s with heap := h₁, toks := t₁ }) hev R pos (o.next n₁) hok.2 hd fun ds hds vs σ₂ h₂ t₂ n₂ r₂ => ?_
    exact hQ _ hds _ _ _ _ (n₁.trans n₂) (.cons (r₁.mono n₂.le) r₂)

theorem evalArgs_of {es : List Expr} {pos : Pos} {f : Value} {ok : Names → Expr → Bool} (hok : argsOkE ok sc es = true) (hne : es.isEmpty = false) {Q : Args → Shared → Prop}
    (h : wpAny (model prog w) A (spliced (backTo pos (starEach es env))) (fun vs s' => Q ⟨vs, []⟩ s') E s) : wpAny (model prog w) A (evalArgs f true (backTo pos (starEach es env)) []) Q E s := by
  cases es with
  | nil => cases hne
  | cons e es =>
    simp only [argsOkE, List.all_cons, Bool.and_eq_true] at hok
    rw [star_plain hok.1.1] at h ⊢
    exact Calls.evalArgs_plain h

theorem meth_call {o : Expr} {m : Str} {ap pos : Pos} {args : List Expr} {Q : Value → Shared → Prop} (hb : baseOk' o = true) {ok : Names → Expr → Bool} (hok : argsOkE ok sc args = true) (hl : (ap.endLine == pos.line) = true)
    (hn : args.length < 30) (h : wpAny (model prog w) A (eval o env) (fun ov s₁ => ∀ pl, wpAny (model prog w) A (getMethod ov m pl) (fun r s₂ => wpAny (model prog w) A (callWith pos r.1 r.2 (backTo pos (starEach args env)) []) Q E s₂) E s₁) E s) :
    wpAny (model prog w) A (eval (.Call (.Attribute o m ap) args [] pos) env) Q E s := by
  rw [arm_eval_Call, base_eq hb]
  refine wpAny_bind (wpAny_mono h (fun ov s₁ h₁ => ?_) fun _ _ e => e)
  refine wpAny_bind (wpAny_standAt ?_)
  have hform : methodCallForm (args.length + ([] : List Keyword).length) (backTo pos (starEach args env)) (backToKw pos (keywordEach [] env)) = true := by
    unfold methodCallForm
    rw [star_few ok hok]
    have hk : keywordEach ([] : List Keyword) env = [] := rfl
    rw [hk]
    simpa [backToKw] using hn
  have hpos : methodCallPos true o env ap pos = pure pos := by unfold methodCallPos; simp [hl]
  unfold methodCall
  rw [hform]
  refine wpAny_bind (wpAny_holding (wpAny_mono (h₁ _) (fun r s₂ h₂ => ?_) fun _ _ e => e))
  obtain ⟨f, first⟩ := r
  exact wpAny_bind (wpAny_of_eq hpos h₂)

theorem sysOk {h : Heap} {a : Addr} (wd : Wd fa X h) (ha : a = h.objs.size) : a ≠ sysModules := by
  obtain ⟨mg, mb, h1, _, _⟩ := wd.glob "range" (.type "range") (by decide)
  obtain ⟨ob, es, ep, e, _⟩ := h1
  have := Heap.lt_size e
  rintro rfl
  have e3 : mainGlobals = 3 := rfl
  have e1 : sysModules = 1 := rfl
  rw [e3, ← ha, e1] at this
  exact absurd this (by decide)

theorem dict0_snd (o : Ok prog w C fa X σ s.heap env sc ρ) {p : Pos} {post : D → Prop} (hp : post (.dict [])) {Q : Value → Shared → Prop} (hQ : Then prog w C σ s post Q) :
    wpAny (model prog w) A (eval (.Dict [] [] p) env) Q E s := by
  obtain ⟨ob, ho, hd⟩ := Heap.dictOf_iff.mp (Heap.DictOf.new (knd := intKind prog w) s.heap)
  rw [Heap.get?_push_size _ rfl] at ho
  cases ho
  exact wpAny_Dict_empty (hQ _ hp _ _ _ _ (Nx.push o.sub rfl) (.dict (addS_self _ _ _) (kvs := []) hd .nil (sysOk o.wd rfl)))

theorem dict1_snd {n : Nat} {ev : Ev} {ok : Names → Expr → Bool} (hev : EvOk prog w C fa X n ev ok) (R : Room n A) (o : Ok prog w C fa X σ s.heap env sc ρ) {k v : Expr} {p : Pos} {post : D → Prop} (hok : (ok sc k && ok sc v) = true)
    (hp : ev sc ρ k fun a => ev sc ρ v fun b => match a, b with | .int k, .int v => post (.dict [(k, v)]) | _, _ => False) {Q : Value → Shared → Prop} (hQ : Then prog w C σ s post Q) :
    wpAny (model prog w) A (eval (.Dict [some k] [v] p) env) Q E s := by
  have hok := Bool.and_eq_true_iff.mp hok
  refine wpAny_Dict_walk (knd := intKind prog w) rfl rfl (by simp) (by simp) ?_
  have n₀ : Nx σ s.heap σ (s.heap.push { cls := .type "dict", data := .dict #[] }) := Nx.grow o.sub (.push _ _)
  refine pairTrees_cons_walk (hev (s := { s with heap := s.heap.push { cls := .type "dict", data := .dict #[] } }) _ _ _ _ hp hok.1 R (o.next n₀) fun d₁ h₁ v₁ σ₁ H₁ t₁ n₁ r₁ => ?_)
  refine hev (s := { s with heap := H₁, toks := t₁ }) _ _ _ _ h₁ hok.2 R ((o.next n₀).next n₁) fun d₂ h₂ v₂ σ₂ H₂ t₂ n₂ r₂ => pairTrees_nil_walk ?_
  dsimp only at h₂ n₁ n₂ ⊢
  split at h₂
  · rename_i i j
    obtain ⟨_, rfl⟩ := r₁.int_inv; obtain ⟨_, rfl⟩ := r₂.int_inv
    rename_i ti tj
    have hn := (Heap.DictOf.new (knd := intKind prog w) s.heap)
    have k12 : Kept (s.heap.push { cls := .type "dict", data := .dict #[] }) H₂ := n₁.kept.trans n₂.kept
    refine ⟨[(i, .int j tj)], ⟨intKind_is _ _ _ _, rfl, trivial⟩, hn.keep k12, fun h' hd hsb => ?_⟩
    obtain ⟨ob, ho, hdd⟩ := Heap.dictOf_iff.mp hd
    have hs0 : s.heap.get? s.heap.objs.size = none := get?_size _
    have hsig : σ₂ s.heap.objs.size = none := by
      refine n₂.newf _ (n₁.newf _ (none_of_sub o.sub hs0) ?_) ?_
      · rw [Heap.get?_push_size _ rfl]; rfl
      · rw [n₁.kept _ _ (Heap.get?_push_size _ rfl)]; rfl
    have ne : ∀ b ob, s.heap.get? b = some ob → b ≠ s.heap.objs.size := fun b ob e => Nat.ne_of_lt (Heap.lt_size e)
    refine hQ _ h₂ _ (addS σ₂ s.heap.objs.size ob) h' _ ⟨(n₁.le.trans n₂.le).trans (addS_le hsig), addS_sub (fun b p e => ?_) ho, fun b p e => ?_, fun b hb hs => ?_⟩ (.dict (addS_self _ _ _) (kvs := [(i, .int j tj)]) hdd (.cons .nil) (sysOk o.wd rfl))
    · exact (hsb.2 b (by rintro rfl; rw [hsig] at e; cases e)).trans (n₂.sub b p e)
    · exact (hsb.2 b (ne b p e)).trans (k12 _ _ (Kept.push _ _ _ _ e))
    · unfold addS
      obtain ⟨p, hp'⟩ := Option.isSome_iff_exists.mp hs
      rw [if_neg (ne b p hp')]
      exact ((n₀.trans n₁).trans n₂).newf b hb hs
  · exact h₂.elim

theorem slice1_snd {n : Nat} {ev : Ev} {ok : Names → Expr → Bool} (hev : EvOk prog w C fa X n ev ok) (R : Room n A) (o : Ok prog w C fa X σ s.heap env sc ρ) {a : Expr} {lo hi st : Option Expr} {p q : Pos} {post : D → Prop}
    (hok : (ok sc a && okO ok sc lo && okO ok sc hi && okO ok sc st) = true)
    (hp : ev sc ρ a fun d => optW ev sc ρ lo fun l => optW ev sc ρ hi fun h => optW ev sc ρ st fun t => sliceW d l h t post) {Q : Value → Shared → Prop} (hQ : Then prog w C σ s post Q) :
    wpAny (model prog w) A (eval (.Subscript a (.Slice lo hi st q) p) env) Q E s := by
  simp only [Bool.and_eq_true] at hok
  obtain ⟨⟨⟨ka, klo⟩, khi⟩, kst⟩ := hok
  have opt : ∀ {oe : Option Expr} {σ : Sg} {s : Shared} {post : Option D → Prop} {Q : Value → Shared → Prop}, Ok prog w C fa X σ s.heap env sc ρ → okO ok sc oe = true → optW ev sc ρ oe post →
      (∀ od, post od → ∀ v σ' h' tk, Nx σ s.heap σ' h' → (∀ d, od = some d → Rp prog w C σ' v d) → (od = none → v = .none) → Q v { s with heap := h', toks := tk }) → wpAny (model prog w) A (evalPart oe env) Q E s := by
    intro oe σ s post Q o hk hp hQ
    cases oe with
    | none => exact wpAny_pure (hQ none hp .none σ s.heap s.toks (Nx.refl o.sub) (fun d e => by cases e) fun _ => rfl)
    | some e => exact hev _ _ _ _ hp hk R o fun d hd v σ' h' tk nx r => hQ (some d) hd v σ' h' tk nx (fun d' e => by cases e; exact r) (fun e => by cases e)
  refine Subscript_ (hev _ _ _ _ hp ka R o fun d₁ h₁ v₁ σ₁ H₁ t₁ n₁ r₁ => wpAny_Slice ?_)
  refine opt (s := { s with heap := H₁, toks := t₁ }) (o.next n₁) klo h₁ fun ol hl vl σ₂ H₂ t₂ n₂ r₂ e₂ => ?_
  refine opt (s := { s with heap := H₂, toks := t₂ }) ((o.next n₁).next n₂) khi hl fun oh hh vh σ₃ H₃ t₃ n₃ r₃ e₃ => ?_
  refine opt (s := { s with heap := H₃, toks := t₃ }) (((o.next n₁).next n₂).next n₃) kst hh fun ot ht vt σ₄ H₄ t₄ n₄ r₄ e₄ => ?_
  exact slice_snd (s := { s with heap := H₄, toks := t₄ }) n₄.sub (((r₁.mono n₂.le).mono n₃.le).mono n₄.le) (fun d e => ((r₂ d e).mono n₃.le).mono n₄.le) e₂ (fun d e => (r₃ d e).mono n₄.le) e₃ r₄ e₄ ht
    fun d hd v σ' h' tk nx r => hQ d hd v σ' h' tk ((((n₁.trans n₂).trans n₃).trans n₄).trans nx) r

theorem callRef_of {n : Nat} {ev : Ev} {ok : Names → Expr → Bool} (hev : EvOk prog w C fa X n ev ok) (R : Room n A) (o : Ok prog w C fa X σ s.heap env sc ρ) {a : Addr} (hk : KeepAt prog w fa X a) {first : List Value} {pos : Pos} {args : List Expr}
    (k4 : args.isEmpty = false) (k6 : argsOkE ok sc args = true) {post : List D → Prop} (hp : listW ev sc ρ args post) {Q : Value → Shared → Prop}
    (hQ : ∀ ds, post ds → ∀ vs σ' h' tk, Nx σ s.heap σ' h' → RpL prog w C σ' vs ds → wpAny (model prog w) A (call (.ref a) (first ++ vs)) Q E { s with heap := h', toks := tk }) :
    wpAny (model prog w) A (callWith pos (.ref a) first (backTo pos (starEach args env)) []) Q E s :=
  callWith_of (P := Wd fa X) (by rw [star_none ok k6]; rfl) hk (evalArgs_of k6 k4 (args_snd hev R pos o k6 hp fun ds hds vs σ' h' tk nx rl => ⟨(o.next nx).wd, hQ ds hds vs σ' h' tk nx rl⟩))

theorem methD_inv {Φ : Tab} {d : D} {as : List D} {post : D → Prop} (h : methD Φ d as post) : ∃ x y, as = [x, y] ∧ Φ.cmp d x y post := by
  cases as with
  | nil => exact False.elim h
  | cons x as =>
    cases as with
    | nil => exact False.elim h
    | cons y as =>
      cases as with
      | nil => exact ⟨x, y, rfl, h⟩
      | cons _ _ => exact False.elim h
theorem meth_snd {n : Nat} {nm : List Str} {Φ : Tab} {ev : Ev} {ok : Names → Expr → Bool} (hc : Calls prog w C fa X n nm Φ) (hev : EvOk prog w C fa X n ev ok) (R : Room n A) (o : Ok prog w C fa X σ s.heap env sc ρ) {ob : Expr} {m : Str} {ap pos : Pos} {args : List Expr} {post : D → Prop}
    (hok : ((m != ("compare" : Str) || nm.contains m) && ok sc ob && baseOk' ob && (ap.endLine == pos.line) && !args.isEmpty && decide (args.length < 30) && argsOkE ok sc args) = true)
    (hp : ev sc ρ ob fun d => methPre m d ∧ listW ev sc ρ args fun ds => methW Φ d ds post) {Q : Value → Shared → Prop} (hQ : Then prog w C σ s post Q) :
    wpAny (model prog w) A (eval (.Call (.Attribute ob m ap) args [] pos) env) Q E s := by
  simp only [Bool.and_eq_true, Bool.not_eq_true', decide_eq_true_eq] at hok
  obtain ⟨⟨⟨⟨⟨⟨k0, k1⟩, k2⟩, k3⟩, k4⟩, k5⟩, k6⟩ := hok
  refine meth_call k2 k6 k3 k5 (hev _ _ _ _ hp k1 R o fun d₁ h₁ v₁ σ₁ H₁ t₁ n₁ r₁ pl => ?_)
  obtain ⟨hm, h₁⟩ := h₁
  have viaB : ∀ {id : String} {v : Value}, (∀ ds, methW Φ d₁ ds post → ∀ vs σ' h' tk, Nx σ₁ H₁ σ' h' → RpL prog w C σ' vs ds → wpAny (model prog w) A (call (.builtin id) (v :: vs)) Q E { s with heap := h', toks := tk }) →
      wpAny (model prog w) A (callWith pos (.builtin id) [v] (backTo pos (starEach args env)) []) Q E { s with heap := H₁, toks := t₁ } := fun hk =>
    Calls.callWith_builtin (star_none ok k6 _ _) (evalArgs_of k6 k4 (args_snd (s := { s with heap := H₁, toks := t₁ }) hev R pos (o.next n₁) k6 h₁ fun ds hds vs σ' h' tk nx rl => hk ds hds vs σ' h' tk nx rl))
  cases d₁ <;> (unfold methPre at hm) <;> first | exact hm.elim | (dsimp only at hm; subst hm)
  · rename_i b
    obtain ⟨t, rfl⟩ := r₁.byt_inv
    refine getMethod_builtin (typeIs_bytes _ _ _) FB.plainAttrs_bytes slot_rjust type_rjust (fun a e => by cases e) ?_
    refine viaB fun ds hds vs σ' h' tk nx rl => ?_
    have hds : methB _ ds post := hds
    unfold methB at hds
    split at hds
    · obtain ⟨k, rfl, h1⟩ := isI_inv hds
      obtain ⟨c, rfl, h2⟩ := isB_inv h1
      replace hds := h2
      split at hds
      · obtain ⟨_, _, rfl, a, c⟩ := rl.two_inv
        obtain ⟨_, rfl⟩ := a.int_inv
        obtain ⟨_, rfl⟩ := c.byt_inv
        exact rjust_bytes hds.1 fun t tk => hQ _ hds.2 _ _ _ _ (n₁.trans nx) (.byt _ _)
      · exact hds.elim
    · exact hds.elim
  · rename_i es
    obtain ⟨_, _, _, rfl, ea, ra⟩ := r₁.list_inv
    refine PyProof.Rows.getMethod_list_of PySem.F.slot_list_count PySem.F.type_list_count (isList_of n₁.sub ea) ⟨_, n₁.sub _ _ ea, rfl⟩ ?_
    refine viaB fun ds hds vs σ' h' tk nx rl => ?_
    have hds : methL es ds post := hds
    unfold methL at hds
    split at hds
    · obtain ⟨k, rfl, h1⟩ := isI_inv hds
      replace hds := h1
      split at hds
      · rename_i ns hn
        obtain ⟨_, rfl⟩ := rl.int1
        exact count_list_ints (isList_of nx.sub (nx.le _ _ ea)) (intsD_rp hn ra) (hQ _ hds _ _ _ _ (n₁.trans nx) (.int _ _))
      · exact hds.elim
    · exact hds.elim
  · rename_i d
    have k0 : nm.contains "compare" = true := by
      rw [bne_self_eq_false] at k0; exact k0
    obtain ⟨a, hf, hg⟩ := hc.cmp k0
    refine hg (s := { s with heap := H₁, toks := t₁ }) n₁.sub (o.next n₁).wd r₁ ?_
    refine callRef_of (s := { s with heap := H₁, toks := t₁ }) hev R (o.next n₁) hf.keep k4 k6 h₁ fun ds hds vs σ' h' tk nx rl => ?_
    refine hf.go (s := { s with heap := h', toks := tk }) R nx.sub ((o.next n₁).next nx).wd (ds := .duel d :: ds) (.cons (r₁.mono nx.le) rl) ?_ fun d hd v' σ'' h'' tk' nx' r' => hQ d hd v' σ'' h'' tk' ((n₁.trans nx).trans nx') r'
    have hds : methD Φ d ds post := hds
    obtain ⟨x, y, rfl, hds⟩ := methD_inv hds
    exact ⟨d, x, y, rfl, hds⟩

theorem callW_fn {f : Str} {Φ : Tab} {ds : List D} {post : D → Prop} (hb : builtinVal f = none) (h : callW Φ f ds post) : Φ.fn f ds post := by
  have h0 : f ≠ "range" := by rintro rfl; exact absurd hb (by decide)
  have h1 : f ≠ "len" := by rintro rfl; exact absurd hb (by decide)
  have h2 : f ≠ "sum" := by rintro rfl; exact absurd hb (by decide)
  have h3 : f ≠ "round" := by rintro rfl; exact absurd hb (by decide)
  have h4 : f ≠ "min" := by rintro rfl; exact absurd hb (by decide)
  have h5 : f ≠ "max" := by rintro rfl; exact absurd hb (by decide)
  have h6 : f ≠ "abs" := by rintro rfl; exact absurd hb (by decide)
  have h7 : f ≠ "int" := by rintro rfl; exact absurd hb (by decide)
  have h8 : f ≠ "divmod" := by rintro rfl; exact absurd hb (by decide)
  unfold callW at h
  rwa [if_neg h0, if_neg h1, if_neg h2, if_neg h3, if_neg h4, if_neg h5, if_neg h6, if_neg h7, if_neg h8] at h

theorem call_snd {n : Nat} {nm : List Str} {Φ : Tab} {ev : Ev} {ok : Names → Expr → Bool} (hc : Calls prog w C fa X n nm Φ) (hev : EvOk prog w C fa X n ev ok) (R : Room n A) (o : Ok prog w C fa X σ s.heap env sc ρ) {f : Str} {np pos : Pos} {args : List Expr} {post : D → Prop}
    (hfd : (f == ("__debug__" : Str)) = false) (hft : f ≠ "tuple") (hfi : f ≠ "isinstance") (k2 : sc.lookup f = some .globalImplicit) (k3 : args.isEmpty = false) (kb : ((builtinVal f).isSome || (f != ("compare" : Str) && nm.contains f)) = true) (k4 : argsOkE ok sc args = true)
    (hp : listW ev sc ρ args fun ds => callW Φ f ds post) {Q : Value → Shared → Prop} (hQ : Then prog w C σ s post Q) :
    wpAny (model prog w) A (eval (.Call (.Name f np) args [] pos) env) Q E s := by
  have hpl := star_none ok k4 pos env
  cases hb : builtinVal f with
  | some v =>
    refine wpAny_Call_ofName (global_snd o hfd k2 (o.wd.glob f v hb) ?_)
    have go : wpAny (model prog w) A (spliced (backTo pos (starEach args env))) (fun vs s' => wpAny (model prog w) A (call v ([] ++ vs)) Q E s') E s :=
      args_snd hev R pos o k4 hp fun ds hds vs σ' h' tk nx rl => builtin_snd (s := { s with heap := h', toks := tk }) R nx.sub rl hb ⟨hfi, hft⟩ hds fun d hd v' σ'' h'' tk' nx' r' => hQ d hd v' σ'' h'' tk' (nx.trans nx') r'
    have hv : (∃ id, v = .builtin id) ∨ ∃ T, v = .type T := by
      unfold builtinVal at hb
      repeat (split at hb; · cases hb; first | exact .inl ⟨_, rfl⟩ | exact .inr ⟨_, rfl⟩)
      cases hb
    rcases hv with ⟨id, rfl⟩ | ⟨T, rfl⟩
    · exact Calls.callWith_builtin hpl (evalArgs_of k4 k3 go)
    · exact PySem.callWith_type hpl (evalArgs_of k4 k3 go)
  | none =>
    rw [hb] at kb
    have kb' : (f != ("compare" : Str) && nm.contains f) = true := kb
    have kb2 := Bool.and_eq_true_iff.mp kb'
    obtain ⟨a, ha, hf⟩ := hc.fn f kb2.2 (bne_iff_ne.mp kb2.1) hb
    refine wpAny_Call_ofName (global_snd o hfd k2 (o.wd.fns f a ha) ?_)
    refine callRef_of hev R o hf.keep k3 k4 hp fun ds hds vs σ' h' tk nx rl => ?_
    refine hf.go (s := { s with heap := h', toks := tk }) R nx.sub (o.next nx).wd rl ?_ fun d hd v' σ'' h'' tk' nx' r' => hQ d hd v' σ'' h'' tk' (nx.trans nx') r'
    exact callW_fn hb hds

theorem isi_el {Q : Expr → Prop} {ev : Ev} {post : D → Prop} {x b : Expr} {r : List Expr} (hp : isiE ev sc ρ post (x :: b :: r)) (k : ∀ t p, isiE ev sc ρ post (x :: .Name t p :: r) → Q (.Name t p)) : Q b := by
  cases b with
  | Name t p => exact k t p hp
  | _ => exact False.elim hp
theorem isi_inv {ev : Ev} {post : D → Prop} {args : List Expr} (hp : isiE ev sc ρ post args) : ∃ x t p, args = [x, .Name t p] ∧ (if t = "tuple" then ev sc ρ x fun d => match d with | .int _ => post (.bool false) | _ => False else False) := by
  cases args with
  | nil => exact False.elim hp
  | cons x args =>
    cases args with
    | nil => exact False.elim hp
    | cons b args =>
      refine isi_el (Q := fun b => ∃ y t p, x :: b :: args = [y, .Name t p] ∧ (if t = "tuple" then ev sc ρ y fun d => match d with | .int _ => post (.bool false) | _ => False else False)) hp fun t p hp => ?_
      cases args with
      | cons _ _ => exact False.elim hp
      | nil => exact ⟨x, t, p, rfl, hp⟩
theorem isi_snd {n : Nat} {ev : Ev} {ok : Names → Expr → Bool} (hev : EvOk prog w C fa X n ev ok) (R : Room n A) (o : Ok prog w C fa X σ s.heap env sc ρ) {f : Str} {np pos : Pos} {args : List Expr} {post : D → Prop}
    (hfd : (f == ("__debug__" : Str)) = false) (hf : f = "isinstance") (k2 : sc.lookup f = some .globalImplicit)
    (k4 : (match (generalizing := false) args with
        | [a, .Name t _] => plainArg a && ok sc a && (t != ("__debug__" : Str)) && (sc.lookup t == some .globalImplicit)
        | _ => false) = true)
    (hp : match (generalizing := false) args with
        | [a, .Name t _] => if t = "tuple" then ev sc ρ a fun d => match d with | .int _ => post (.bool false) | _ => False else False
        | _ => False) {Q : Value → Shared → Prop} (hQ : Then prog w C σ s post Q) :
    wpAny (model prog w) A (eval (.Call (.Name f np) args [] pos) env) Q E s := by
  replace hp := isi_inv (ev := ev) (post := post) hp
  obtain ⟨a, t, q, rfl, hp⟩ := hp
  · dsimp only at k4
    have j4 := Bool.and_eq_true_iff.mp k4
    have j3 := Bool.and_eq_true_iff.mp j4.1
    have j2 := Bool.and_eq_true_iff.mp j3.1
    have j4 := beq_iff_eq.mp j4.2
    split at hp
    · rename_i ht
      have htd : (t == ("__debug__" : Str)) = false := beq_eq_false_iff_ne.mpr (bne_iff_ne.mp j3.2)
      refine wpAny_Call_ofName (global_snd o hfd k2 (o.wd.glob f (.builtin "isinstance") (by rw [hf]; decide)) ?_)
      have e1 := star_plain (env := env) j2.1 [.Name t q]
      have e2 : starEach [.Name t q] env = [(false, eval (.Name t q) env)] := rfl
      rw [e1, e2]
      refine Calls.callWith_builtin rfl (Calls.evalArgs_plain (Calls.spliced_cons (hev _ _ _ _ hp j2.2 R o fun d₁ h₁ v₁ σ₁ H₁ t₁ n₁ r₁ => ?_)))
      refine Calls.spliced_cons (s := { s with heap := H₁, toks := t₁ }) (global_snd (o.next n₁) htd j4 ((o.next n₁).wd.glob t (.type "tuple") (by rw [ht]; decide)) (Calls.spliced_nil ?_))
      dsimp only at h₁
      split at h₁
      · obtain ⟨_, rfl⟩ := r₁.int_inv
        exact IsiPair.int_tuple (hQ _ h₁ _ _ _ _ n₁ (.bool _))
      · exact h₁.elim
    · exact hp.elim

theorem dict_loop_rp {kf vf : Int → Int} {vs : List Value} {kvs : List (Int × Value)} (h : StoredAll (fun v k => ∃ i t, v = .int i t ∧ k = kf i) (fun v y => ∃ i t t', v = .int i t ∧ y = .int (vf i) t') vs kvs) :
    ∀ {ns : List Int}, IntsAre vs ns → PairsAre kvs (dictL kf vf ns) := by
  induction h with
  | nil => intro ns h; cases h; exact .nil
  | @snoc l kvs v k y h1 h2 h3 ih =>
    intro ns h
    obtain ⟨ms, i, rfl, hm, hi⟩ := ints_snoc h
    obtain ⟨i1, t1, e1, e2⟩ := h2
    obtain ⟨i2, t2, t3, e3, e4⟩ := h3
    subst e4
    obtain ⟨t, rfl⟩ := hi
    cases e1; cases e3
    rw [e2]
    unfold dictL
    rw [List.foldl_append]
    exact pairs_put (ih hm)

theorem dictcomp_snd {n : Nat} {ev : Ev} {ok : Names → Expr → Bool} (hev : EvOk prog w C fa X n ev ok) (R : Room n A) (o : Ok prog w C fa X σ s.heap env sc ρ) {ke ve it : Expr} {x : Str} {px pos : Pos} {cs : Scope} {post : D → Prop}
    (hok : dcompOk ok sc ke ve it cs x = true)
    (hp : ev sc ρ it fun s => match s with
      | .list ds => (match intsD ds with
        | some ns => ns.length ≤ 1000000 ∧ ∃ kf vf : Int → Int, (∀ i, i ∈ ns → ev cs.names (setR (inner cs.names ρ) x (.int i)) ke (fun d => d = .int (kf i)) ∧ ev cs.names (setR (inner cs.names ρ) x (.int i)) ve (fun d => d = .int (vf i))) ∧
            post (.dict (dictL kf vf ns))
        | none => False)
      | _ => False) {Q : Value → Shared → Prop} (hQ : Then prog w C σ s post Q) :
    wpAny (model prog w) A (eval (.DictComp ke ve [⟨.Name x px, it, [], 0⟩] cs pos) env) Q E s := by
  unfold dcompOk at hok
  have b1 := Bool.and_eq_true_iff.mp hok
  have b2 := Bool.and_eq_true_iff.mp b1.2
  have b3 := Bool.and_eq_true_iff.mp b2.2
  have b4 := Bool.and_eq_true_iff.mp b3.2
  have b5 := Bool.and_eq_true_iff.mp b4.2
  have b6 := Bool.and_eq_true_iff.mp b5.2
  have b7 := Bool.and_eq_true_iff.mp b6.2
  have b8 := Bool.and_eq_true_iff.mp b7.2
  have hsc := b1.1
  have hx := beq_iff_eq.mp b4.1
  have hcell : ∀ y ∈ cs.names, y.2 ≠ .cell := fun y hy => by
    have := List.all_eq_true.mp b5.1 y hy
    simpa using this
  obtain ⟨hkind, hnames, hfree⟩ := scopeNames hsc
  have hcells : ∀ n, (n, NameKind.free) ∈ cs.names → (env.cells.lookup n).isSome = true := fun n hn => by
    obtain ⟨c, v, h1, _⟩ := o.cells n (hfree n hn); rw [h1]; rfl
  have hce : ∀ m, cellsFrom m cs.names (cloOf env.cells cs.names []) = cloOf env.cells cs.names [] := fun m => by
    rw [cellsFrom_append]
    cases q : cellsFrom m cs.names [] with
    | nil => rfl
    | cons p r =>
      have := cellsFrom_mem (x := p.1) (c := p.2) cs.names m (by rw [q]; exact List.mem_cons_self)
      exact absurd rfl (hcell _ this)
  rw [arm_eval_DictComp]
  refine wpAny_comprehension_free (use := none) rfl (fun v => noSet_eq b3.1 env v) (closure_eq hcells) hkind hnames ?_
  refine hev _ _ _ _ hp b2.1 R o fun d hd v σ₁ h₁ tk₁ n₁ r₁ => ?_
  dsimp only at hd
  split at hd
  · rename_i ds
    split at hd
    · rename_i ns hns
      obtain ⟨hlen, kf, vf, hkv, hpost⟩ := hd
      have hlen' : ds.length ≤ 1000000 := by rw [← intsD_len hns]; exact hlen
      refine iter_snd (s := { s with heap := h₁, toks := tk₁ }) (P := fun es => es = ds) R n₁.sub r₁ ⟨hlen', rfl⟩ fun ds' hds hl it' h₂ k₂ src => ?_
      subst hds
      obtain ⟨I, fp, wr, P, St, rfl, W, hst, hP, hsol, hwr, hfp⟩ := src
      have hint : ∀ i v, P i v → ∃ j t, ds'[i]? = some (.int j) ∧ v = .int j t ∧ j ∈ ns := fun i v hv => by
        obtain ⟨d, h1, h2⟩ := hP i v hv
        obtain ⟨j, rfl, hj⟩ := intsD_get hns h1
        cases h2
        exact ⟨j, _, h1, rfl, hj⟩
      refine wpAny_newObj_type ?_
      dsimp only
      have kp : Kept h₂ (h₂.push { cls := .type "dict", data := .dict #[] }) := .push _ _
      have o₃ := ((o.next n₁).next (Nx.grow n₁.sub k₂)).next (Nx.grow (n₁.sub.keep k₂) kp)
      refine newEnv_snd (s := { s with heap := h₂.push { cls := .type "dict", data := .dict #[] }, toks := tk₁ }) ?_
      dsimp only
      obtain ⟨f0, k₄⟩ := comp_start (s := { s with heap := h₂.push { cls := .type "dict", data := .dict #[] }, toks := tk₁ }) (h₀ := h₁) o₃ hsc (k₂.trans kp) (o.next n₁).wd
      dsimp only at f0 k₄
      have hnewD : (h₂.push { cls := .type "dict", data := .dict #[] }).DictOf (intKind prog w) h₂.objs.size [] := Heap.DictOf.new h₂
      generalize hL : (h₂.push { cls := .type "dict", data := .dict #[] }).objs.size = L at f0 k₄ ⊢
      generalize hH : pushCells ((h₂.push { cls := .type "dict", data := .dict #[] }).push { cls := .type "dict", data := .dict #[] }) cs.names = h₄ at f0 k₄ ⊢
      have haL : h₂.objs.size ≠ L := by rw [← hL, Heap.size_push]; exact (Nat.succ_ne_self _).symm
      have hL2 : h₂.get? L = none := by
        cases q : h₂.get? L with
        | none => rfl
        | some o => have := Heap.lt_size q; rw [← hL, Heap.size_push] at this; exact absurd this (Nat.not_lt.mpr (Nat.le_succ _))
      have kh : Kept h₂ h₄ := kp.trans k₄
      have below : ∀ b ob, h₂.get? b = some ob → b ≠ L ∧ b ≠ h₂.objs.size := fun b ob e => ⟨(by rintro rfl; rw [hL2] at e; cases e), Nat.ne_of_lt (Heap.lt_size e)⟩
      have hfpH : ∀ b ∈ fp, ∃ o, h₂.get? b = some o := fun b hb => let ⟨o, h1, _⟩ := (hsol _ _ hst).1 b hb; ⟨o, h1⟩
      have okc : ∀ (s₃ : Shared) m₃ v j t, v = Value.int j t → s₃.heap.Ns L m₃ → m₃ x = some v → (∀ b o, b ≠ L → b ∉ wr → b ≠ h₂.objs.size → h₄.get? b = some o → s₃.heap.get? b = some o) →
          Ok prog w C fa X σ₁ s₃.heap (cenvOf cs env L) cs.names (setR (inner cs.names ρ) x (.int j)) := by
        intro s₃ m₃ v j t hv hn hm hk
        have kk : Kept h₁ s₃.heap := fun b ob e => hk b ob (below b ob (k₂ b ob e)).1 (fun hb => by have := hwr b hb; rw [this] at e; cases e) (below b ob (k₂ b ob e)).2 (kh b ob (k₂ b ob e))
        refine ⟨n₁.sub.keep kk, (o.next n₁).wd.keep kk, f0.ok.stat, fun y hy => ?_, fun y d hy => ?_⟩
        · rcases hy with hy | hy
          · exact absurd rfl (hcell _ (mem_of_lookup hy))
          · obtain ⟨c, u, h1, h2⟩ := o.cells y (hfree y (mem_of_lookup hy))
            refine ⟨c, u, ?_, h2.keeps fun b ob e => kk b ob (n₁.kept b ob e)⟩
            show (cellsFrom (L + 1) cs.names (cloOf env.cells cs.names [])).lookup y = some c
            rw [hce, clo_lookup, if_pos (mem_of_lookup hy), h1]; rfl
        · unfold setR at hy
          split at hy
          · rename_i e
            cases hy; subst e
            exact ⟨beq_eq_false_iff_ne.mpr (bne_iff_ne.mp b6.1), beq_eq_false_iff_ne.mpr (bne_iff_ne.mp b7.1), v, .inl ⟨f0.ok.stat.loc _ hx, m₃, hn, hm⟩, hv ▸ .int _ _⟩
          · have hfr : cs.names.lookup y = some .free := by
              unfold inner at hy
              split at hy
              · assumption
              · cases hy
            have hyρ : ρ y = some d := by unfold inner at hy; rw [hfr] at hy; exact hy
            obtain ⟨e1, e2, u, hu, hr⟩ := o.vars y d hyρ
            refine ⟨e1, e2, u, .inr ⟨(f0.ok.stat.free y hfr).symm, ?_⟩, hr.mono n₁.le⟩
            have hkc := hfree y (mem_of_lookup hfr)
            rcases hu with ⟨kl, _⟩ | ⟨_, c, hc, hv'⟩
            · exfalso
              rcases hkc with h1 | h1
              · rw [o.stat.cell y h1] at kl; cases kl
              · rcases o.stat.free y h1 with h2 | h2 <;> (rw [h2] at kl; cases kl)
            · refine ⟨c, ?_, hv'.keeps fun b ob e => kk b ob (n₁.kept b ob e)⟩
              show (cellsFrom (L + 1) cs.names (cloOf env.cells cs.names [])).lookup y = some c
              rw [hce, clo_lookup, if_pos (mem_of_lookup hfr), hc]; rfl
      have loop : codeAny (model prog w) A (.compLoop (.DictComp ke ve [⟨.Name x px, it, [], 0⟩] cs pos) 0 (.ref I) (.ref h₂.objs.size) (cenvOf cs env L)) (compPost (model prog w) A E none Q (.ref h₂.objs.size) L) { s with heap := h₄, toks := tk₁ } := by
        obtain ⟨m0, hm0⟩ := f0.ns
        refine codeAny_compLoop_walkD (s := { s with heap := h₄, toks := tk₁ }) (knd := intKind prog w) (cenv := cenvOf cs env L) (m := m0) W (fun _ => true) (fun v k => ∃ i t, v = .int i t ∧ k = kf i) (fun v y => ∃ i t t', v = .int i t ∧ y = .int (vf i) t')
          (f0.ok.stat.loc x hx) (by rw [f0.ok.stat.fn]; rfl) haL
          (fun hb => by obtain ⟨o, h1⟩ := hfpH _ hb; exact (below _ _ h1).2 rfl) (fun hb => by obtain ⟨o, h1⟩ := hfpH _ hb; exact (below _ _ h1).1 rfl)
          (W.frame _ _ _ hst fun b _ o e => kh b o e) (hnewD.keep k₄) hm0 (fun i v s₃ m₃ hv hn hm hk => ?_) (fun i v s₃ m₃ hv _ hn hm hk => ?_) (fun i v s₃ m₃ hv _ hn hm hk => ?_) ?_ (sl hlen')
        · refine wpAny_tests_nil ?_
          exact ⟨rfl, s₃.heap, s₃.toks, rfl, fun _ _ e => e⟩
        · obtain ⟨j, t, hj, rfl, hm'⟩ := hint i v hv
          refine hev _ _ _ _ (hkv j hm').1 b8.1 R (okc s₃ m₃ _ j t rfl hn hm hk) fun d hd u σ' h' tk nx r => ?_
          subst hd
          cases r
          exact ⟨⟨kf j, intKind_is _ _ _ _, j, t, rfl, rfl⟩, h', tk, rfl, nx.kept⟩
        · obtain ⟨j, t, hj, rfl, hm'⟩ := hint i v hv
          refine hev _ _ _ _ (hkv j hm').2 b8.2 R (okc s₃ m₃ _ j t rfl hn hm hk) fun d hd u σ' h' tk nx r => ?_
          subst hd
          cases r
          exact ⟨⟨j, t, _, rfl, rfl⟩, h', tk, rfl, nx.kept⟩
        · intro hF tk m' kvs vs hn hl' hvl hvP hst' hkF
          refine ⟨m', hn, fun h' hsF => ?_⟩
          have hdict := hl'.extBut hsF.extBut haL
          have kk : Kept h₁ h' := fun b ob e => hsF.extBut b ob (below b ob (k₂ b ob e)).1 (hkF b ob (below b ob (k₂ b ob e)).1 (fun hb => by have := hwr b hb; rw [this] at e; cases e) (below b ob (k₂ b ob e)).2 (kh b ob (k₂ b ob e)))
          obtain ⟨ob, hob, hd⟩ := Heap.dictOf_iff.mp hdict
          have hvs : IntsAre vs ns := ints_of hns hvl fun j v hv => by
            obtain ⟨i, t, h1, h2, _⟩ := hint j v (hvP j v hv)
            exact ⟨i, t, h1, h2⟩
          rw [List.filter_eq_self.mpr (fun _ _ => rfl)] at hst'
          have hσD : σ₁ h₂.objs.size = none := none_of_sub (n₁.sub.keep k₂) (get?_size _)
          refine hQ _ hpost _ (addS σ₁ h₂.objs.size ob) h' tk ⟨n₁.le.trans (addS_le hσD), addS_sub (n₁.sub.keep kk) hob, fun b p e => kk b p (n₁.kept b p e), fun b hb hs => ?_⟩ (.dict (addS_self _ _ _) hd (dict_loop_rp hst' hvs) (sysOk ((o.next n₁).wd.keep k₂) rfl))
          unfold addS
          obtain ⟨p, hp'⟩ := Option.isSome_iff_exists.mp hs
          rw [if_neg (below _ _ (k₂ _ _ (n₁.kept _ _ hp'))).2]
          exact n₁.newf b hb hs
      exact codeAny_compStart_dict loop (W.self 0 _ _ _ (W.frame _ _ _ hst fun b _ o e => kh b o e) loop)
    · exact hd.elim
  · exact hd.elim

theorem okSub_eq {ok : Names → Expr → Bool} {a i : Expr} (h : notSlice i = true) : okSub ok sc a i = (ok sc a && ok sc i && notSlice i) := by
  cases i with
  | Slice _ _ _ _ => cases h
  | _ => rfl
theorem ifE_el {Q : Expr → Prop} {ev : Ev} {post : D → Prop} {t a b : Expr} (hp : ifE ev sc ρ post t a b) (k1 : ∀ c k p, ifE ev sc ρ post t (.Constant c k p) b → Q (.Constant c k p)) (k2 : ∀ a, (testW ev sc ρ t fun c => (c = true → ev sc ρ a post) ∧ (c = false → ev sc ρ b post)) → Q a) : Q a := by
  cases a with
  | Constant c k p => exact k1 c k p hp
  | _ => exact k2 _ hp
theorem ifE_el2 {Q : Expr → Prop} {ev : Ev} {post : D → Prop} {t b : Expr} {i : Int} {k : Nat} {p : Pos} (hp : ifE ev sc ρ post t (.Constant (.int i) k p) b) (k1 : ∀ c k' q, ifE ev sc ρ post t (.Constant (.int i) k p) (.Constant c k' q) → Q (.Constant c k' q)) (k2 : ∀ b, (testW ev sc ρ t fun c => (c = true → ev sc ρ (.Constant (.int i) k p) post) ∧ (c = false → ev sc ρ b post)) → Q b) : Q b := by
  cases b with
  | Constant c k' q => exact k1 c k' q hp
  | _ => exact k2 _ hp
theorem ifE_inv {ev : Ev} {post : D → Prop} {t a b : Expr} (hp : ifE ev sc ρ post t a b) : (∃ i k p j l q, a = .Constant (.int i) k p ∧ b = .Constant (.int j) l q ∧ testW ev sc ρ t fun b => post (.int (if b then i else j))) ∨ (testW ev sc ρ t fun c => (c = true → ev sc ρ a post) ∧ (c = false → ev sc ρ b post)) := by
  refine ifE_el (Q := fun a => (∃ i k p j l q, a = .Constant (.int i) k p ∧ b = .Constant (.int j) l q ∧ testW ev sc ρ t fun b => post (.int (if b then i else j))) ∨ (testW ev sc ρ t fun c => (c = true → ev sc ρ a post) ∧ (c = false → ev sc ρ b post))) hp (fun c k p hp => ?_) (fun _ h => .inr h)
  cases c with
  | int i =>
    refine ifE_el2 (Q := fun b => (∃ i' k' p' j l q, Expr.Constant (.int i) k p = .Constant (.int i') k' p' ∧ b = .Constant (.int j) l q ∧ testW ev sc ρ t fun b => post (.int (if b then i' else j))) ∨ (testW ev sc ρ t fun c => (c = true → ev sc ρ (.Constant (.int i) k p) post) ∧ (c = false → ev sc ρ b post))) hp (fun c l q hp => ?_) (fun _ h => .inr h)
    cases c with
    | int j => exact .inl ⟨i, k, p, j, l, q, rfl, rfl, hp⟩
    | _ => exact .inr hp
  | _ => exact .inr hp
theorem subE_el {Q : Expr → Prop} {ev : Ev} {post : D → Prop} {a i : Expr} (hp : subE ev sc ρ post a i) (k1 : ∀ lo hi st q, subE ev sc ρ post a (.Slice lo hi st q) → Q (.Slice lo hi st q)) (k2 : ∀ i, notSlice i = true → (ev sc ρ a fun d => ev sc ρ i fun k => itemW d k post) → Q i) : Q i := by
  cases i with
  | Slice lo hi st q => exact k1 lo hi st q hp
  | _ => exact k2 _ rfl hp
theorem subE_inv {ev : Ev} {post : D → Prop} {a i : Expr} (hp : subE ev sc ρ post a i) : (∃ lo hi st q, i = .Slice lo hi st q ∧ subE ev sc ρ post a (.Slice lo hi st q)) ∨ (notSlice i = true ∧ ev sc ρ a fun d => ev sc ρ i fun k => itemW d k post) :=
  subE_el (Q := fun i => (∃ lo hi st q, i = .Slice lo hi st q ∧ subE ev sc ρ post a (.Slice lo hi st q)) ∨ (notSlice i = true ∧ ev sc ρ a fun d => ev sc ρ i fun k => itemW d k post)) hp (fun lo hi st q h => .inl ⟨lo, hi, st, q, rfl, h⟩) (fun _ n h => .inr ⟨n, h⟩)
theorem callE_el {Q : Expr → Prop} {Φ : Tab} {ev : Ev} {post : D → Prop} {f : Expr} {args : List Expr} (hp : callE Φ ev sc ρ post f args) (k1 : ∀ o m p, callE Φ ev sc ρ post (.Attribute o m p) args → Q (.Attribute o m p)) (k2 : ∀ x p, callE Φ ev sc ρ post (.Name x p) args → Q (.Name x p)) : Q f := by
  cases f with
  | Attribute o m p => exact k1 o m p hp
  | Name x p => exact k2 x p hp
  | _ => exact False.elim hp
theorem callE_inv {Φ : Tab} {ev : Ev} {post : D → Prop} {f : Expr} {args : List Expr} (hp : callE Φ ev sc ρ post f args) : (∃ o m p, f = .Attribute o m p ∧ callE Φ ev sc ρ post (.Attribute o m p) args) ∨ (∃ x p, f = .Name x p ∧ callE Φ ev sc ρ post (.Name x p) args) :=
  callE_el (Q := fun f => (∃ o m p, f = .Attribute o m p ∧ callE Φ ev sc ρ post (.Attribute o m p) args) ∨ (∃ x p, f = .Name x p ∧ callE Φ ev sc ρ post (.Name x p) args)) hp (fun o m p h => .inl ⟨o, m, p, rfl, h⟩) (fun x p h => .inr ⟨x, p, rfl, h⟩)
theorem dcE_el {Q : Expr → Prop} {ev : Ev} {post : D → Prop} {ke ve t it : Expr} {ifs : List Expr} {k : Int} {gs : List Comprehension} {cs : Scope} (hp : dcE ev sc ρ post ke ve (⟨t, it, ifs, k⟩ :: gs) cs) (k1 : ∀ x p, dcE ev sc ρ post ke ve (⟨.Name x p, it, ifs, k⟩ :: gs) cs → Q (.Name x p)) : Q t := by
  cases t with
  | Name x p => exact k1 x p hp
  | _ => exact False.elim hp
theorem dcE_inv {ev : Ev} {post : D → Prop} {ke ve t it : Expr} {ifs : List Expr} {k : Int} {gs : List Comprehension} {cs : Scope} (hp : dcE ev sc ρ post ke ve (⟨t, it, ifs, k⟩ :: gs) cs) : ∃ x p, t = .Name x p ∧ dcE ev sc ρ post ke ve (⟨.Name x p, it, ifs, k⟩ :: gs) cs :=
  dcE_el (Q := fun t => ∃ x p, t = .Name x p ∧ dcE ev sc ρ post ke ve (⟨.Name x p, it, ifs, k⟩ :: gs) cs) hp fun x p h => ⟨x, p, rfl, h⟩

theorem evalF_snd {n : Nat} {nm : List Str} {Φ : Tab} {ev : Ev} {ok : Names → Expr → Bool} (hc : Calls prog w C fa X n nm Φ) (hev : EvOk prog w C fa X n ev ok) : EvOk prog w C fa X n (evalF Φ ev) (okF nm ok) := by
  intro sc ρ e post hp hok A env σ s Q E R o hQ
  have N0 := Nx.refl o.sub
  cases e with
  | Constant k kk p =>
    have hp : constW post k := hp
    cases k with
    | int i => exact wpAny_Constant_int (hQ _ hp _ _ _ _ N0 (.int _ _))
    | float x => exact fun _ _ _ => hQ _ hp _ _ _ _ N0 (.flt _ s.toks)
    | str x => exact wpAny_Constant_str (hQ _ hp _ _ _ _ N0 (.str _ _))
    | bytes b => exact fun _ _ _ => hQ _ hp _ _ _ _ N0 (.byt _ s.toks)
    | bool b => exact wpAny_Constant_bool (hQ _ hp _ _ _ _ N0 (.bool _))
    | _ => exact False.elim hp
  | Name x p =>
    have hp : (match ρ x with | some d => post d | none => False) := hp
    split at hp
    · rename_i hx; exact name_snd o hx hp hQ
    · exact hp.elim
  | BinOp l op r p =>
    have hok := Bool.and_eq_true_iff.mp (show (ok sc l && ok sc r) = true from hok)
    have hp : ev sc ρ l (fun a => ev sc ρ r fun b => binW op a b post) := hp
    refine wpAny_BinOp (hev _ _ _ _ hp hok.1 R o fun d₁ h₁ v₁ σ₁ H₁ t₁ n₁ r₁ => hev _ _ _ _ h₁ hok.2 R (o.next n₁) fun d₂ h₂ v₂ σ₂ H₂ t₂ n₂ r₂ => ?_)
    exact bin_snd (s := { s with heap := H₂, toks := t₂ }) R n₂.sub (r₁.mono n₂.le) r₂ h₂ fun d hd v σ' h' tk nx r => hQ d hd v σ' h' tk ((n₁.trans n₂).trans nx) r
  | UnaryOp u x p =>
    have hp : unE ev sc ρ post u x := hp
    have hok : ok sc x = true := hok
    unfold unE at hp
    split at hp
    · refine wpAny_UnaryOp (hev _ _ _ _ hp hok R o fun d₁ h₁ v₁ σ₁ H₁ t₁ n₁ r₁ => ?_)
      dsimp only at h₁
      split at h₁
      · obtain ⟨_, rfl⟩ := r₁.int_inv; exact neg_int (hQ _ h₁ _ _ _ _ n₁ (.int _ _))
      · exact h₁.elim
    · exact hp.elim
  | IfExp t a b p =>
    have hp : ifE ev sc ρ post t a b := hp
    have hok : (okT ok sc t && ok sc a && ok sc b) = true := hok
    simp only [Bool.and_eq_true] at hok
    replace hp := ifE_inv hp
    rcases hp with ⟨i, k, p1, j, l, p2, rfl, rfl, hp⟩ | hp
    · refine wpAny_IfExp (test_snd hev R o hok.1.1 hp fun b hb σ₁ H₁ t₁ n₁ => ?_)
      cases b with
      | true => exact wpAny_Constant_int (hQ _ hb _ _ _ _ n₁ (.int _ _))
      | false => exact wpAny_Constant_int (hQ _ hb _ _ _ _ n₁ (.int _ _))
    · refine wpAny_IfExp (test_snd hev R o hok.1.1 hp fun b hb σ₁ H₁ t₁ n₁ => ?_)
      cases b with
      | true => exact hev _ _ _ _ (hb.1 rfl) hok.1.2 R (o.next n₁) fun d hd v σ' h' tk nx r => hQ d hd v σ' h' tk (n₁.trans nx) r
      | false => exact hev _ _ _ _ (hb.2 rfl) hok.2 R (o.next n₁) fun d hd v σ' h' tk nx r => hQ d hd v σ' h' tk (n₁.trans nx) r
  | List es p =>
    have hok : argsOkE ok sc es = true := hok
    have hp : listW ev sc ρ es (fun ds => ds.length ≤ 1000000 ∧ post (.list ds)) := hp
    refine wpAny_List (args_snd hev R _ o hok hp fun ds hds vs σ₁ H₁ t₁ n₁ r₁ => ?_)
    exact ⟨by rw [r₁.length]; exact sl hds.1, hQ _ hds.2 _ _ _ _ (n₁.trans (Nx.push n₁.sub rfl)) (.list (n := 0) (addS_self _ _ _) (r₁.mono (addS_le (none_of_sub n₁.sub (get?_size _)))))⟩
  | Tuple es tk0 p =>
    have hok : argsOkE ok sc es = true := hok
    have hp : listW ev sc ρ es (fun ds => ds.length ≤ 1000000 ∧ post (.tup ds)) := hp
    refine wpAny_Tuple (args_snd hev R _ o hok hp fun ds hds vs σ₁ H₁ t₁ n₁ r₁ => ?_)
    exact ⟨by rw [r₁.length]; exact sl hds.1, hQ _ hds.2 _ _ _ _ (n₁.trans (Nx.push n₁.sub rfl)) (.tup (n := 0) (addS_self _ _ _) (r₁.mono (addS_le (none_of_sub n₁.sub (get?_size _)))))⟩
  | Dict ks vs p =>
    have hok : okDict ok sc ks vs = true := hok
    have hp : dictE ev sc ρ post ks vs := hp
    cases ks with
    | nil =>
      cases vs with
      | nil => exact dict0_snd o hp hQ
      | cons _ _ => exact False.elim hp
    | cons k0 ks =>
      cases k0 with
      | none => cases ks <;> cases vs <;> exact False.elim hp
      | some k =>
        cases ks with
        | cons _ _ => exact False.elim hp
        | nil =>
          cases vs with
          | nil => exact False.elim hp
          | cons v vs =>
            cases vs with
            | cons _ _ => exact False.elim hp
            | nil => exact dict1_snd hev R o hok hp hQ
  | Compare l ops rs p =>
    have hok : okCmp ok sc l ops rs = true := hok
    have hp : cmpE ev sc ρ post l ops rs := hp
    unfold cmpE at hp
    split at hp
    · simp only [okCmp, Bool.and_eq_true, Bool.not_eq_true'] at hok
      refine wpAny_Compare1 (hev _ _ _ _ hp hok.1.1 R o fun d₁ h₁ v₁ σ₁ H₁ t₁ n₁ r₁ => hev _ _ _ _ h₁ hok.1.2 R (o.next n₁) fun d₂ h₂ v₂ σ₂ H₂ t₂ n₂ r₂ => ?_) hok.2
      exact cmp_snd (s := { s with heap := H₂, toks := t₂ }) R n₂.sub (r₁.mono n₂.le) r₂ h₂ fun c hc tk => hQ _ hc _ _ _ _ (n₁.trans n₂) (.bool _)
    · exact hp.elim
  | BoolOp bo vs p =>
    have hok : okBool ok sc bo vs = true := hok
    have hp : boolE ev sc ρ post bo vs := hp
    unfold boolE at hp
    split at hp
    · split at hp
      · simp only [okBool, Bool.and_eq_true] at hok
        unfold andE at hp
        refine wpAny_And2 (hev _ _ _ _ hp hok.1 R o fun d₁ h₁ v₁ σ₁ H₁ t₁ n₁ r₁ => ?_)
        dsimp only at h₁
        split at h₁
        · rename_i b
          obtain rfl := r₁.bool_inv
          refine wpAny_truthy_bool ?_
          cases b with
          | true => exact hev _ _ _ _ (h₁.1 rfl) hok.2 R (o.next n₁) fun d hd v σ' h' tk nx r => hQ d hd v σ' h' tk (n₁.trans nx) r
          | false => exact hQ _ (h₁.2 rfl) _ _ _ _ n₁ (.bool _)
        · exact h₁.elim
      · exact hp.elim
    · exact hp.elim
  | Subscript a i p =>
    have hok : okSub ok sc a i = true := hok
    have hp : subE ev sc ρ post a i := hp
    replace hp := subE_inv hp
    rcases hp with ⟨lo, hi, st, q, rfl, hp⟩ | ⟨hns, hp⟩
    · exact slice1_snd hev R o hok hp hQ
    · have hk : ok sc a = true ∧ ok sc i = true ∧ notSlice i = true := by
        have h1 := Bool.and_eq_true_iff.mp ((okSub_eq hns).symm.trans hok)
        have h2 := Bool.and_eq_true_iff.mp h1.1
        exact ⟨h2.1, h2.2, h1.2⟩
      refine Subscript_ (hev _ _ _ _ hp hk.1 R o fun d₁ h₁ v₁ σ₁ H₁ t₁ n₁ r₁ => hev _ _ _ _ h₁ hk.2.1 R (o.next n₁) fun d₂ h₂ v₂ σ₂ H₂ t₂ n₂ r₂ => ?_)
      refine item_snd (s := { s with heap := H₂, toks := t₂ }) (fun x y => ?_) n₂.sub (r₁.mono n₂.le) r₂ h₂ fun d hd v σ' h' tk nx r => hQ d hd v σ' h' tk ((n₁.trans n₂).trans nx) r
      have := hk.2.2
      cases i <;> first | rfl | cases this
  | Attribute a m p =>
    have hok2 := Bool.and_eq_true_iff.mp (show (ok sc a && baseOk' a) = true from hok)
    have hp : (if m = "comp_select_list" then ev sc ρ a (fun d => match d with | .duel d => post d | _ => False) else False) := hp
    split at hp
    · rename_i hm
      subst hm
      rw [arm_eval_Attribute, base_eq hok2.2]
      refine wpAny_bind (hev _ _ _ _ hp hok2.1 R o fun d₁ h₁ v₁ σ₁ H₁ t₁ n₁ r₁ => wpAny_bind (wpAny_standAt ?_))
      dsimp only at h₁
      split at h₁
      · rename_i d
        refine wpAny_bind (wpAny_holding (hc.att (s := { s with heap := H₁, toks := t₁ }) n₁.sub (o.next n₁).wd r₁ fun u h' tk nx r => ?_))
        exact wpAny_bind (wpAny_letTemporaryGo (wpAny_pure (hQ _ h₁ _ _ _ _ (n₁.trans nx) r)))
      · exact h₁.elim
    · exact hp.elim
  | Call fn args kws pos =>
    have hok : okCallK nm ok sc fn args kws pos = true := hok
    have hp : callK Φ ev sc ρ post fn args kws := hp
    unfold callK at hp
    split at hp
    case h_2 => exact hp.elim
    have hok : okCall nm ok sc fn args pos = true := hok
    replace hp := callE_inv hp
    rcases hp with ⟨fo, fm, fp, rfl, hp⟩ | ⟨f, np, rfl, hp⟩
    · exact meth_snd hc hev R o hok hp hQ
    ·
      replace hp : (if f = "isinstance" then isiE ev sc ρ post args else listW ev sc ρ args fun ds => callW Φ f ds post) := hp
      replace hok : ((f != ("__debug__" : Str)) && (f != ("tuple" : Str)) && (sc.lookup f == some .globalImplicit) && !args.isEmpty && (if f = "isinstance" then okIsi ok sc args else ((builtinVal f).isSome || (f != ("compare" : Str) && nm.contains f)) && argsOkE ok sc args)) = true := hok
      simp only [Bool.and_eq_true, Bool.not_eq_true', bne_iff_ne, beq_iff_eq] at hok
      obtain ⟨⟨⟨⟨k1, k1'⟩, k2⟩, k3⟩, k4⟩ := hok
      have hfd : (f == ("__debug__" : Str)) = false := beq_eq_false_iff_ne.mpr k1
      split at hp
      · rename_i hf
        rw [if_pos hf] at k4
        exact isi_snd hev R o hfd hf k2 k4 hp hQ
      · rename_i hf
        rw [if_neg hf] at k4
        simp only [Bool.and_eq_true] at k4
        exact call_snd hc hev R o hfd k1' hf k2 k3 k4.1 k4.2 hp hQ
  | ListComp elt gens cs p =>
    have hok : compOk ok sc elt gens cs = true := hok
    have hp : lcE ev sc ρ post elt gens cs := hp
    cases gens with
    | nil => exact False.elim hp
    | cons g gs =>
      obtain ⟨g1, g2, g3, g4⟩ := g
      exact listcomp_snd hev R o hok hp hQ
  | DictComp ke ve gens cs p =>
    have hok : okDc ok sc ke ve gens cs = true := hok
    have hp : dcE ev sc ρ post ke ve gens cs := hp
    cases gens with
    | nil => exact False.elim hp
    | cons g gs =>
      obtain ⟨g1, g2, g3, g4⟩ := g
      replace hp := dcE_inv hp
      obtain ⟨x, px, rfl, hp⟩ := hp
      ·
        cases g3 with
        | cons _ _ => exact False.elim hp
        | nil =>
          cases g4 with
          | negSucc _ => exact False.elim hp
          | ofNat g4 =>
          cases g4 with
          | succ _ => exact False.elim hp
          | zero =>
            cases gs with
            | cons _ _ => exact False.elim hp
            | nil => exact dictcomp_snd hev R o hok hp hQ
  | _ => exact False.elim hp
end
end Mine.Internal

namespace Mine.Internal

section
variable {prog : Program} {w : World} {C : Addr} {fa : Str → Option Addr} {X : Heap → Prop}

theorem evalW_snd {n : Nat} {nm : List Str} {Φ : Tab} (hc : Calls prog w C fa X n nm Φ) : ∀ k, EvOk prog w C fa X n (evalW Φ k) (okE nm k)
  | 0 => fun _ _ _ _ hp _ => hp.elim
  | k + 1 => evalF_snd hc (evalW_snd hc k)

variable {A : Around} {E : Value → Shared → Prop} {s : Shared}
  {σ₀ κ σ σ' : Sg} {h h' : Heap} {env : Env} {sc : Names} {ρ : Rho} {a : Addr}

noncomputable def notCell (o : Obj) : Prop := ∀ v, o.data ≠ .cell v

theorem FS.move1 (f : FS prog w C fa X σ₀ κ σ h env sc ρ) (hκ : κ a = none) (hσ : σ a = none) (hL : a ≠ env.locals) (hc : ∀ o, h.get? a = some o → notCell o) (hk : ∀ b o, b ≠ a → h.get? b = some o → h'.get? b = some o) :
    FS prog w C fa X σ₀ κ σ h' env sc ρ ∧ ∀ y u, VarAt h env y u → VarAt h' env y u := by
  have pi' : SubH κ h' := fun b o e => hk b o (by rintro rfl; rw [hκ] at e; cases e) (f.pi b o e)
  obtain ⟨hB, wB, bB⟩ := f.bas
  have nsK : ∀ m, h.Ns env.locals m → h'.Ns env.locals m := fun m hn => by
    obtain ⟨o, es, ep, ho, r⟩ := hn
    exact ⟨o, es, ep, hk _ _ (Ne.symm hL) ho, r⟩
  have cK : ∀ c v, h.IsCell c v → h'.IsCell c v := fun c v hcc => by
    obtain ⟨o, ho, hd⟩ := hcc
    exact ⟨o, hk _ _ (by rintro rfl; exact hc o ho v hd) ho, hd⟩
  have vK : ∀ y u, VarAt h env y u → VarAt h' env y u := fun y u hv => by
    rcases hv with ⟨k, m, hm, q⟩ | ⟨k, c, hc, q⟩
    · exact .inl ⟨k, m, nsK _ hm, q⟩
    · exact .inr ⟨k, c, hc, cK _ _ q⟩
  refine ⟨⟨⟨fun b o e => hk b o (by rintro rfl; rw [hσ] at e; cases e) (f.ok.sub b o e), wB.keep fun b o e => pi' b o (bB b o e), f.ok.stat, fun x hx => ?_, fun x d hx => ?_⟩,
    f.le0, pi', ⟨hB, wB, bB⟩, f.nf, ?_, f.piL, f.sgL, fun x hx => ?_⟩, vK⟩
  · obtain ⟨c, v, h1, h2⟩ := f.ok.cells x hx; exact ⟨c, v, h1, cK _ _ h2⟩
  · obtain ⟨e1, e2, v, hv, hr⟩ := f.ok.vars x d hx
    exact ⟨e1, e2, v, vK _ _ hv, hr⟩
  · obtain ⟨m, hm⟩ := f.ns; exact ⟨m, nsK _ hm⟩
  · obtain ⟨c, v, h1, h2, h3⟩ := f.own x hx; exact ⟨c, v, h1, cK _ _ h2, h3⟩

theorem FS.hide1 (f : FS prog w C fa X σ₀ κ σ h env sc ρ) {o : Obj} (ho : h.get? a = some o) (hσ : σ a = none) (hL : a ≠ env.locals) (hc : notCell o) : FS prog w C fa X σ₀ (shield κ [a] h) σ h env sc ρ where
  ok := f.ok
  le0 := f.le0
  pi := fun b p e => by
    unfold shield at e
    split at e
    · exact e
    · exact f.pi b p e
  bas := by
    obtain ⟨hB, h1, h2⟩ := f.bas
    refine ⟨hB, h1, fun b p e => ?_⟩
    unfold shield
    split
    · exact f.pi b p (h2 b p e)
    · exact h2 b p e
  nf := fun b h0 hp => by
    unfold shield at hp
    split at hp
    · rename_i hm; rw [List.mem_singleton.mp hm]; exact hσ
    · exact f.nf b h0 hp
  ns := f.ns
  piL := by
    unfold shield
    rw [if_neg (fun hm => hL (List.mem_singleton.mp hm).symm)]
    exact f.piL
  sgL := f.sgL
  own := fun x hx => by
    obtain ⟨c, v, h1, h2, h3, h4, h5⟩ := f.own x hx
    refine ⟨c, v, h1, h2, ?_, h4, h5⟩
    unfold shield
    rw [if_neg]
    · exact h3
    · intro hm
      obtain ⟨o', ho', hd⟩ := h2
      rw [List.mem_singleton.mp hm, ho] at ho'
      cases ho'
      exact hc v hd
theorem FS.unhide (f : FS prog w C fa X σ₀ (shield κ [a] h) σ h' env sc ρ) (f0 : FS prog w C fa X σ₀ κ σ' h env sc ρ') {o : Obj} (ho : h.get? a = some o) (hκ : κ a = none) : FS prog w C fa X σ₀ κ σ h' env sc ρ ∧ h'.get? a = some o := by
  refine ⟨f.shrink (fun b p e => ?_) (fun b e => ?_) f0.bas, f.pi a o ?_⟩
  · unfold shield
    split
    · exact f0.pi b p e
    · exact e
  · unfold shield at e
    split at e
    · rename_i hm; rw [List.mem_singleton.mp hm]; exact hκ
    · exact e
  · unfold shield
    rw [if_pos (List.mem_singleton.mpr rfl)]; exact ho

theorem store_core {x : Str} {v : Value} {Q : Unit → Shared → Prop} (f : FS prog w C fa X σ₀ κ σ s.heap env sc ρ) (hx : ownName sc x = true)
    (hd : (x == ("__debug__" : Str)) = false ∧ (x == ("__classdict__" : Str)) = false)
    (hQ : ∀ h' tk, (∀ ρ' : Rho, (∀ y d, y ≠ x → ρ' y = some d → ρ y = some d) → (∀ d, ρ' x = some d → Rp prog w C σ v d) → FS prog w C fa X σ₀ κ σ h' env sc ρ') → VarAt h' env x v →
      (∀ y u, y ≠ x → VarAt s.heap env y u → VarAt h' env y u) → Q () { s with heap := h', toks := tk }) :
    wpAny (model prog w) A (storeName env x v) Q E s := by
  obtain ⟨m, hm⟩ := f.ns
  obtain ⟨hB, wB, bB⟩ := f.bas
  have hkind := f.ok.stat.fn
  unfold ownName at hx
  rcases Bool.or_eq_true_iff.mp hx with hx | hx
  · have hx := beq_iff_eq.mp hx
    have hk := f.ok.stat.loc x hx
    refine wpAny_storeName_local hk hm (fun h' hn hsb => ?_) (by rw [hkind]; rfl)
    have keepN : ∀ a o, s.heap.get? a = some o → a ≠ env.locals → h'.get? a = some o := fun a o e ha => (hsb.2 a ha).trans e
    have cellK : ∀ c v, s.heap.IsCell c v → h'.IsCell c v := fun c v hc => hc.sameBut hsb (by
      rintro rfl; obtain ⟨o, ho, hd'⟩ := hc; obtain ⟨o', _, _, ho', hd'', _⟩ := hm; rw [ho] at ho'; cases ho'; rw [hd'] at hd''; cases hd'')
    have pi' : SubH κ h' := fun a o e => keepN a o (f.pi a o e) (by rintro rfl; rw [f.piL] at e; cases e)
    have here : VarAt h' env x v := .inl ⟨hk, _, hn, by simp⟩
    have rest : ∀ y u, y ≠ x → VarAt s.heap env y u → VarAt h' env y u := fun y u hne hv => by
      rcases hv with ⟨k, m', hm', hv⟩ | ⟨k, c, hc, hv⟩
      · cases Ns.unique hm hm'
        exact .inl ⟨k, _, hn, by simp only [hne, if_false]; exact hv⟩
      · exact .inr ⟨k, c, hc, cellK c _ hv⟩
    refine hQ h' _ (fun ρ' h1 h2 => ?_) here rest
    refine ⟨⟨fun a o e => keepN a o (f.ok.sub a o e) (by rintro rfl; rw [f.sgL] at e; cases e), wB.keep fun a o e => pi' a o (bB a o e), f.ok.stat,
      fun y hy => let ⟨c, v, h1, h2⟩ := f.ok.cells y hy; ⟨c, v, h1, cellK c _ h2⟩, fun y d' hy => ?_⟩, f.le0, pi', f.bas, f.nf, ⟨_, hn⟩, f.piL, f.sgL,
      fun y hy => let ⟨c, v, h1, h2, h3⟩ := f.own y hy; ⟨c, v, h1, cellK c _ h2, h3⟩⟩
    by_cases hyx : y = x
    · subst hyx; exact ⟨hd.1, hd.2, v, here, h2 d' hy⟩
    · obtain ⟨e1, e2, v', hv, hr'⟩ := f.ok.vars y d' (h1 y d' hyx hy)
      exact ⟨e1, e2, v', rest _ _ hyx hv, hr'⟩
  · have hx := beq_iff_eq.mp hx
    have hk := f.ok.stat.cell x hx
    obtain ⟨c, v₀, hc, hcell, hpc, hsc, huniq⟩ := f.own x hx
    refine wpAny_storeName_cell (v₀ := v₀) hkind hk hc hcell fun h' hn hsb => ?_
    have q := hQ h' s.toks
    have hLc : env.locals ≠ c := by
      rintro rfl; obtain ⟨o, ho, hd'⟩ := hcell; obtain ⟨o', _, _, ho', hd'', _⟩ := hm; rw [ho] at ho'; cases ho'; rw [hd'] at hd''; cases hd''
    have keepN : ∀ a o, s.heap.get? a = some o → a ≠ c → h'.get? a = some o := fun a o e ha => (hsb.2 a ha).trans e
    have pi' : SubH κ h' := fun a o e => keepN a o (f.pi a o e) (by rintro rfl; rw [hpc] at e; cases e)
    have here : VarAt h' env x v := .inr ⟨.inl hk, c, hc, hn⟩
    have rest : ∀ y u, y ≠ x → VarAt s.heap env y u → VarAt h' env y u := fun y u hne hv => by
      rcases hv with ⟨k, m', hm', hv⟩ | ⟨k, c', hc', hv⟩
      · exact .inl ⟨k, m', hm'.sameBut hsb hLc, hv⟩
      · exact .inr ⟨k, c', hc', hv.sameBut hsb (by rintro rfl; exact hne (huniq y hc'))⟩
    refine q (fun ρ' h1 h2 => ?_) here rest
    refine ⟨⟨fun a o e => keepN a o (f.ok.sub a o e) (by rintro rfl; rw [hsc] at e; cases e), wB.keep fun a o e => pi' a o (bB a o e), f.ok.stat, ?_, fun y d' hy => ?_⟩, f.le0, pi', f.bas, f.nf,
      ⟨_, hm.sameBut hsb hLc⟩, f.piL, f.sgL, ?_⟩
    · intro y hy
      obtain ⟨c', v', h1, h2⟩ := f.ok.cells y hy
      by_cases hcc : c' = c
      · subst hcc; exact ⟨c', _, h1, hn⟩
      · exact ⟨c', v', h1, h2.sameBut hsb hcc⟩
    · by_cases hyx : y = x
      · subst hyx; exact ⟨hd.1, hd.2, v, here, h2 d' hy⟩
      · obtain ⟨e1, e2, v', hv, hr'⟩ := f.ok.vars y d' (h1 y d' hyx hy)
        exact ⟨e1, e2, v', rest _ _ hyx hv, hr'⟩
    · intro y hy
      obtain ⟨c', v', h1, h2, h3⟩ := f.own y hy
      by_cases hcc : c' = c
      · subst hcc; exact ⟨c', _, h1, hn, h3⟩
      · exact ⟨c', v', h1, h2.sameBut hsb hcc, h3⟩

variable (prog w C) in
noncomputable def RpO (σ : Sg) (o : Obj) : D → Prop
  | .list ds => ∃ vs n, o = W.listOf (vs : List Value).toArray n ∧ RpL prog w C σ vs ds
  | .dict ks => ∃ kvs, o.IsDictOf (intKind prog w) kvs ∧ PairsAre kvs ks
  | _ => False
theorem RpO.mono {o : Obj} {d : D} (l : Le σ σ') (h : RpO prog w C σ o d) : RpO prog w C σ' o d := by
  unfold RpO at *
  split at h
  · obtain ⟨vs, n, h1, h2⟩ := h; exact ⟨vs, n, h1, h2.mono l⟩
  · exact h
  · exact h.elim
theorem RpO.notCell {o : Obj} {d : D} (h : RpO prog w C σ o d) : notCell o := by
  unfold RpO at h
  split at h
  · obtain ⟨vs, n, rfl, _⟩ := h; intro v e; cases e
  · obtain ⟨kvs, ⟨es, ep, _, hd, _⟩, _⟩ := h; intro v e; rw [hd] at e; cases e
  · exact h.elim

variable (prog w C) in
structure MuAt (κ σ : Sg) (h : Heap) (env : Env) (x : Str) (d : D) (a : Addr) : Prop where
  var : VarAt h env x (.ref a)
  obj : ∃ o, h.get? a = some o ∧ RpO prog w C σ o d
  ka : κ a = none
  sa : σ a = none
  loc : a ≠ env.locals
  sys : a ≠ sysModules
variable (prog w C) in
noncomputable def MuOk (κ σ : Sg) (h : Heap) (env : Env) : Mu → Prop
  | none => True
  | some (x, d) => ∃ a, MuAt prog w C κ σ h env x d a

theorem MuOk.next {μ : Mu} (x : MuOk prog w C κ σ h env μ) (n : Nx σ h σ' h') : MuOk prog w C κ σ' h' env μ := by
  cases μ with
  | none => trivial
  | some p =>
    obtain ⟨a, m⟩ := x
    obtain ⟨o, h1, h2⟩ := m.obj
    exact ⟨a, m.var.keep n.kept, ⟨o, n.kept _ _ h1, h2.mono n.le⟩, m.ka, n.newf a m.sa (by rw [h1]; rfl), m.loc, m.sys⟩

theorem store_mu {x : Str} {v : Value} {μ : Mu} {Q : Unit → Shared → Prop} (f : FS prog w C fa X σ₀ κ σ s.heap env sc ρ) (m : MuOk prog w C κ σ s.heap env μ) (hm : notMu x μ) (hx : ownName sc x = true)
    (hd : (x == ("__debug__" : Str)) = false ∧ (x == ("__classdict__" : Str)) = false)
    (hQ : ∀ h' tk, (∀ ρ' : Rho, (∀ y d, y ≠ x → ρ' y = some d → ρ y = some d) → (∀ d, ρ' x = some d → Rp prog w C σ v d) → FS prog w C fa X σ₀ κ σ h' env sc ρ') → VarAt h' env x v →
      MuOk prog w C κ σ h' env μ → (∀ b o, s.heap.get? b = some o → σ b = none → κ b = none → b ≠ env.locals → notCell o → True) → Q () { s with heap := h', toks := tk }) :
    wpAny (model prog w) A (storeName env x v) Q E s := by
  cases μ with
  | none => exact store_core f hx hd fun h' tk h1 h2 _ => hQ h' tk h1 h2 trivial fun _ _ _ _ _ _ _ => trivial
  | some p =>
    obtain ⟨a, ma⟩ := m
    obtain ⟨o, h1, h2⟩ := ma.obj
    refine store_core (f.hide1 h1 ma.sa ma.loc h2.notCell) hx hd fun h' tk k1 k2 k3 => ?_
    have un : ∀ ρ' : Rho, (∀ y d, y ≠ x → ρ' y = some d → ρ y = some d) → (∀ d, ρ' x = some d → Rp prog w C σ v d) → FS prog w C fa X σ₀ κ σ h' env sc ρ' ∧ h'.get? a = some o := fun ρ' q1 q2 =>
      (k1 ρ' q1 q2).unhide f h1 ma.ka
    exact hQ h' tk (fun ρ' q1 q2 => (un ρ' q1 q2).1) k2 ⟨a, k3 _ _ (hm p rfl) ma.var, ⟨o, (un noR (fun _ _ _ e => by cases e) (fun _ e => by cases e)).2, h2⟩, ma.ka, ma.sa, ma.loc, ma.sys⟩ fun _ _ _ _ _ _ _ => trivial

end
end Mine.Internal

namespace Mine.Internal

section
variable (prog : Program) (w : World) (C : Addr) (fa : Str → Option Addr) (X : Heap → Prop)
structure RetAt (σ₀ κ σ : Sg) (h : Heap) (v : Value) (d : D) : Prop where
  le0 : Le σ₀ σ
  sub : SubH σ h
  pi : SubH κ h
  nf : ∀ a, σ₀ a = none → (κ a).isSome = true → σ a = none
  rp : Rp prog w C σ v d

noncomputable def StQ (σ₀ κ σ : Sg) (env : Env) (sc : Names) (s : Shared) (post : Post) (Q : Flow → Shared → Prop) : Prop :=
  ∀ fl ρ' μ', post fl ρ' μ' → ∀ σ' h' tk, Le σ σ' → match fl with
    | .next => FS prog w C fa X σ₀ κ σ' h' env sc ρ' → MuOk prog w C κ σ' h' env μ' → Q .next { s with heap := h', toks := tk }
    | .brk => FS prog w C fa X σ₀ κ σ' h' env sc ρ' → MuOk prog w C κ σ' h' env μ' → Q .brk { s with heap := h', toks := tk }
    | .ret d => ∀ v, RetAt prog w C σ₀ κ σ' h' v d → Q (.ret v) { s with heap := h', toks := tk }

noncomputable def StOk (n : Nat) (sc : Names) (st : St) (okS : Stmt → Bool) : Prop :=
  ∀ ρ μ b post, st ρ μ b post → okS b = true → ∀ {A : Around} {env : Env} {σ₀ κ σ : Sg} {s : Shared} {Q : Flow → Shared → Prop} {E : Value → Shared → Prop}, Room n A →
    FS prog w C fa X σ₀ κ σ s.heap env sc ρ → MuOk prog w C κ σ s.heap env μ → StQ prog w C fa X σ₀ κ σ env sc s post Q → wpAny (model prog w) A (exec b env) Q E s
noncomputable def StsOk (n : Nat) (sc : Names) (sts : Sts) (okS : List Stmt → Bool) : Prop :=
  ∀ ρ μ b post, sts ρ μ b post → okS b = true → ∀ {A : Around} {env : Env} {σ₀ κ σ : Sg} {s : Shared} {Q : Flow → Shared → Prop} {E : Value → Shared → Prop}, Room n A →
    FS prog w C fa X σ₀ κ σ s.heap env sc ρ → MuOk prog w C κ σ s.heap env μ → StQ prog w C fa X σ₀ κ σ env sc s post Q → wpAny (model prog w) A (execs b env) Q E s

noncomputable def TurnOk (n : Nat) (sc : Names) (turn : D → Rho → Mu → Post → Prop) (target : Expr) (body : List Stmt) : Prop :=
  ∀ d ρ μ post, turn d ρ μ post → ∀ {A : Around} {env : Env} {σ₀ κ σ : Sg} {s : Shared} {v : Value} {Q : Flow → Shared → Prop} {E : Value → Shared → Prop}, Room n A →
    FS prog w C fa X σ₀ κ σ s.heap env sc ρ → MuOk prog w C κ σ s.heap env μ → Rp prog w C σ v d → StQ prog w C fa X σ₀ κ σ env sc s post Q →
    wpAny (model prog w) A (assign target env v) (fun _ s₂ => wpAny (model prog w) A (execs body env) Q E s₂) E s
end

noncomputable def nameOk (sc : Names) (x : Str) : Bool := ownName sc x && (x != ("__debug__" : Str) && x != ("__classdict__" : Str))
theorem nameOk_own {sc : Names} {x : Str} (h : nameOk sc x = true) : ownName sc x = true := (Bool.and_eq_true_iff.mp h).1
theorem nameOk_ne {sc : Names} {x : Str} (h : nameOk sc x = true) : (x == ("__debug__" : Str)) = false ∧ (x == ("__classdict__" : Str)) = false :=
  let a := Bool.and_eq_true_iff.mp (Bool.and_eq_true_iff.mp h).2
  ⟨beq_eq_false_iff_ne.mpr (bne_iff_ne.mp a.1), beq_eq_false_iff_ne.mpr (bne_iff_ne.mp a.2)⟩

section
variable {prog : Program} {w : World} {C : Addr} {fa : Str → Option Addr} {X : Heap → Prop} {A : Around} {E : Value → Shared → Prop} {s : Shared}
  {σ₀ κ σ σ' : Sg} {h h' : Heap} {env : Env} {sc : Names} {ρ : Rho} {a : Addr} {n : Nat}

theorem FS.ret (f : FS prog w C fa X σ₀ κ σ h env sc ρ) {v : Value} {d : D} (r : Rp prog w C σ v d) : RetAt prog w C σ₀ κ σ h v d := ⟨f.le0, f.ok.sub, f.pi, f.nf, r⟩

theorem StQ.mono {post post' : Post} {Q : Flow → Shared → Prop} (hq : StQ prog w C fa X σ₀ κ σ env sc s post Q) (hp : ∀ fl ρ' μ', post' fl ρ' μ' → post fl ρ' μ') (l : Le σ σ') {h' : Heap} {tk : Nat} :
    StQ prog w C fa X σ₀ κ σ' env sc { s with heap := h', toks := tk } post' Q :=
  fun fl ρ' μ' h1 σ'' h'' tk' l' => hq fl ρ' μ' (hp fl ρ' μ' h1) σ'' h'' tk' (l.trans l')

theorem setR_le {ρ : Rho} {x : Str} {d : D} : (∀ y e, y ≠ x → setR ρ x d y = some e → ρ y = some e) := fun y e hne h => by unfold setR at h; rwa [if_neg hne] at h
theorem setR_at {v : Value} {ρ : Rho} {x : Str} {d : D} (r : Rp prog w C σ v d) : ∀ e, setR ρ x d x = some e → Rp prog w C σ v e := fun e h => by
  unfold setR at h; rw [if_pos rfl] at h; cases h; exact r

theorem bind_snd {x : Str} {v : Value} {d : D} {μ : Mu} {Q : Unit → Shared → Prop} (f : FS prog w C fa X σ₀ κ σ s.heap env sc ρ) (m : MuOk prog w C κ σ s.heap env μ) (hx : nameOk sc x = true) (hm : notMu x μ) (r : Rp prog w C σ v d)
    (hQ : ∀ h' tk, FS prog w C fa X σ₀ κ σ h' env sc (setR ρ x d) → MuOk prog w C κ σ h' env μ → Q () { s with heap := h', toks := tk }) : wpAny (model prog w) A (storeName env x v) Q E s :=
  store_mu f m hm (nameOk_own hx) (nameOk_ne hx) fun h' tk k1 _ k3 _ => hQ h' tk (k1 _ setR_le (setR_at r)) k3

theorem turn_name {sts : Sts} {okS : List Stmt → Bool} {x : Str} {p : Pos} {body : List Stmt} (hs : StsOk prog w C fa X n sc sts okS) (hx : nameOk sc x = true) (hb : okS body = true) :
    TurnOk prog w C fa X n sc (fun d ρ μ post => notMu x μ ∧ sts (setR ρ x d) μ body post) (.Name x p) body := by
  intro d ρ μ post hp A env σ₀ κ σ s v Q E R f m r hQ
  refine wpAny_assign_Name (bind_snd f m hx hp.1 r fun h' tk f' m' => ?_)
  exact hs _ _ _ _ hp.2 hb (s := { s with heap := h', toks := tk }) R f' m' (hQ.mono (fun _ _ _ e => e) (.refl _))

theorem unpack_pair {x y : Str} {px py tp : Pos} {k : Nat} {v : Value} {d : D} {μ : Mu} {post : Rho → Prop} {Q : Unit → Shared → Prop} (R : Room n A) (f : FS prog w C fa X σ₀ κ σ s.heap env sc ρ) (m : MuOk prog w C κ σ s.heap env μ)
    (hx : nameOk sc x = true) (hy : nameOk sc y = true) (hm : notMu x μ ∧ notMu y μ) (r : Rp prog w C σ v d) (hp : unp2 x y d ρ post)
    (hQ : ∀ ρ', post ρ' → ∀ h' tk, FS prog w C fa X σ₀ κ σ h' env sc ρ' → MuOk prog w C κ σ h' env μ → Q () { s with heap := h', toks := tk }) :
    wpAny (model prog w) A (assign (.Tuple [.Name x px, .Name y py] k tp) env v) Q E s := by
  obtain ⟨_, _, rfl, hp⟩ := hp
  · obtain ⟨t, _, _, rfl, ea, ra⟩ := r.tup_inv
    obtain ⟨v1, v2, rfl, r1, r2⟩ := ra.two_inv
    have ht : s.heap.IsTuple t #[v1, v2] := ⟨_, f.ok.sub _ _ ea, rfl, _, rfl⟩
    refine wpAny_assign_Tuple R.handled ht rfl rfl fun h₁ hx₁ => ?_
    have k₁ : Kept s.heap h₁ := fun b o e => hx₁ b o (Nat.ne_of_lt (Heap.lt_size e)) e
    have n₁ := Nx.grow f.ok.sub k₁
    show wpAny _ _ (do holding [v2] (assign (.Name x px) env v1); do holding [] (assign (.Name y py) env v2); pure ()) _ _ _
    refine wpAny_bind (wpAny_holding (wpAny_assign_Name (bind_snd (s := { s with heap := h₁ }) (f.next n₁) (m.next n₁) hx hm.1 r1 fun h₂ t₂ f₂ m₂ => ?_)))
    refine wpAny_bind (wpAny_holding (wpAny_assign_Name (bind_snd (s := { s with heap := h₂, toks := t₂ }) f₂ m₂ hy hm.2 r2 fun h₃ t₃ f₃ m₃ => wpAny_pure ?_)))
    exact hQ _ hp _ _ f₃ m₃
theorem unpack_three {x y z : Str} {px py pz tp : Pos} {k : Nat} {v : Value} {d1 d2 d3 : D} {μ : Mu} {Q : Unit → Shared → Prop} (R : Room n A) (f : FS prog w C fa X σ₀ κ σ s.heap env sc ρ) (m : MuOk prog w C κ σ s.heap env μ)
    (hx : nameOk sc x = true) (hy : nameOk sc y = true) (hz : nameOk sc z = true) (hm : notMu x μ ∧ notMu y μ ∧ notMu z μ) (r : Rp prog w C σ v (.tup [d1, d2, d3]))
    (hQ : ∀ h' tk, FS prog w C fa X σ₀ κ σ h' env sc (setR (setR (setR ρ x d1) y d2) z d3) → MuOk prog w C κ σ h' env μ → Q () { s with heap := h', toks := tk }) :
    wpAny (model prog w) A (assign (.Tuple [.Name x px, .Name y py, .Name z pz] k tp) env v) Q E s := by
  obtain ⟨t, _, _, rfl, ea, ra⟩ := r.tup_inv
  obtain ⟨v1, _, rfl, r1, ra⟩ := ra.cons_inv
  obtain ⟨v2, v3, rfl, r2, r3⟩ := ra.two_inv
  have ht : s.heap.IsTuple t #[v1, v2, v3] := ⟨_, f.ok.sub _ _ ea, rfl, _, rfl⟩
  refine wpAny_assign_Tuple R.handled ht rfl rfl fun h₁ hx₁ => ?_
  have k₁ : Kept s.heap h₁ := fun b o e => hx₁ b o (Nat.ne_of_lt (Heap.lt_size e)) e
  have n₁ := Nx.grow f.ok.sub k₁
  show wpAny _ _ (do holding [v2, v3] (assign (.Name x px) env v1); do holding [v3] (assign (.Name y py) env v2); do holding [] (assign (.Name z pz) env v3); pure ()) _ _ _
  refine wpAny_bind (wpAny_holding (wpAny_assign_Name (bind_snd (s := { s with heap := h₁ }) (f.next n₁) (m.next n₁) hx hm.1 r1 fun h₂ t₂ f₂ m₂ => ?_)))
  refine wpAny_bind (wpAny_holding (wpAny_assign_Name (bind_snd (s := { s with heap := h₂, toks := t₂ }) f₂ m₂ hy hm.2.1 r2 fun h₃ t₃ f₃ m₃ => ?_)))
  refine wpAny_bind (wpAny_holding (wpAny_assign_Name (bind_snd (s := { s with heap := h₃, toks := t₃ }) f₃ m₃ hz hm.2.2 r3 fun h₄ t₄ f₄ m₄ => wpAny_pure ?_)))
  exact hQ _ _ f₄ m₄

theorem turn_pair {sts : Sts} {okS : List Stmt → Bool} {x y : Str} {px py tp : Pos} {k : Nat} {body : List Stmt} (hs : StsOk prog w C fa X n sc sts okS) (hx : nameOk sc x = true) (hy : nameOk sc y = true) (hb : okS body = true) :
    TurnOk prog w C fa X n sc (fun d ρ μ post => (notMu x μ ∧ notMu y μ) ∧ unp2 x y d ρ fun ρ' => sts ρ' μ body post) (.Tuple [.Name x px, .Name y py] k tp) body := by
  intro d ρ μ post hp A env σ₀ κ σ s v Q E R f m r hQ
  refine unpack_pair R f m hx hy hp.1 r hp.2 fun ρ' hp' h' tk f' m' => ?_
  exact hs _ _ _ _ hp' hb (s := { s with heap := h', toks := tk }) R f' m' (hQ.mono (fun _ _ _ e => e) (.refl _))

theorem FS.step {wr : List Addr} (f : FS prog w C fa X σ₀ κ σ h env sc ρ) (hk : ∀ b o, b ∉ wr → h.get? b = some o → h'.get? b = some o)
    (hw : ∀ b ∈ wr, κ b = none ∧ σ b = none ∧ ∃ o, h.get? b = some o ∧ solid o = true) (le : Le σ σ') (sub : SubH σ' h') (new : ∀ b, σ b = none → (h.get? b).isSome = true → σ' b = none) : FS prog w C fa X σ₀ κ σ' h' env sc ρ := by
  have f' := f.iter hk hw
  refine ⟨⟨sub, f'.ok.wd, f'.ok.stat, f'.ok.cells, fun x d hx => ?_⟩, f.le0.trans le, f'.pi, f'.bas, fun b hb hs => ?_, f'.ns, f.piL, ?_, fun x hx => ?_⟩
  · obtain ⟨e1, e2, v, hv, hr⟩ := f'.ok.vars x d hx
    exact ⟨e1, e2, v, hv, hr.mono le⟩
  · refine new b (f.nf b hb hs) ?_
    obtain ⟨o, ho⟩ := Option.isSome_iff_exists.mp hs
    rw [f.pi b o ho]; rfl
  · refine new _ f.sgL ?_
    obtain ⟨m, o, _, _, ho, _⟩ := f.ns
    rw [ho]; rfl
  · obtain ⟨c, v, h1, h2, h3, h4, h5⟩ := f'.own x hx
    obtain ⟨c', v', g1, ⟨o, ho, _⟩, _⟩ := f.own x hx
    rw [h1] at g1; cases g1
    exact ⟨c, v, h1, h2, h3, new c h4 (by rw [ho]; rfl), h5⟩

variable (prog w C) in
noncomputable def MuFree (wr : List Addr) (κ σ : Sg) (h : Heap) (env : Env) : Mu → Prop
  | none => True
  | some (x, d) => ∃ a, MuAt prog w C κ σ h env x d a ∧ a ∉ wr

theorem MuFree.step {wr : List Addr} {μ : Mu} (x : MuFree prog w C wr κ σ h env μ) (f : FS prog w C fa X σ₀ κ σ h env sc ρ) (hk : ∀ b o, b ∉ wr → h.get? b = some o → h'.get? b = some o)
    (hw : ∀ b ∈ wr, κ b = none ∧ σ b = none ∧ ∃ o, h.get? b = some o ∧ solid o = true) (le : Le σ σ') (new : ∀ b, σ b = none → (h.get? b).isSome = true → σ' b = none) : MuFree prog w C wr κ σ' h' env μ := by
  cases μ with
  | none => trivial
  | some p =>
    obtain ⟨a, m, hn⟩ := x
    obtain ⟨o, h1, h2⟩ := m.obj
    refine ⟨a, ⟨?_, ⟨o, hk _ _ hn h1, h2.mono le⟩, m.ka, new a m.sa (by rw [h1]; rfl), m.loc, m.sys⟩, hn⟩
    rcases m.var with ⟨k, m', hm, q⟩ | ⟨k, c, hc, q⟩
    · refine .inl ⟨k, m', ?_, q⟩
      obtain ⟨o', es, ep, ho, hd, r⟩ := hm
      refine ⟨o', es, ep, hk _ _ (fun hb => ?_) ho, hd, r⟩
      obtain ⟨_, _, o2, h2', hs'⟩ := hw _ hb
      rw [ho] at h2'; cases h2'
      unfold solid at hs'; rw [hd] at hs'; cases hs'
    · refine .inr ⟨k, c, hc, ?_⟩
      obtain ⟨o', ho, hd⟩ := q
      refine ⟨o', hk _ _ (fun hb => ?_) ho, hd⟩
      obtain ⟨_, _, o2, h2', hs'⟩ := hw _ hb
      rw [ho] at h2'; cases h2'
      unfold solid at hs'; rw [hd] at hs'; cases hs'
theorem MuFree.shield {wr : List Addr} {μ : Mu} (x : MuFree prog w C wr κ σ h env μ) : MuOk prog w C (shield κ wr h) σ h env μ := by
  cases μ with
  | none => trivial
  | some p =>
    obtain ⟨a, m, hn⟩ := x
    exact ⟨a, ⟨m.var, m.obj, by unfold Mine.Internal.shield; rw [if_neg hn]; exact m.ka, m.sa, m.loc, m.sys⟩⟩
theorem MuFree.unshield {wr : List Addr} {μ : Mu} (x : MuOk prog w C (Mine.Internal.shield κ wr h) σ h' env μ) (hw : ∀ b ∈ wr, (h.get? b).isSome = true) : MuFree prog w C wr κ σ h' env μ := by
  cases μ with
  | none => trivial
  | some p =>
    obtain ⟨a, m⟩ := x
    have hn : a ∉ wr := fun hb => by
      have := m.ka
      unfold Mine.Internal.shield at this
      rw [if_pos hb] at this
      have h2 := hw a hb
      rw [this] at h2; cases h2
    have hk := m.ka
    unfold Mine.Internal.shield at hk
    rw [if_neg hn] at hk
    exact ⟨a, ⟨m.var, m.obj, hk, m.sa, m.loc, m.sys⟩, hn⟩
theorem MuFree.ok {wr : List Addr} {μ : Mu} (x : MuFree prog w C wr κ σ h env μ) : MuOk prog w C κ σ h env μ := by
  cases μ with
  | none => trivial
  | some p => obtain ⟨a, m, _⟩ := x; exact ⟨a, m⟩
end
end Mine.Internal

namespace Mine.Internal

section
variable (prog : Program) (w : World) (C : Addr) (A : Around)
structure FeedOf (σ₁ : Sg) (h₀ : Heap) (it : Value) (target : Expr) (ds : List D) (fp wr : List Addr) (St : Nat → Heap → Prop) : Prop where
  item : ∀ i d (s : Shared) (Q : Value → Shared → Prop) (E : Value → Shared → Prop) σ, ds[i]? = some d → St i s.heap → Le σ₁ σ → SubH σ s.heap → (∀ b ∈ wr, σ b = none) →
    (∀ v σ' h' tk, Le σ σ' → SubH σ' h' → (∀ b, σ b = none → (s.heap.get? b).isSome = true → σ' b = none) → (∀ b ∈ wr, σ' b = none) → (∀ b o, b ∉ wr → s.heap.get? b = some o → h'.get? b = some o) →
      St (i + 1) h' → Rp prog w C σ' v d → Q v { s with heap := h', toks := tk }) →
    wpAny (model prog w) A (pyNext it) (fun r s₁ => ∃ v, r = some v ∧ wpAny (model prog w) A (letOwnedTupleGo target it v) (fun _ s₂ => Q v s₂) E s₁) E s
  done : ∀ (s : Shared) (Q : Option Value → Shared → Prop) (E : Value → Shared → Prop), St ds.length s.heap → (∀ h' tk, (∀ b o, b ∉ wr → s.heap.get? b = some o → h'.get? b = some o) → Q none { s with heap := h', toks := tk }) → wpAny (model prog w) A (pyNext it) Q E s
  frame : ∀ i h h', St i h → (∀ b ∈ fp, ∀ o, h.get? b = some o → h'.get? b = some o) → St i h'
  sol : ∀ i h, St i h → ∀ b ∈ wr, ∃ o, h.get? b = some o ∧ solid o = true
  fresh : ∀ b ∈ wr, h₀.get? b = none
  held : ∀ b ∈ fp, b ∈ wr ∨ ∃ o, σ₁ b = some o
end

section
variable {prog : Program} {w : World} {C : Addr} {fa : Str → Option Addr} {X : Heap → Prop} {A : Around} {E : Value → Shared → Prop} {s : Shared}
  {σ₀ κ σ σ' : Sg} {h h' : Heap} {env : Env} {sc : Names} {ρ : Rho} {a : Addr} {n : Nat} {ds : List D}

theorem feed_of_src {h₀ : Heap} {it : Value} {target : Expr} (src : Src prog w C A σ h₀ h it ds) : ∃ fp wr St, FeedOf prog w C A σ h₀ it target ds fp wr St ∧ St 0 h := by
  obtain ⟨I, fp, wr, P, St, rfl, W, hst, hP, hsol, hwr, hfp⟩ := src
  refine ⟨fp, wr, St, ⟨fun i d s Q E σ' hd st le sub hw hQ => ?_, fun s Q E st hQ => W.done s Q E st hQ, W.frame, fun i h st b hb => (hsol i h st).1 b (W.sub b hb), hwr, hfp⟩, hst⟩
  refine W.item i s _ _ (List.getElem?_eq_some_iff.mp hd).1 st fun v h₂ tk₂ hPv st₂ hk => ?_
  obtain ⟨d', hd', hr'⟩ := hP _ _ hPv
  rw [hd] at hd'; cases hd'
  refine ⟨v, rfl, lgo_snd (s := { s with heap := h₂, toks := tk₂ }) (hsol _ _ st₂).2 ?_⟩
  exact hQ v σ' h₂ tk₂ (.refl _) (fun b o e => hk b o (fun hb => by rw [hw b hb] at e; cases e) (sub b o e)) (fun b e _ => e) hw hk st₂ (hr'.mono le)

theorem for_snd {turn : D → Rho → Mu → Post → Prop} {target : Expr} {body : List Stmt} (ht : TurnOk prog w C fa X n sc turn target body) (R : Room n A) {σ₁ : Sg} {h₀ : Heap} {it : Value} {fp wr : List Addr} {St : Nat → Heap → Prop}
    (fd : FeedOf prog w C A σ₁ h₀ it target ds fp wr St) (hst : St 0 s.heap) (hκ : ∀ b ∈ wr, κ b = none) (hσ : ∀ b ∈ wr, σ b = none) (le₁ : Le σ₁ σ) {μ : Mu} {post : Post} {Q : Flow → Shared → Prop} {Rr : Result → Shared → Prop}
    (f : FS prog w C fa X σ₀ κ σ s.heap env sc ρ) (m : MuFree prog w C wr κ σ s.heap env μ) (hp : forW turn ds ρ μ post) (hQ : StQ prog w C fa X σ₀ κ σ env sc s post Q)
    (hR : ∀ fl s', Q fl s' → Rr (.ok fl) s') : codeAny (model prog w) A (.forLoop target it body [] env) Rr s := by
  refine codeAny_forLoop_any (fun k s' => ∃ σ₂ h₂ tk₂ ρ₂ μ₂ done rest, s' = { s with heap := h₂, toks := tk₂ } ∧ ds = done ++ rest ∧ k = rest.length + 1 ∧ St done.length h₂ ∧
      FS prog w C fa X σ₀ κ σ₂ h₂ env sc ρ₂ ∧ MuFree prog w C wr κ σ₂ h₂ env μ₂ ∧ Le σ σ₂ ∧ (∀ b ∈ wr, σ₂ b = none) ∧ forW turn rest ρ₂ μ₂ post) ?_ (ds.length + 1)
    ⟨σ, s.heap, s.toks, ρ, μ, [], ds, rfl, rfl, rfl, hst, f, m, .refl _, hσ, hp⟩
  rintro k s' ⟨σ₂, h₂, tk₂, ρ₂, μ₂, done, rest, rfl, hds, rfl, st₂, f₂, m₂, le₂, hw₂, hl⟩
  have wrk : ∀ b ∈ wr, κ b = none ∧ σ₂ b = none ∧ ∃ o, h₂.get? b = some o ∧ solid o = true := fun b hb => ⟨hκ b hb, hw₂ b hb, fd.sol _ _ st₂ b hb⟩
  cases rest with
  | nil =>
    have hlen : done.length = ds.length := by rw [hds]; simp
    refine fd.done _ _ _ (hlen ▸ st₂) fun h₃ tk₃ hk => wpAny_execs_nil (hR _ _ ?_)
    have f₃ := f₂.step hk wrk (.refl _) (fun b o e => hk b o (fun hb => by rw [hw₂ b hb] at e; cases e) (f₂.ok.sub b o e)) (fun _ e _ => e)
    exact hQ _ _ _ hl _ _ _ le₂ f₃ (m₂.step f₂ hk wrk (.refl _) (fun _ e _ => e)).ok
  | cons d r =>
    have hget : ds[done.length]? = some d := by rw [hds]; simp
    refine wpAny_mono (fd.item done.length d _ (fun v s₃ => wpAny (model prog w) A (assign target env v) (fun _ s₂ => wpAny (model prog w) A (execs body env) (fun f s₃ => match f with
            | .next | .cont => ∃ m, m < (d :: r).length + 1 ∧ _
            | .brk => Rr (.ok .next) s₃
            | .ret v => Rr (.ok (.ret v)) s₃) (notedBy (model prog w) A env fun e s' => Rr (.error e) s') s₂) (notedBy (model prog w) A env fun e s' => Rr (.error e) s') s₃) _ σ₂ hget st₂ (le₁.trans le₂) f₂.ok.sub hw₂ fun v σ₃ h₃ tk₃ le₃ sub₃ new₃ hw₃ hk₃ st₃ r₃ => ?_)
      (fun r s₃ h₃ => by obtain ⟨v, rfl, hv⟩ := h₃; exact hv) fun _ _ e => e
    have f₃ := f₂.step hk₃ wrk le₃ sub₃ new₃
    have m₃ := m₂.step f₂ hk₃ wrk le₃ new₃
    have hgrow : ∀ b ∈ wr, ∃ o, h₃.get? b = some o ∧ solid o = true ∧ σ₃ b = none := fun b hb => let ⟨o, h1, h2⟩ := fd.sol _ _ st₃ b hb; ⟨o, h1, h2, hw₃ b hb⟩
    have hsome : ∀ b ∈ wr, (h₃.get? b).isSome = true := fun b hb => by obtain ⟨o, h1, _⟩ := hgrow b hb; rw [h1]; rfl
    have kW : ∀ b ∈ wr, (shield κ wr h₃) b = h₃.get? b := fun b hb => if_pos hb
    have kN : ∀ b, b ∉ wr → (shield κ wr h₃) b = κ b := fun b hb => if_neg hb
    have leκ : Le κ (shield κ wr h₃) := fun b o e => by
      by_cases hb : b ∈ wr
      · rw [hκ b hb] at e; cases e
      · rw [kN b hb]; exact e
    have shr : ∀ {σ₅ h₅ ρ₅}, FS prog w C fa X σ₀ (shield κ wr h₃) σ₅ h₅ env sc ρ₅ → FS prog w C fa X σ₀ κ σ₅ h₅ env sc ρ₅ := fun f₅ => f₅.shrink leκ (fun b e => by
      by_cases hb : b ∈ wr
      · exact hκ b hb
      · rw [kN b hb] at e; exact e) f₃.bas
    have hw₅ : ∀ {σ₅ h₅ ρ₅}, FS prog w C fa X σ₀ (shield κ wr h₃) σ₅ h₅ env sc ρ₅ → ∀ b ∈ wr, σ₅ b = none := fun {σ₅ h₅ ρ₅} f₅ b hb => by
      refine f₅.nf b ?_ (by rw [kW b hb]; exact hsome b hb)
      cases q : σ₀ b with
      | none => rfl
      | some o => have := f₃.le0 b o q; rw [hw₃ b hb] at this; cases this
    have stF : ∀ {σ₅ h₅ ρ₅}, FS prog w C fa X σ₀ (shield κ wr h₃) σ₅ h₅ env sc ρ₅ → Le σ₃ σ₅ → St (done.length + 1) h₅ := fun {σ₅ h₅ ρ₅} f₅ le₅ => by
      refine fd.frame _ _ _ st₃ fun b hb o e => ?_
      rcases fd.held b hb with hb' | ⟨o', ho'⟩
      · exact f₅.pi b o (by rw [kW b hb']; exact e)
      · have h1 := sub₃ b o' (le₃ _ _ (le₂ _ _ (le₁ b o' ho')))
        rw [e] at h1; cases h1
        exact f₅.ok.sub b o (le₅ _ _ (le₃ _ _ (le₂ _ _ (le₁ b o ho'))))
    refine ht d ρ₂ μ₂ _ hl (s := { s with heap := h₃, toks := tk₃ }) R (f₃.grow hgrow) m₃.shield r₃ fun fl ρ₅ μ₅ h5 σ₅ h₅ tk₅ le₅ => ?_
    cases fl with
    | next =>
      intro f₅ m₅
      refine ⟨r.length + 1, by simp, σ₅, h₅, tk₅, ρ₅, μ₅, done ++ [d], r, rfl, by rw [hds]; simp, rfl, ?_, shr f₅, MuFree.unshield m₅ hsome, le₂.trans (le₃.trans le₅), hw₅ f₅, h5⟩
      have : (done ++ [d]).length = done.length + 1 := by simp
      rw [this]
      exact stF f₅ le₅
    | brk =>
      intro f₅ m₅
      exact hR _ _ (hQ _ _ _ h5 _ _ _ (le₂.trans (le₃.trans le₅)) (shr f₅) (MuFree.unshield m₅ hsome).ok)
    | ret dv =>
      intro v hv
      refine hR _ _ (hQ _ _ _ h5 _ _ _ (le₂.trans (le₃.trans le₅)) v ⟨hv.le0, hv.sub, fun b o e => hv.pi b o (leκ b o e), fun b hb hs => hv.nf b hb ?_, hv.rp⟩)
      obtain ⟨o, ho⟩ := Option.isSome_iff_exists.mp hs
      rw [leκ b o ho]; rfl
end
end Mine.Internal

namespace Mine.Internal

section
variable {prog : Program} {w : World} {C : Addr} {fa : Str → Option Addr} {X : Heap → Prop} {A : Around} {E : Value → Shared → Prop} {s : Shared}
  {σ₀ κ σ σ' : Sg} {h h' : Heap} {env : Env} {sc : Names} {ρ : Rho} {a : Addr} {n : Nat} {ds : List D}

theorem dictAt_keep {K : Type} [DecidableEq K] {knd : KeyKind prog w K} {h h' : Heap} {a : Addr} {kvs : List (K × Value)} {ep : Nat} (x : h.DictAt knd a kvs ep) (hk : ∀ o, h.get? a = some o → h'.get? a = some o) : h'.DictAt knd a kvs ep :=
  let ⟨o, es, ho, r⟩ := x; ⟨o, es, hk o ho, r⟩

theorem pairs_get {kvs : List (Int × Value)} {ks : List (Int × Int)} (h : PairsAre kvs ks) {i : Nat} {p : Int × Int} (hp : ks[i]? = some p) : ∃ t, kvs[i]? = some (p.1, .int p.2 t) := by
  induction h generalizing i with
  | nil => cases hp
  | @cons k j t r q _ ih =>
    cases i with
    | zero => cases hp; exact ⟨t, rfl⟩
    | succ i => exact ih hp

theorem items_feed (R : Room n A) (hs : SubH σ s.heap) {d : Value} {ks : List (Int × Int)} (r : Rp prog w C σ d (.dict ks)) {o : Expr} {ap pos : Pos} {elts : List Expr} {k : Nat} {tp : Pos}
    (hb : baseOk' o = true) (hl : (ap.endLine == pos.line) = true) (ho : ∀ Q', Q' d s → wpAny (model prog w) A (eval o env) Q' E s) {Q : Value → Shared → Prop}
    (hQ : ∀ it h', Kept s.heap h' → (∃ fp wr St, FeedOf prog w C A σ s.heap it (.Tuple elts k tp) (ks.map fun p => D.tup [.int p.1, .int p.2]) fp wr St ∧ St 0 h') → Q it { s with heap := h' }) :
    wpAny (model prog w) A (eval (.Call (.Attribute o "items" ap) [] [] pos) env) (fun xv s₁ => wpAny (model prog w) A (pyIter xv) Q E s₁) E s := by
  cases r with
  | @dict a ob kvs _ ea hd hp hsys =>
  have hg := hs _ _ ea
  have hdo : s.heap.DictOf (intKind prog w) a kvs := Heap.dictOf_iff.mpr ⟨ob, hg, hd⟩
  obtain ⟨es, ep, hx, hdat, hk, hps, hnd⟩ := hd
  have hat : s.heap.DictAt (intKind prog w) a kvs ep := ⟨ob, es, hg, hx, hdat, hk, hps, hnd⟩
  refine wpAny_Call_items (beq_eq_false_iff_ne.mpr hsys) hdo (base_eq hb _ _) hl ho ?_
  have hat' : (s.heap.push { cls := .type "dict_items", data := .fields #[.ref a] }).DictAt (intKind prog w) a kvs ep := hat.push _
  refine wpAny_pyIter_items (s := { s with heap := s.heap.push { cls := .type "dict_items", data := .fields #[.ref a] } }) ⟨_, Heap.get?_push_size _ rfl, rfl, rfl⟩ hat' ?_
  dsimp only
  generalize hH : s.heap.push { cls := .type "dict_items", data := .fields #[.ref a] } = H at hat' ⊢
  have hkH : Kept s.heap H := hH ▸ .push _ _
  have hfr : s.heap.get? H.objs.size = none := by
    cases q : s.heap.get? H.objs.size with
    | none => rfl
    | some o' => have := hkH _ _ q; rw [get?_size] at this; cases this
  have haI : a ≠ H.objs.size := by rintro rfl; rw [hfr] at hg; cases hg
  refine hQ _ _ (hkH.trans (.push _ _)) ⟨[H.objs.size, a], [H.objs.size], fun i h => ∃ ok ov, IsItemIter h H.objs.size a i kvs.length ep ok ov ∧ h.DictAt (intKind prog w) a kvs ep, ⟨?_, ?_, ?_, ?_, ?_, ?_⟩, .none, .none, Heap.get?_push_size _ rfl, hat'.push _⟩
  · intro i d s Q E σ' hd' st le sub hw hQ
    obtain ⟨ok, ov, hit, hdt⟩ := st
    rw [List.getElem?_map, Option.map_eq_some_iff] at hd'
    obtain ⟨p, hpi, rfl⟩ := hd'
    obtain ⟨t, hkv⟩ := pairs_get hp hpi
    refine wpAny_pyNext_items_item hit hdt hkv fun key h₁ hkey heo ht₁ hz₁ hk₁ => ⟨_, rfl, ?_⟩
    refine wpAny_letOwnedTupleGo_items (s := { s with heap := h₁ }) heo fun h₂ he₂ hs₂ => ?_
    obtain ⟨t', rfl⟩ := Value.isInt_shape hkey
    have hnew : s.heap.get? s.heap.objs.size = none := get?_size _
    have hne : s.heap.objs.size ≠ H.objs.size := fun e => by rw [e] at hnew; unfold IsItemIter at hit; rw [hit] at hnew; cases hnew
    have kk : ∀ b ob, b ∉ [H.objs.size] → s.heap.get? b = some ob → h₂.get? b = some ob := fun b ob hb e => (hs₂.2 b (by simpa using hb)).trans (hk₁ b ob (by simpa using hb) e)
    have hσn : σ' s.heap.objs.size = none := none_of_sub sub hnew
    have hσI : σ' H.objs.size = none := hw _ (by simp)
    refine hQ _ (addS σ' s.heap.objs.size (tupObj [.int p.1 t', .int p.2 t] 0)) h₂ _ (addS_le hσn) (addS_sub (fun b ob e => kk b ob (by rintro hb; rw [List.mem_singleton.mp hb, hσI] at e; cases e) (sub b ob e)) ((hs₂.2 _ hne).trans ht₁))
      (fun b e hs => ?_) (fun b hb => ?_) kk ⟨_, _, he₂, dictAt_keep hdt (fun ob e => kk a ob (by simpa using haI) e)⟩ (.tup (n := 0) (addS_self _ _ _) (.cons (.int _ _) (.cons (.int _ _) .nil)))
    · unfold addS
      rw [if_neg (by rintro rfl; rw [hnew] at hs; cases hs)]; exact e
    · have hb' := List.mem_singleton.mp hb
      unfold addS
      rw [if_neg (by rw [hb']; exact Ne.symm hne)]; exact hw b hb
  · intro s Q E st hQ
    obtain ⟨ok, ov, hit, hdt⟩ := st
    have hn : kvs[(ks.map fun p => D.tup [.int p.1, .int p.2]).length]? = none := List.getElem?_eq_none (by rw [pairs_len hp]; simp)
    have hlen : (ks.map fun p => D.tup [.int p.1, .int p.2]).length = kvs.length := by rw [pairs_len hp]; simp
    exact wpAny_pyNext_items_end R.handled hit hdt hn fun h' he => hQ h' _ fun b ob hb e => he b ob (by simpa using hb) e
  · rintro i h h' ⟨ok, ov, hit, hdt⟩ hk
    exact ⟨ok, ov, hk _ (by simp) _ hit, dictAt_keep hdt (fun ob e => hk a (by simp) ob e)⟩
  · rintro i h ⟨ok, ov, hit, hdt⟩ b hb
    rw [List.mem_singleton.mp hb]
    exact ⟨_, hit, rfl⟩
  · intro b hb; rw [List.mem_singleton.mp hb]; exact hfr
  · intro b hb
    simp only [List.mem_cons, List.not_mem_nil, or_false] at hb
    rcases hb with rfl | rfl
    · exact .inl (by simp)
    · exact .inr ⟨_, ea⟩

theorem call_values {o : Expr} {ap pos : Pos} {d : Addr} {kvs : List (Int × Value)} {Q : Value → Shared → Prop} (hdS : (d == sysModules) = false) (hm : s.heap.DictOf (intKind prog w) d kvs)
    (hb : baseOk' o = true) (hl : (ap.endLine == pos.line) = true) (ho : ∀ Q', Q' (.ref d) s → wpAny (model prog w) A (eval o env) Q' E s)
    (hQ : Q (.ref s.heap.objs.size) { s with heap := s.heap.push { cls := .type "dict_values", data := .fields #[.ref d] } }) :
    wpAny (model prog w) A (eval (.Call (.Attribute o "values" ap) [] [] pos) env) Q E s := by
  refine wpAny_Call_method (T := "dict") (id := "dict.values") (base_eq hb _ _) rfl hl F.plainAttrs_dict F.slot_dict_values F.type_dict_values (ho _ ⟨hm.typeIs, hm.mapOf.noDict, ?_⟩)
  show wpAny _ _ (callWith pos (.builtin "dict.values") [.ref d] [] []) Q E s
  exact method_meetsIn F.slot_dict_values F.entry_dict_values rfl (PySem.evalArgs_none ⟨rfl, hm.typeIs, F.args_dict_values_1 _, _, meets_dict_values _ d hdS, ⟨kvs, hm⟩, hQ⟩)

theorem values_feed (R : Room n A) (hs : SubH σ s.heap) {d : Value} {ks : List (Int × Int)} (r : Rp prog w C σ d (.dict ks)) {o : Expr} {ap pos : Pos} {x : Str} {tp : Pos}
    (hb : baseOk' o = true) (hl : (ap.endLine == pos.line) = true) (ho : ∀ Q', Q' d s → wpAny (model prog w) A (eval o env) Q' E s) {Q : Value → Shared → Prop}
    (hQ : ∀ it h', Kept s.heap h' → (∃ fp wr St, FeedOf prog w C A σ s.heap it (.Name x tp) (ks.map fun p => D.int p.2) fp wr St ∧ St 0 h') → Q it { s with heap := h' }) :
    wpAny (model prog w) A (eval (.Call (.Attribute o "values" ap) [] [] pos) env) (fun xv s₁ => wpAny (model prog w) A (pyIter xv) Q E s₁) E s := by
  cases r with
  | @dict a ob kvs _ ea hd hp hsys =>
  have hg := hs _ _ ea
  have hdo : s.heap.DictOf (intKind prog w) a kvs := Heap.dictOf_iff.mpr ⟨ob, hg, hd⟩
  obtain ⟨es, ep, hx, hdat, hk, hps, hnd⟩ := hd
  have hat : s.heap.DictAt (intKind prog w) a kvs ep := ⟨ob, es, hg, hx, hdat, hk, hps, hnd⟩
  refine call_values (beq_eq_false_iff_ne.mpr hsys) hdo hb hl ho ?_
  have hat' : (s.heap.push { cls := .type "dict_values", data := .fields #[.ref a] }).DictAt (intKind prog w) a kvs ep := hat.push _
  refine wpAny_pyIter_values (s := { s with heap := s.heap.push { cls := .type "dict_values", data := .fields #[.ref a] } }) ⟨_, Heap.get?_push_size _ rfl, rfl, rfl⟩ hat' ?_
  dsimp only
  generalize hH : s.heap.push { cls := .type "dict_values", data := .fields #[.ref a] } = H at hat' ⊢
  have hkH : Kept s.heap H := hH ▸ .push _ _
  have hfr : s.heap.get? H.objs.size = none := by
    cases q : s.heap.get? H.objs.size with
    | none => rfl
    | some o' => have := hkH _ _ q; rw [get?_size] at this; cases this
  have haI : a ≠ H.objs.size := by rintro rfl; rw [hfr] at hg; cases hg
  refine hQ _ _ (hkH.trans (.push _ _)) ⟨[H.objs.size, a], [H.objs.size], fun i h => h.IsValIter H.objs.size a i kvs.length ep ∧ h.DictAt (intKind prog w) a kvs ep, ⟨?_, ?_, ?_, ?_, ?_, ?_⟩, ⟨_, Heap.get?_push_size _ rfl, rfl, rfl⟩, hat'.push _⟩
  · intro i d s Q E σ' hd' st le sub hw hQ
    obtain ⟨hit, hdt⟩ := st
    rw [List.getElem?_map, Option.map_eq_some_iff] at hd'
    obtain ⟨p, hpi, rfl⟩ := hd'
    obtain ⟨t, hkv⟩ := pairs_get hp hpi
    refine wpAny_pyNext_values_item hit hdt hkv fun h₁ hit₁ hs₁ => ⟨_, rfl, wpAny_pure ?_⟩
    have kk : ∀ b ob, b ∉ [H.objs.size] → s.heap.get? b = some ob → h₁.get? b = some ob := fun b ob hb e => (hs₁.2 b (by simpa using hb)).trans e
    have hσI : σ' H.objs.size = none := hw _ (by simp)
    exact hQ _ σ' h₁ _ (.refl _) (fun b ob e => kk b ob (by rintro hb; rw [List.mem_singleton.mp hb, hσI] at e; cases e) (sub b ob e)) (fun b e _ => e) hw kk ⟨hit₁, dictAt_keep hdt (fun ob e => kk a ob (by simpa using haI) e)⟩ (.int _ _)
  · intro s Q E st hQ
    obtain ⟨hit, hdt⟩ := st
    have hlen : (ks.map fun p => D.int p.2).length = kvs.length := by rw [pairs_len hp]; simp
    rw [hlen] at hit
    have hn : kvs[kvs.length]? = none := List.getElem?_eq_none (Nat.le_refl _)
    exact wpAny_pyNext_values_end R.handled hit hdt hn fun h' he => hQ h' _ fun b ob hb e => he b ob (by simpa using hb) e
  · rintro i h h' ⟨hit, hdt⟩ hk
    obtain ⟨o', ho', r'⟩ := hit
    exact ⟨⟨o', hk _ (by simp) _ ho', r'⟩, dictAt_keep hdt (fun ob e => hk a (by simp) ob e)⟩
  · rintro i h ⟨⟨o', ho', hc', hd'⟩, hdt⟩ b hb
    rw [List.mem_singleton.mp hb]
    exact ⟨o', ho', by unfold solid; rw [hd']⟩
  · intro b hb; rw [List.mem_singleton.mp hb]; exact hfr
  · intro b hb
    simp only [List.mem_cons, List.not_mem_nil, or_false] at hb
    rcases hb with rfl | rfl
    · exact .inl (by simp)
    · exact .inr ⟨_, ea⟩
end
end Mine.Internal

namespace Mine.Internal

noncomputable def okTg (sc : Names) : Expr → Bool
  | .Name x _ => nameOk sc x
  | .Tuple es _ _ => es.all fun e => match e with | .Name x _ => nameOk sc x | _ => true
  | .Subscript (.Name x _) _ _ => nameOk sc x
  | _ => true
noncomputable def notTup : Expr → Bool
  | .Tuple .. => false
  | _ => true
noncomputable def notDC : Expr → Bool
  | .DictComp .. => false
  | _ => true
noncomputable def endOk : Expr → Pos → Bool
  | .Attribute _ _ ap, p => ap.endLine == p.line
  | _, _ => false
noncomputable def callOk : Expr → Bool
  | .Call f _ _ p => endOk f p
  | _ => false
noncomputable def okIt (ok : Names → Expr → Bool) (sc : Names) (it : Expr) : Bool := match feedOf it with
  | some _ => callOk it
  | none => ok sc it && noSet it
noncomputable def okCl (ok : Names → Expr → Bool) (sc : Names) : Expr → Bool
  | .Call (.Attribute o _ ap) args _ p => okTg sc o && ((ap.endLine == p.line) && argsOkE ok sc args)
  | _ => true
noncomputable def okIn (sc : Names) : Expr → Bool
  | .Compare _ _ [.Name x _] _ => nameOk sc x
  | _ => true
noncomputable def okFst (sc : Names) : List Stmt → Bool
  | [.Assign [t] _ _] => okTg sc t
  | _ => true
noncomputable def okAs (ok : Names → Expr → Bool) (sc : Names) (ts : List Expr) (e : Expr) : Bool := match ts with
  | [.Subscript ..] => true
  | _ => ok sc e && (notTup e && notDC e)
noncomputable def okSF (ok : Names → Expr → Bool) (sc : Names) (oks : List Stmt → Bool) : Stmt → Bool
  | .Assign ts e _ => ts.all (okTg sc) && okAs ok sc ts e
  | .AugAssign t _ e _ => okTg sc t && ok sc e
  | .For t it body _ _ => okTg sc t && (okIt ok sc it && oks body)
  | .While t body _ _ => okT ok sc t && oks body
  | .If t a b _ => okT ok sc t && (oks a && (oks b && (okIn sc t && okFst sc a)))
  | .Return (some e) _ => ok sc e && okTg sc e
  | .Expr e _ => okCl ok sc e
  | _ => true
noncomputable def okSs (f : Stmt → Bool) : List Stmt → Bool
  | [] => true
  | s :: r => f s && okSs f r
noncomputable def okS (ok : Names → Expr → Bool) (sc : Names) : Nat → Stmt → Bool
  | 0 => fun _ => false
  | n + 1 => okSF ok sc (okSs (okS ok sc n))

section
variable {prog : Program} {w : World} {C : Addr} {fa : Str → Option Addr} {X : Heap → Prop} {A : Around} {E : Value → Shared → Prop} {s : Shared}
  {σ₀ κ σ σ' : Sg} {h h' : Heap} {env : Env} {sc : Names} {ρ : Rho} {a : Addr} {n : Nat} {ds : List D}

theorem sts_snd {st : St} {f : Stmt → Bool} (hs : StOk prog w C fa X n sc st f) : StsOk prog w C fa X n sc (stsW st) (okSs f) := by
  intro ρ μ b
  induction b generalizing ρ μ with
  | nil =>
    intro post hp _ A env σ₀ κ σ s Q E R ff m hQ
    exact wpAny_execs_nil (hQ _ _ _ hp σ s.heap s.toks (.refl _) ff m)
  | cons b r ih =>
    intro post hp hok A env σ₀ κ σ s Q E R ff m hQ
    have hok := Bool.and_eq_true_iff.mp hok
    refine wpAny_execs_cons (hs _ _ _ _ hp hok.1 R ff m fun fl ρ' μ' h1 σ' h' tk le => ?_)
    cases fl with
    | next =>
      intro f' m'
      exact ih ρ' μ' post h1 hok.2 (s := { s with heap := h', toks := tk }) R f' m' (hQ.mono (fun _ _ _ e => e) le)
    | brk => intro f' m'; exact hQ _ _ _ h1 _ _ _ le f' m'
    | ret d => intro v hv; exact hQ _ _ _ h1 _ _ _ le v hv

theorem StQ.next {post : Post} {Q : Flow → Shared → Prop} (hq : StQ prog w C fa X σ₀ κ σ env sc s post Q) {ρ' : Rho} {μ' : Mu} (hp : post .next ρ' μ') {σ' : Sg} {h' : Heap} {tk : Nat} (l : Le σ σ')
    (f : FS prog w C fa X σ₀ κ σ' h' env sc ρ') (m : MuOk prog w C κ σ' h' env μ') : Q .next { s with heap := h', toks := tk } := hq _ _ _ hp _ _ _ l f m
theorem swaps_eq {e : Expr} {x : Str} {p : Pos} {l : Nat} (he : ∀ a b c d, e ≠ .ListComp a b c d) (hd : ∀ a b c d k, e ≠ .DictComp a b c d k) (hs : ∀ a b c d, e ≠ .SetComp a b c d) : swapsWith e (some (.Name x p)) l env = pure false := by
  cases e <;> first | rfl | exact absurd rfl (he _ _ _ _) | exact absurd rfl (hd _ _ _ _ _) | exact absurd rfl (hs _ _ _ _)

theorem MuOk.apart {wr : List Addr} {μ : Mu} (x : MuOk prog w C κ σ h env μ) (n : Nx σ h σ' h') (hw : ∀ b ∈ wr, h.get? b = none) : MuFree prog w C wr κ σ' h' env μ := by
  cases μ with
  | none => trivial
  | some p =>
    obtain ⟨a, m⟩ := x
    obtain ⟨o, h1, h2⟩ := m.obj
    refine ⟨a, ⟨m.var.keep n.kept, ⟨o, n.kept _ _ h1, h2.mono n.le⟩, m.ka, n.newf a m.sa (by rw [h1]; rfl), m.loc, m.sys⟩, fun hb => ?_⟩
    have := hw a hb
    rw [this] at h1; cases h1
theorem MuFree.move1 {μ : Mu} (x : MuFree prog w C [a] κ σ h env μ) (hk : ∀ b o, b ≠ a → h.get? b = some o → h'.get? b = some o) (hv : ∀ y u, VarAt h env y u → VarAt h' env y u) : MuOk prog w C κ σ h' env μ := by
  cases μ with
  | none => trivial
  | some p =>
    obtain ⟨b, m, hn⟩ := x
    obtain ⟨o, h1, h2⟩ := m.obj
    exact ⟨b, ⟨hv _ _ m.var, ⟨o, hk _ _ (by simpa using hn) h1, h2⟩, m.ka, m.sa, m.loc, m.sys⟩⟩

theorem assign_snd {nm : List Str} {Φ : Tab} {k : Nat} (hc : Calls prog w C fa X n nm Φ) {x : Str} {p pos : Pos} {e : Expr} {μ : Mu} {post : Post} (hx : nameOk sc x = true) (hok : okE nm k sc e = true) (hdc : notDC e = true) (R : Room n A)
    (f : FS prog w C fa X σ₀ κ σ s.heap env sc ρ) (m : MuOk prog w C κ σ s.heap env μ) (hp : evalW Φ k sc ρ e fun d => notMu x μ ∧ post .next (setR ρ x d) μ) {Q : Flow → Shared → Prop}
    (hQ : StQ prog w C fa X σ₀ κ σ env sc s post Q) : wpAny (model prog w) A (exec (.Assign [.Name x p] e pos) env) Q E s := by
  have hev := evalW_snd hc k
  have plain : swapsWith e (some (.Name x p)) pos.line env = pure false → wpAny (model prog w) A (exec (.Assign [.Name x p] e pos) env) Q E s := fun hs =>
    wpAny_Assign_Name (hev _ _ _ _ hp hok R f.ok fun d hd v σ₁ h₁ t₁ n₁ r₁ =>
      bind_snd (s := { s with heap := h₁, toks := t₁ }) (f.next n₁) (m.next n₁) hx hd.1 r₁ fun h₂ t₂ f₂ m₂ => hQ.next hd.2 n₁.le f₂ m₂) hs
  by_cases hl : ∃ a b c d, e = .ListComp a b c d
  · obtain ⟨elt, gens, cs, cpos, rfl⟩ := hl
    cases k with
    | zero => exact hp.elim
    | succ k =>
    have hev := evalW_snd hc k
    have hcomp : compOk (okE nm k) sc elt gens cs = true := hok
    cases gens with
    | nil => exact hp.elim
    | cons g gs =>
    obtain ⟨gt, gi, gf, gk⟩ := g
    have hasy : firstAsync (⟨gt, gi, gf, gk⟩ :: gs) = false := by
      rcases (comp_inv hcomp).2 with ⟨_, _, _, _, e, _⟩ | ⟨_, _, _, _, _, _, _, e, _⟩ <;> cases e <;> rfl
    cases hb : (env.blockKind == .function && env.kindOf x == some .local && p.line == (Expr.ListComp elt (⟨gt, gi, gf, gk⟩ :: gs) cs cpos).pos.line && !(cs.names.any fun (n, k) => n == x && (k == .local || k == .cell))) with
    | false =>
      refine plain ?_
      rw [← hb]; rfl
    | true =>
      have hsw : swapsWith (.ListComp elt (⟨gt, gi, gf, gk⟩ :: gs) cs cpos) (some (.Name x p)) pos.line env = pure true := by rw [← hb]; rfl
      rw [exec_Assign_Name_used _ _ _ _ hsw]
      refine wpAny_bind (wpAny_standAt (wpAny_bind ?_))
      show wpAny _ A (do let _ ← comprehension (.ListComp elt (⟨gt, gi, gf, gk⟩ :: gs) cs cpos) cs env _ (newList []) (firstAsync (⟨gt, gi, gf, gk⟩ :: gs)) (eval gi env) (some (assign (.Name x p) env))) _ _ s
      rw [hasy]
      refine wpAny_bind (wpAny_mono (comp_core (pos := cpos) (use := some (assign (.Name x p) env)) (Q := fun _ s' => Q .next s') hev R f.ok hcomp hp fun vs hv σ' h' tk a L ce => ?_) (fun _ s' hq => wpAny_pure (wpAny_pure hq)) fun _ _ e => e)
      obtain ⟨mL, ob, es, ep, hoL, hdL, hrL⟩ := ce.ns
      have hncL : notCell ob := fun v e => by rw [hdL] at e; cases e
      have hLl : L ≠ env.locals := by
        rintro rfl
        obtain ⟨m', o', _, _, ho', _⟩ := f.ns
        rw [ce.new] at ho'; cases ho'
      have hκL : κ L = none := by
        cases q : κ L with
        | none => rfl
        | some o' => have := f.pi L o' q; rw [ce.new] at this; cases this
      have f₁ := (f.next ce.nx).hide1 hoL ce.free hLl hncL
      have m₁ := (m.apart ce.nx (wr := [L]) (fun b hb => by rw [List.mem_singleton.mp hb]; exact ce.new)).shield
      refine wpAny_assign_Name (bind_snd (s := { s with heap := h', toks := tk }) f₁ m₁ hx hv.1 ce.rp fun h₂ t₂ f₂ m₂ => ?_)
      obtain ⟨f₃, hL₃⟩ := f₂.unhide (f.next ce.nx) hoL hκL
      have m₃ := MuFree.unshield m₂ (fun b hb => by rw [List.mem_singleton.mp hb, hoL]; rfl)
      refine ⟨mL, ⟨ob, es, ep, hL₃, hdL, hrL⟩, fun h₄ hsb => ?_⟩
      have hk₄ : ∀ b o, b ≠ L → h₂.get? b = some o → h₄.get? b = some o := fun b o hb e => (hsb.2 b hb).trans e
      obtain ⟨f₄, v₄⟩ := f₃.move1 hκL ce.free hLl (fun o e => by rw [hL₃] at e; cases e; exact hncL) hk₄
      exact hQ.next hv.2 ce.nx.le f₄ (m₃.move1 hk₄ v₄)
  · by_cases hd : ∃ a b c d k, e = .DictComp a b c d k
    · obtain ⟨_, _, _, _, _, rfl⟩ := hd
      cases hdc
    · by_cases hs : ∃ a b c d, e = .SetComp a b c d
      · obtain ⟨_, _, _, _, rfl⟩ := hs
        cases k <;> cases hok
      · exact plain (swaps_eq (fun a b c d e => hl ⟨a, b, c, d, e⟩) (fun a b c d k e => hd ⟨a, b, c, d, k, e⟩) (fun a b c d e => hs ⟨a, b, c, d, e⟩))
end
end Mine.Internal

namespace Mine.Internal

section
variable {prog : Program} {w : World} {C : Addr} {fa : Str → Option Addr} {X : Heap → Prop} {A : Around} {E : Value → Shared → Prop} {s : Shared}
  {σ₀ κ σ σ' : Sg} {h h' : Heap} {env : Env} {sc : Names} {ρ : Rho} {a : Addr} {n : Nat} {ds : List D}

theorem new_mu {x : Str} {o : Obj} {d : D} {post : Post} {Q : Flow → Shared → Prop} (f : FS prog w C fa X σ₀ κ σ s.heap env sc ρ) (hx : nameOk sc x = true) (ho : RpO prog w C σ o d) (hfree : o.isFreed = false)
    (hp : post .next (noneR ρ x) (some (x, d))) (hQ : StQ prog w C fa X σ₀ κ σ env sc s post Q) :
    wpAny (model prog w) A (storeName env x (.ref s.heap.objs.size)) (fun _ => Q .next) E { s with heap := s.heap.push o } := by
  have n₀ : Nx σ s.heap σ (s.heap.push o) := Nx.grow f.ok.sub (.push _ _)
  have f₀ := f.next n₀
  have hg : (s.heap.push o).get? s.heap.objs.size = some o := Heap.get?_push_size _ hfree
  have hσ : σ s.heap.objs.size = none := none_of_sub f.ok.sub (get?_size _)
  have hκ : κ s.heap.objs.size = none := none_of_sub f.pi (get?_size _)
  have hL : s.heap.objs.size ≠ env.locals := fun e => by
    obtain ⟨m, o', _, _, h1, _⟩ := f.ns
    rw [← e, get?_size] at h1; cases h1
  refine store_core (s := { s with heap := s.heap.push o }) (f₀.hide1 hg hσ hL ho.notCell) (nameOk_own hx) (nameOk_ne hx) fun h' tk k1 k2 _ => ?_
  obtain ⟨f₁, hg₁⟩ := (k1 (noneR ρ x) (fun y d hne e => by unfold noneR at e; rwa [if_neg hne] at e) (fun d e => by unfold noneR at e; rw [if_pos rfl] at e; cases e)).unhide f₀ hg hκ
  exact hQ.next hp (.refl _) f₁ ⟨_, ⟨k2, ⟨o, hg₁, ho⟩, hκ, hσ, hL, sysOk f.ok.wd rfl⟩⟩

theorem load_var {x : Str} {v : Value} {Q : Value → Shared → Prop} (st : Stat sc env) (hx : nameOk sc x = true) (hv : VarAt s.heap env x v) (q : Q v s) : wpAny (model prog w) A (loadName env x) Q E s := by
  rcases hv with ⟨k, m, hm, e⟩ | ⟨k, c, hc, e⟩
  · exact wpAny_loadName_local st.fn k hm e q
  · rcases k with k | k
    · exact wpAny_loadName_cell st.fn k hc e q
    · exact wpAny_loadName_free st.fn k hc e q (nameOk_ne hx).2
theorem eval_var {x : Str} {p : Pos} {v : Value} {Q : Value → Shared → Prop} (st : Stat sc env) (hx : nameOk sc x = true) (hv : VarAt s.heap env x v) (q : Q v s) : wpAny (model prog w) A (eval (.Name x p) env) Q E s :=
  wpAny_Name (load_var st hx hv q) (nameOk_ne hx).1

theorem MuAt.turn {x : Str} {d d' : D} {o' : Obj} (f : FS prog w C fa X σ₀ κ σ h env sc ρ) (m : MuAt prog w C κ σ h env x d a) (hs : Heap.SameBut a h h') (ho : h'.get? a = some o') (hr : RpO prog w C σ o' d') :
    FS prog w C fa X σ₀ κ σ h' env sc ρ ∧ MuOk prog w C κ σ h' env (some (x, d')) := by
  obtain ⟨o, h1, h2⟩ := m.obj
  obtain ⟨f', v'⟩ := f.move1 m.ka m.sa m.loc (fun o' e => by rw [h1] at e; cases e; exact h2.notCell) (fun b o hb e => (hs.2 b hb).trans e)
  exact ⟨f', a, ⟨v' _ _ m.var, ⟨o', ho, hr⟩, m.ka, m.sa, m.loc, m.sys⟩⟩

theorem append_snd {nm : List Str} {Φ : Tab} {k : Nat} (hc : Calls prog w C fa X n nm Φ) {x : Str} {xp ap cp pos : Pos} {e : Expr} {vs : List D} {post : Post} (hok : okCl (okE nm k) sc (.Call (.Attribute (.Name x xp) "append" ap) [e] [] cp) = true) (R : Room n A)
    (f : FS prog w C fa X σ₀ κ σ s.heap env sc ρ) (m : MuOk prog w C κ σ s.heap env (some (x, .list vs)))
    (hp : evalW Φ k sc ρ e fun d => vs.length ≤ 1000000 ∧ post .next ρ (some (x, .list (vs ++ [d])))) {Q : Flow → Shared → Prop}
    (hQ : StQ prog w C fa X σ₀ κ σ env sc s post Q) : wpAny (model prog w) A (exec (.Expr (.Call (.Attribute (.Name x xp) "append" ap) [e] [] cp) pos) env) Q E s := by
  have hev := evalW_snd hc k
  unfold okCl at hok
  have k1 := Bool.and_eq_true_iff.mp hok
  have k2 := Bool.and_eq_true_iff.mp k1.2
  have hx : nameOk sc x = true := k1.1
  obtain ⟨a, ma⟩ := m
  refine wpAny_Expr_any ?_ (by unfold interactive; rw [f.ok.stat.fn]; rfl) rfl
  refine meth_call rfl k2.2 k2.1 (by simp) (eval_var f.ok.stat hx ma.var fun pl => ?_)
  obtain ⟨o, ho, hro⟩ := ma.obj
  obtain ⟨us, nn, rfl, ru⟩ := hro
  refine PyProof.Rows.getMethod_list_of PySem.F.slot_list_append PySem.F.type_list_append ⟨_, ho, rfl, _, rfl⟩ ⟨_, ho, rfl⟩ ?_
  have ke : plainArg e = true ∧ okE nm k sc e = true := by
    have := k2.2
    simp only [argsOkE, List.all_cons, List.all_nil, Bool.and_true] at this
    exact Bool.and_eq_true_iff.mp this
  have e1 : backTo cp (starEach [e] env) = [(false, eval e env)] := by rw [star_plain ke.1]; rfl
  dsimp only
  rw [e1]
  refine PySem.P.append_list (hev _ _ _ _ hp ke.2 R f.ok fun d hd v σ₁ h₁ t₁ n₁ r₁ => ?_)
  have ma₁ : MuAt prog w C κ σ₁ h₁ env x (.list vs) a := ⟨ma.var.keep n₁.kept, ⟨_, n₁.kept _ _ ho, us, nn, rfl, ru.mono n₁.le⟩, ma.ka, n₁.newf a ma.sa (by rw [ho]; rfl), ma.loc, ma.sys⟩
  refine ⟨us.toArray, nn, by simp only [List.size_toArray]; rw [ru.length]; exact sl hd.1, n₁.kept _ _ ho, ?_⟩
  have hget : (h₁.update a (Obj.mapSeq fun xs => xs.push v)).get? a = some (Obj.mapSeq (fun xs => xs.push v) (W.listOf us.toArray nn)) := Heap.get?_update_self _ (n₁.kept _ _ ho) rfl
  obtain ⟨f₂, m₂⟩ := ma₁.turn (f.next n₁) (Heap.SameBut.update h₁ a _) hget (d' := .list (vs ++ [d])) ⟨us ++ [v], _, by unfold Obj.mapSeq W.listOf; simp; rfl, (ru.mono n₁.le).append (.cons r₁ .nil)⟩
  exact hQ.next hd.2 n₁.le f₂ m₂

theorem valueAt_of {kvs : List (Int × Value)} {ks : List (Int × Int)} (h : PairsAre kvs ks) (k : Int) : (∀ u, ks.lookup k = some u → ∃ t, valueAt kvs k = some (.int u t)) ∧ (valueAt kvs k).isSome = (ks.lookup k).isSome := by
  induction h with
  | nil => exact ⟨(fun _ e => by cases e), rfl⟩
  | @cons k' j t r q _ ih =>
    unfold valueAt at ih ⊢
    rw [List.find?_cons, List.lookup_cons]
    by_cases hk : k' = k
    · subst hk
      simp
    · have h1 : decide (k' = k) = false := by simpa using hk
      have h2 : (k == k') = false := beq_eq_false_iff_ne.mpr (Ne.symm hk)
      simp only [h1, h2]
      exact ih

theorem put_snd {x k v : Str} {xp kp vp sp pos : Pos} {kvs : List (Int × Int)} {i j : Int} {post : Post} (hx : nameOk sc x = true) 
    (f : FS prog w C fa X σ₀ κ σ s.heap env sc ρ) (m : MuOk prog w C κ σ s.heap env (some (x, .dict kvs))) (hk : ρ k = some (.int i)) (hv : ρ v = some (.int j)) (hz : kvs.length ≤ 1000000)
    (hp : post .next ρ (some (x, .dict (putK i j kvs)))) {Q : Flow → Shared → Prop}
    (hQ : StQ prog w C fa X σ₀ κ σ env sc s post Q) : wpAny (model prog w) A (exec (.Assign [.Subscript (.Name x xp) (.Name k kp) sp] (.Name v vp) pos) env) Q E s := by
  obtain ⟨a, ma⟩ := m
  refine wpAny_Assign_Subscript (name_snd f.ok hv (post := fun d => d = .int j) rfl fun d hd u σ₁ h₁ t₁ n₁ r₁ => ?_) rfl
  subst hd
  cases r₁
  rename_i tj
  have f₁ := f.next n₁
  refine eval_var (s := { s with heap := h₁, toks := t₁ }) f.ok.stat hx (ma.var.keep n₁.kept) ?_
  refine name_snd (s := { s with heap := h₁, toks := t₁ }) f₁.ok hk (post := fun d => d = .int i) rfl fun d hd u σ₂ h₂ t₂ n₂ r₂ => ?_
  subst hd
  cases r₂
  rename_i ti
  have f₂ := f₁.next n₂
  obtain ⟨o, ho, us, hd, hpu⟩ := ma.obj
  have n₁₂ := n₁.trans n₂
  have hd₂ : h₂.DictOf (intKind prog w) a us := Heap.dictOf_iff.mpr ⟨o, n₁₂.kept _ _ ho, hd⟩
  refine wpAny_setItem_pairs (s := { s with heap := h₂, toks := t₂ }) (intKind_is _ _ _ _) hd₂ (fun h₃ hd₃ hs₃ => ?_) (by rw [pairs_len hpu]; exact sl hz)
  obtain ⟨o', ho', hd'⟩ := Heap.dictOf_iff.mp hd₃
  have ma₂ : MuAt prog w C κ σ₂ h₂ env x (.dict kvs) a := ⟨ma.var.keep n₁₂.kept, ⟨o, n₁₂.kept _ _ ho, us, hd, hpu⟩, ma.ka, n₁₂.newf a ma.sa (by rw [ho]; rfl), ma.loc, ma.sys⟩
  obtain ⟨f₃, m₃⟩ := ma₂.turn f₂ hs₃ ho' (d' := .dict (putK i j kvs)) ⟨_, hd', pairs_put hpu⟩
  exact hQ.next hp n₁₂.le f₃ m₃

theorem augput_snd {x k v : Str} {xp kp vp sp pos : Pos} {kvs : List (Int × Int)} {i j u : Int} {post : Post} (hx : nameOk sc x = true) 
    (f : FS prog w C fa X σ₀ κ σ s.heap env sc ρ) (m : MuOk prog w C κ σ s.heap env (some (x, .dict kvs))) (hk : ρ k = some (.int i)) (hv : ρ v = some (.int j)) (hu : kvs.lookup i = some u) (hz : kvs.length ≤ 1000000)
    (hp : post .next ρ (some (x, .dict (putK i (u + j) kvs)))) {Q : Flow → Shared → Prop}
    (hQ : StQ prog w C fa X σ₀ κ σ env sc s post Q) : wpAny (model prog w) A (exec (.AugAssign (.Subscript (.Name x xp) (.Name k kp) sp) .Add (.Name v vp) pos) env) Q E s := by
  obtain ⟨a, ma⟩ := m
  obtain ⟨o, ho, us, hd, hpu⟩ := ma.obj
  refine wpAny_AugAssign_Subscript_any (eval_var f.ok.stat hx ma.var (name_snd f.ok hk (post := fun d => d = .int i) rfl fun d hd' w₁ σ₁ h₁ t₁ n₁ r₁ => ?_))
  subst hd'
  cases r₁
  rename_i ti
  have f₁ := f.next n₁
  obtain ⟨tu, hval⟩ := (valueAt_of hpu i).1 u hu
  have hd₁ : h₁.DictOf (intKind prog w) a us := Heap.dictOf_iff.mpr ⟨o, n₁.kept _ _ ho, hd⟩
  refine wpAny_getItem_of (s := { s with heap := h₁, toks := t₁ }) (intKind_is _ _ _ _) hd₁.mapOf hval ?_
  refine name_snd (s := { s with heap := h₁, toks := t₁ + 1 }) f₁.ok hv (post := fun d => d = .int j) rfl fun d hd' w₂ σ₂ h₂ t₂ n₂ r₂ => ?_
  subst hd'
  cases r₂
  rename_i tj
  have f₂ := f₁.next n₂
  have n₁₂ := n₁.trans n₂
  refine iadd_int ?_
  have hd₂ : h₂.DictOf (intKind prog w) a us := Heap.dictOf_iff.mpr ⟨o, n₁₂.kept _ _ ho, hd⟩
  refine wpAny_setItem_pairs (s := { s with heap := h₂, toks := t₂ + 1 }) (intKind_is _ _ _ _) hd₂ (fun h₃ hd₃ hs₃ => ?_) (by rw [pairs_len hpu]; exact sl hz)
  obtain ⟨o', ho', hd'⟩ := Heap.dictOf_iff.mp hd₃
  have ma₂ : MuAt prog w C κ σ₂ h₂ env x (.dict kvs) a := ⟨ma.var.keep n₁₂.kept, ⟨o, n₁₂.kept _ _ ho, us, hd, hpu⟩, ma.ka, n₁₂.newf a ma.sa (by rw [ho]; rfl), ma.loc, ma.sys⟩
  obtain ⟨f₃, m₃⟩ := ma₂.turn f₂ hs₃ ho' (d' := .dict (putK i (u + j) kvs)) ⟨_, hd', pairs_put hpu⟩
  exact hQ.next hp n₁₂.le f₃ m₃

theorem in_snd {oks : List Stmt → Bool} {sts : Sts} (hs : StsOk prog w C fa X n sc sts oks) {x k : Str} {xp kp tp pos : Pos} {th el : List Stmt} {kvs : List (Int × Int)} {i : Int} {post : Post} (hx : nameOk sc x = true) (ha : oks th = true) (hb : oks el = true) (R : Room n A)
    (f : FS prog w C fa X σ₀ κ σ s.heap env sc ρ) (m : MuOk prog w C κ σ s.heap env (some (x, .dict kvs))) (hk : ρ k = some (.int i))
    (hp : ((kvs.lookup i).isSome = true → sts ρ (some (x, .dict kvs)) th post) ∧ ((kvs.lookup i).isSome = false → sts ρ (some (x, .dict kvs)) el post)) {Q : Flow → Shared → Prop}
    (hQ : StQ prog w C fa X σ₀ κ σ env sc s post Q) : wpAny (model prog w) A (exec (.If (.Compare (.Name k kp) [.In] [.Name x xp] tp) th el pos) env) Q E s := by
  have m' := m
  obtain ⟨a, ma⟩ := m
  obtain ⟨o, ho, us, hd, hpu⟩ := ma.obj
  refine wpAny_If (wpAny_isTrue_Compare1 (name_snd f.ok hk (post := fun d => d = .int i) rfl fun d hd' w₁ σ₁ h₁ t₁ n₁ r₁ => ?_) rfl)
  subst hd'
  cases r₁
  have f₁ := f.next n₁
  refine eval_var (s := { s with heap := h₁, toks := t₁ }) f.ok.stat hx (ma.var.keep n₁.kept) ?_
  have hd₁ : h₁.DictOf (intKind prog w) a us := Heap.dictOf_iff.mpr ⟨o, n₁.kept _ _ ho, hd⟩
  refine wpAny_in_of (s := { s with heap := h₁, toks := t₁ }) (intKind_is _ _ _ _) (beq_eq_false_iff_ne.mpr ma.sys) hd₁.mapOf (wpAny_truthy_bool ?_)
  rw [(valueAt_of hpu i).2]
  cases hq : (kvs.lookup i).isSome with
  | true => exact hs _ _ _ _ (hp.1 hq) ha (s := { s with heap := h₁, toks := t₁ + 1 }) R f₁ (m'.next n₁) (hQ.mono (fun _ _ _ e => e) n₁.le)
  | false => exact hs _ _ _ _ (hp.2 hq) hb (s := { s with heap := h₁, toks := t₁ + 1 }) R f₁ (m'.next n₁) (hQ.mono (fun _ _ _ e => e) n₁.le)

theorem ret_mu {x : Str} {xp pos : Pos} {d : D} {post : Post} (hx : nameOk sc x = true) (f : FS prog w C fa X σ₀ κ σ s.heap env sc ρ) (m : MuOk prog w C κ σ s.heap env (some (x, d))) {ρ' : Rho} {μ' : Mu} (hp : post (.ret d) ρ' μ') {Q : Flow → Shared → Prop}
    (hQ : StQ prog w C fa X σ₀ κ σ env sc s post Q) : wpAny (model prog w) A (exec (.Return (some (.Name x xp)) pos) env) Q E s := by
  obtain ⟨a, ma⟩ := m
  refine wpAny_Return_some (eval_var f.ok.stat hx ma.var ?_)
  obtain ⟨o, ho, hr⟩ := ma.obj
  have hle := addS_le (o := o) ma.sa
  refine hQ _ _ _ hp (addS σ a o) s.heap s.toks hle (.ref a) ⟨f.le0.trans hle, addS_sub f.ok.sub ho, f.pi, fun b hb hs => ?_, ?_⟩
  · unfold addS
    rw [if_neg (by rintro rfl; rw [ma.ka] at hs; cases hs)]
    exact f.nf b hb hs
  · unfold RpO at hr
    split at hr
    · obtain ⟨vs, nn, rfl, hv⟩ := hr
      exact .list (addS_self _ _ _) (hv.mono hle)
    · obtain ⟨kvs, h1, h2⟩ := hr
      exact .dict (addS_self _ _ _) h1 h2 ma.sys
    · exact hr.elim
end
end Mine.Internal

namespace Mine.Internal

section
variable {prog : Program} {w : World} {C : Addr} {fa : Str → Option Addr} {X : Heap → Prop} {A : Around} {E : Value → Shared → Prop} {s : Shared}
  {σ₀ κ σ σ' : Sg} {h h' : Heap} {env : Env} {sc : Names} {ρ : Rho} {a : Addr} {n : Nat} {ds : List D}

theorem forE_snd {nm : List Str} {Φ : Tab} {k : Nat} (hc : Calls prog w C fa X n nm Φ) {turn : D → Rho → Mu → Post → Prop} {target it : Expr} {body : List Stmt} {pos : Pos} {μ : Mu} {post : Post} (ht : TurnOk prog w C fa X n sc turn target body)
    (hok : okE nm k sc it = true) (hns : noSet it = true) (R : Room n A) (f : FS prog w C fa X σ₀ κ σ s.heap env sc ρ) (m : MuOk prog w C κ σ s.heap env μ)
    (hp : evalW Φ k sc ρ it fun s => itemsW s fun ds => forW turn ds ρ μ post) {Q : Flow → Shared → Prop} (hQ : StQ prog w C fa X σ₀ κ σ env sc s post Q) :
    wpAny (model prog w) A (exec (.For target it body [] pos) env) Q E s := by
  refine wpAny_For (evalW_snd hc k _ _ _ _ hp hok R f.ok fun d hd v σ₁ h₁ t₁ n₁ r₁ => ?_) (fun v => noSet_eq hns env v)
  refine iter_snd (s := { s with heap := h₁, toks := t₁ }) R n₁.sub r₁ hd fun ds hds hl it' h₂ k₂ src => ?_
  obtain ⟨fp, wr, St, fd, st⟩ := feed_of_src (target := target) src
  have n₂ : Nx σ₁ h₁ σ₁ h₂ := Nx.grow n₁.sub k₂
  have n₁₂ := n₁.trans n₂
  have f₂ := f.next n₁₂
  have hs : ∀ b ∈ wr, s.heap.get? b = none := fun b hb => by
    cases q : s.heap.get? b with
    | none => rfl
    | some o => have := n₁.kept b o q; rw [fd.fresh b hb] at this; cases this
  have hκ : ∀ b ∈ wr, κ b = none := fun b hb => none_of_sub f.pi (hs b hb)
  have hσ : ∀ b ∈ wr, σ₁ b = none := fun b hb => none_of_sub n₁.sub (fd.fresh b hb)
  refine for_snd (s := { s with heap := h₂, toks := t₁ }) ht R fd st hκ hσ (.refl _) f₂ (m.apart n₁₂ hs) hds (hQ.mono (fun _ _ _ e => e) n₁₂.le) fun fl s' h => h

theorem forD_snd {turn : D → Rho → Mu → Post → Prop} {target o : Expr} {m0 : Str} {ap cp : Pos} {body : List Stmt} {pos : Pos} {μ : Mu} {post : Post} (ht : TurnOk prog w C fa X n sc turn target body)
    (R : Room n A) (f : FS prog w C fa X σ₀ κ σ s.heap env sc ρ) (m : MuOk prog w C κ σ s.heap env μ) {Q : Flow → Shared → Prop} (hQ : StQ prog w C fa X σ₀ κ σ env sc s post Q)
    (hfeed : ∀ {Q' : Value → Shared → Prop} {E : Value → Shared → Prop}, (∀ it h', Kept s.heap h' → (∃ fp wr St, FeedOf prog w C A σ s.heap it target ds fp wr St ∧ St 0 h') → Q' it { s with heap := h' }) →
      wpAny (model prog w) A (eval (.Call (.Attribute o m0 ap) [] [] cp) env) (fun xv s₁ => wpAny (model prog w) A (pyIter xv) Q' E s₁) E s)
    (hp : forW turn ds ρ μ post) :
    wpAny (model prog w) A (exec (.For target (.Call (.Attribute o m0 ap) [] [] cp) body [] pos) env) Q E s := by
  refine wpAny_For (hfeed fun it h₁ k₁ fd => ?_) (fun _ => rfl)
  obtain ⟨fp, wr, St, fd, st⟩ := fd
  have n₁ : Nx σ s.heap σ h₁ := Nx.grow f.ok.sub k₁
  have hκ : ∀ b ∈ wr, κ b = none := fun b hb => none_of_sub f.pi (fd.fresh b hb)
  have hσ : ∀ b ∈ wr, σ b = none := fun b hb => none_of_sub f.ok.sub (fd.fresh b hb)
  exact for_snd (s := { s with heap := h₁ }) ht R fd st hκ hσ (.refl _) (f.next n₁) (m.apart n₁ fd.fresh) hp (hQ.mono (fun _ _ _ e => e) (.refl _)) fun fl s' h => h

theorem while_snd {nm : List Str} {Φ : Tab} {k : Nat} (hc : Calls prog w C fa X n nm Φ) {sts : Sts} {oks : List Stmt → Bool} (hs : StsOk prog w C fa X n sc sts oks) {t : Expr} {body : List Stmt} {pos : Pos} {μ : Mu} {post : Post} 
    (hok : okT (okE nm k) sc t = true) (hb : oks body = true) (R : Room n A) (f : FS prog w C fa X σ₀ κ σ s.heap env sc ρ) (m : MuOk prog w C κ σ s.heap env μ) {i : Nat}
    (hp : whileW (fun ρ _ post => testW (evalW Φ k) sc ρ t post) (fun ρ μ post => sts ρ μ body post) i ρ μ post) {Q : Flow → Shared → Prop} (hQ : StQ prog w C fa X σ₀ κ σ env sc s post Q) :
    wpAny (model prog w) A (exec (.While t body [] pos) env) Q E s := by
  refine wpAny_While (codeAny_whileLoop (fun j s' => ∃ σ₂ h₂ tk₂ ρ₂ μ₂, s' = { s with heap := h₂, toks := tk₂ } ∧ FS prog w C fa X σ₀ κ σ₂ h₂ env sc ρ₂ ∧ MuOk prog w C κ σ₂ h₂ env μ₂ ∧ Le σ σ₂ ∧
      whileW (fun ρ _ post => testW (evalW Φ k) sc ρ t post) (fun ρ μ post => sts ρ μ body post) j ρ₂ μ₂ post) ?_ i ⟨σ, s.heap, s.toks, ρ, μ, rfl, f, m, .refl _, hp⟩)
  rintro j s' ⟨σ₂, h₂, tk₂, ρ₂, μ₂, rfl, f₂, m₂, le₂, hw⟩
  cases j with
  | zero => exact hw.elim
  | succ j =>
    refine test_snd (s := { s with heap := h₂, toks := tk₂ }) (evalW_snd hc k) R f₂.ok hok hw fun b hb' σ₃ h₃ tk₃ n₃ => ?_
    cases b with
    | false =>
      simp only [Bool.false_eq_true, if_false]
      exact wpAny_execs_nil (hQ.next (hb'.2 rfl) (le₂.trans n₃.le) (f₂.next n₃) (m₂.next n₃))
    | true =>
      simp only [if_true]
      refine hs _ _ _ _ (hb'.1 rfl) hb (s := { s with heap := h₃, toks := tk₃ }) R (f₂.next n₃) (m₂.next n₃) fun fl ρ₅ μ₅ h5 σ₅ h₅ tk₅ le₅ => ?_
      cases fl with
      | next => intro f₅ m₅; exact ⟨j, Nat.lt_succ_self _, σ₅, h₅, tk₅, ρ₅, μ₅, rfl, f₅, m₅, le₂.trans (n₃.le.trans le₅), h5⟩
      | brk => intro f₅ m₅; exact hQ.next h5 (le₂.trans (n₃.le.trans le₅)) f₅ m₅
      | ret d => intro v hv; exact hQ _ _ _ h5 _ _ _ (le₂.trans (n₃.le.trans le₅)) v hv

theorem flt_snd {nm : List Str} {Φ : Tab} {k : Nat} (hc : Calls prog w C fa X n nm Φ) {x : Str} {t : Expr} {xp ap pos cp : Pos} {c : UInt64} {ck : Nat} {y : UInt64} {μ : Mu} {post : Post} (hx : nameOk sc x = true)
    (hok : okT (okE nm k) sc t = true) (R : Room n A) (f : FS prog w C fa X σ₀ κ σ s.heap env sc ρ) (m : MuOk prog w C κ σ s.heap env μ) (hy : ρ x = some (.flt y))
    (hp : testW (evalW Φ k) sc ρ t fun b => notMu x μ ∧ post .next (setR ρ x (.flt (if b then c else y))) μ) {Q : Flow → Shared → Prop} (hQ : StQ prog w C fa X σ₀ κ σ env sc s post Q) :
    wpAny (model prog w) A (exec (.If t [.Assign [.Name x xp] (.Constant (.float c) ck cp) ap] [] pos) env) Q E s := by
  refine wpAny_If (test_snd (evalW_snd hc k) R f.ok hok hp fun b hb σ₁ h₁ t₁ n₁ => ?_)
  cases b with
  | false =>
    refine wpAny_execs_nil (hQ.next hb.2 n₁.le ((f.next n₁).rho fun z d hz => ?_) (m.next n₁))
    unfold setR at hz
    split at hz
    · rename_i e; subst e; rw [hy]; exact hz
    · exact hz
  | true =>
    refine wpAny_execs_cons (wpAny_Assign_Name ?_ rfl)
    have ev : wpAny (model prog w) A (eval (.Constant (.float c) ck cp) env) (fun v s₁ => v = .float c t₁ ∧ s₁ = { s with heap := h₁, toks := t₁ + 1 }) E { s with heap := h₁, toks := t₁ } := fun _ _ _ => ⟨rfl, rfl⟩
    refine wpAny_mono ev (fun v s₁ hv => ?_) fun _ _ e => e
    obtain ⟨rfl, rfl⟩ := hv
    exact bind_snd (s := { s with heap := h₁, toks := t₁ + 1 }) (f.next n₁) (m.next n₁) hx hb.1 (.flt _ _) fun h₂ t₂ f₂ m₂ => wpAny_execs_nil (hQ.next hb.2 n₁.le f₂ m₂)

theorem as_ok {ok : Names → Expr → Bool} {oks : List Stmt → Bool} {ts : List Expr} {e : Expr} {p : Pos} (h : okSF ok sc oks (.Assign ts e p) = true) (ht : okAs ok sc ts e = (ok sc e && (notTup e && notDC e)) := by rfl) : ts.all (okTg sc) = true ∧ ok sc e = true ∧ notTup e = true ∧ notDC e = true :=
  let a := Bool.and_eq_true_iff.mp h
  let b := Bool.and_eq_true_iff.mp (ht ▸ a.2)
  let c := Bool.and_eq_true_iff.mp b.2
  ⟨a.1, b.1, c.1, c.2⟩
theorem tg_one {t : Expr} (h : [t].all (okTg sc) = true) : okTg sc t = true := by simpa using h
theorem sole_eq {es : List Expr} {kk : Nat} {tp : Pos} {e : Expr} {l : Nat} : swapsWithSole [.Tuple es kk tp] e l env = pure false := by
  unfold swapsWithSole swapsWith
  cases e <;> rfl
theorem stores_eq {es : List Expr} {kk : Nat} {tp : Pos} {e : Expr} (h : notTup e = true) : swappedStores [.Tuple es kk tp] e env = pure none := by
  cases e <;> first | rfl | cases h

theorem asTup_snd {nm : List Str} {Φ : Tab} {k : Nat} (hc : Calls prog w C fa X n nm Φ) {es : List Expr} {kk : Nat} {tp pos : Pos} {e : Expr} {pd : D → Prop} (hok : okE nm k sc e = true) (hnt : notTup e = true) (R : Room n A)
    (f : FS prog w C fa X σ₀ κ σ s.heap env sc ρ) (hp : evalW Φ k sc ρ e pd) {Q : Flow → Shared → Prop}
    (hgo : ∀ d, pd d → ∀ v σ₁ h₁ t₁, Nx σ s.heap σ₁ h₁ → Rp prog w C σ₁ v d → wpAny (model prog w) A (assign (.Tuple es kk tp) env v) (fun _ => Q .next) E { s with heap := h₁, toks := t₁ }) :
    wpAny (model prog w) A (exec (.Assign [.Tuple es kk tp] e pos) env) Q E s :=
  PyProof.Rows.Assign_Tuple (evalW_snd hc k _ _ _ _ hp hok R f.ok hgo) sole_eq (stores_eq hnt)

theorem eval_at {x : Str} {p : Pos} {v : Value} {Q : Value → Shared → Prop} (st : Stat sc env) (e1 : (x == ("__debug__" : Str)) = false) (e2 : (x == ("__classdict__" : Str)) = false) (hv : VarAt s.heap env x v) (q : Q v s) : wpAny (model prog w) A (eval (.Name x p) env) Q E s := by
  refine wpAny_Name ?_ e1
  rcases hv with ⟨k, m, hm, e⟩ | ⟨k, c, hc, e⟩
  · exact wpAny_loadName_local st.fn k hm e q
  · rcases k with k | k
    · exact wpAny_loadName_cell st.fn k hc e q
    · exact wpAny_loadName_free st.fn k hc e q e2
theorem aug_snd {nm : List Str} {Φ : Tab} {k : Nat} (hc : Calls prog w C fa X n nm Φ) {x : Str} {xp pos : Pos} {e : Expr} {i : Int} {μ : Mu} {post : Post} (hx : nameOk sc x = true) (hok : okE nm k sc e = true) (R : Room n A)
    (f : FS prog w C fa X σ₀ κ σ s.heap env sc ρ) (m : MuOk prog w C κ σ s.heap env μ) (hi : ρ x = some (.int i))
    (hp : evalW Φ k sc ρ e fun d => match d with | .int b => notMu x μ ∧ post .next (setR ρ x (.int (i + b))) μ | _ => False) {Q : Flow → Shared → Prop}
    (hQ : StQ prog w C fa X σ₀ κ σ env sc s post Q) : wpAny (model prog w) A (exec (.AugAssign (.Name x xp) .Add e pos) env) Q E s := by
  obtain ⟨e1, e2, v, hv, hr⟩ := f.ok.vars x _ hi
  cases hr
  refine wpAny_AugAssign_Name (load_var f.ok.stat hx hv (evalW_snd hc k _ _ _ _ hp hok R f.ok fun d hd u σ₁ h₁ t₁ n₁ r₁ => ?_))
  dsimp only at hd
  split at hd
  · cases r₁
    refine iadd_int (bind_snd (s := { s with heap := h₁, toks := t₁ + 1 }) (f.next n₁) (m.next n₁) hx hd.1 (.int _ _) fun h₂ t₂ f₂ m₂ => hQ.next hd.2 n₁.le f₂ m₂)
  · exact hd.elim

theorem pair_ok {x y : Str} {xp yp tp : Pos} {kk : Nat} (h : okTg sc (.Tuple [.Name x xp, .Name y yp] kk tp) = true) : nameOk sc x = true ∧ nameOk sc y = true := by
  have h : (nameOk sc x && (nameOk sc y && true)) = true := h
  have h := Bool.and_eq_true_iff.mp h
  exact ⟨h.1, (Bool.and_eq_true_iff.mp h.2).1⟩
theorem three_ok {x y z : Str} {xp yp zp tp : Pos} {kk : Nat} (h : okTg sc (.Tuple [.Name x xp, .Name y yp, .Name z zp] kk tp) = true) : nameOk sc x = true ∧ nameOk sc y = true ∧ nameOk sc z = true := by
  have h : (nameOk sc x && (nameOk sc y && (nameOk sc z && true))) = true := h
  have h := Bool.and_eq_true_iff.mp h
  have h2 := Bool.and_eq_true_iff.mp h.2
  exact ⟨h.1, h2.1, (Bool.and_eq_true_iff.mp h2.2).1⟩
theorem for_ok {ok : Names → Expr → Bool} {oks : List Stmt → Bool} {t it : Expr} {body : List Stmt} {p : Pos} (h : okSF ok sc oks (.For t it body [] p) = true) : okTg sc t = true ∧ okIt ok sc it = true ∧ oks body = true :=
  let a := Bool.and_eq_true_iff.mp h
  ⟨a.1, Bool.and_eq_true_iff.mp a.2⟩

theorem new0 {nm : List Str} {Φ : Tab} {k : Nat} (hc : Calls prog w C fa X n nm Φ) {x : Str} {xp lp pos : Pos} {μ : Mu} {post : Post} (hx : nameOk sc x = true) (hok : okE nm k sc (.List [] lp) = true) (R : Room n A)
    (f : FS prog w C fa X σ₀ κ σ s.heap env sc ρ) (m : MuOk prog w C κ σ s.heap env μ) (hp : (mutN x = true → μ = none ∧ post .next (noneR ρ x) (some (x, .list []))) ∧ (mutN x = false → notMu x μ ∧ post .next (setR ρ x (.list [])) μ)) {Q : Flow → Shared → Prop}
    (hQ : StQ prog w C fa X σ₀ κ σ env sc s post Q) : wpAny (model prog w) A (exec (.Assign [.Name x xp] (.List [] lp) pos) env) Q E s := by
  cases hm : mutN x with
  | true =>
    obtain ⟨rfl, hp1⟩ := hp.1 hm
    exact wpAny_Assign_Name (wpAny_List (wpAny_items_nil ⟨by simp, new_mu (d := .list []) f hx ⟨[], 0, rfl, .nil⟩ rfl hp1 hQ⟩)) rfl
  | false =>
    cases k with
    | zero => cases hok
    | succ k => exact assign_snd hc hx hok rfl R f m (show evalW Φ (k + 1) sc ρ (.List [] lp) _ from ⟨by simp, hp.2 hm⟩) hQ
theorem newD0 {nm : List Str} {Φ : Tab} {k : Nat} (hc : Calls prog w C fa X n nm Φ) {x : Str} {xp lp pos : Pos} {μ : Mu} {post : Post} (hx : nameOk sc x = true) (hok : okE nm k sc (.Dict [] [] lp) = true) (R : Room n A)
    (f : FS prog w C fa X σ₀ κ σ s.heap env sc ρ) (m : MuOk prog w C κ σ s.heap env μ) (hp : (mutN x = true → μ = none ∧ post .next (noneR ρ x) (some (x, .dict []))) ∧ (mutN x = false → notMu x μ ∧ post .next (setR ρ x (.dict [])) μ)) {Q : Flow → Shared → Prop}
    (hQ : StQ prog w C fa X σ₀ κ σ env sc s post Q) : wpAny (model prog w) A (exec (.Assign [.Name x xp] (.Dict [] [] lp) pos) env) Q E s := by
  cases hm : mutN x with
  | true =>
    obtain ⟨rfl, hp1⟩ := hp.1 hm
    refine wpAny_Assign_Name (wpAny_Dict_empty (new_mu (d := .dict []) f hx ⟨[], ?_, .nil⟩ rfl hp1 hQ)) rfl
    obtain ⟨ob, ho, hd⟩ := Heap.dictOf_iff.mp (Heap.DictOf.new (knd := intKind prog w) s.heap)
    rw [Heap.get?_push_size _ rfl] at ho
    cases ho
    exact hd
  | false =>
    cases k with
    | zero => cases hok
    | succ k => exact assign_snd hc hx hok rfl R f m (show evalW Φ (k + 1) sc ρ (.Dict [] [] lp) _ from hp.2 hm) hQ

theorem isIn_inv {ops : List CmpOp} (h : isIn ops = true) : ops = [.In] := by
  cases ops with
  | nil => cases h
  | cons op ops =>
    cases ops with
    | cons _ _ => cases h
    | nil => cases op <;> first | rfl | cases h
theorem forIt_ok {ok : Names → Expr → Bool} {it : Expr} (h : okIt ok sc it = true) (hn : feedOf it = none) : ok sc it = true ∧ noSet it = true := by
  unfold okIt at h
  rw [hn] at h
  exact Bool.and_eq_true_iff.mp h

section
variable {ev : Ev} {sc : Names} {sts : Sts} {ρ : Rho} {μ : Mu} {post : Post} {t a i e it l : Expr} {es rs : List Expr} {body b c : List Stmt}
theorem nm2_inv {P : Str → Str → Prop} (hp : match nmOf a, nmOf i with | some x, some y => P x y | _, _ => False) : ∃ x p y q, a = .Name x p ∧ i = .Name y q ∧ P x y := by
  cases h1 : nmOf a with
  | none => rw [h1] at hp; exact False.elim hp
  | some x =>
    cases h2 : nmOf i with
    | none => rw [h1, h2] at hp; exact False.elim hp
    | some y =>
      rw [h1, h2] at hp
      obtain ⟨p, rfl⟩ := nmOf_inv h1
      obtain ⟨q, rfl⟩ := nmOf_inv h2
      exact ⟨x, p, y, q, rfl, rfl, hp⟩
theorem nm3_inv {P : Str → Str → Str → Prop} (hp : match nmOf a, nmOf i, nmOf e with | some x, some y, some z => P x y z | _, _, _ => False) : ∃ x p y q z r, a = .Name x p ∧ i = .Name y q ∧ e = .Name z r ∧ P x y z := by
  cases h1 : nmOf a with
  | none => rw [h1] at hp; exact False.elim hp
  | some x =>
    cases h2 : nmOf i with
    | none => rw [h1, h2] at hp; exact False.elim hp
    | some y =>
      cases h3 : nmOf e with
      | none => rw [h1, h2, h3] at hp; exact False.elim hp
      | some z =>
        rw [h1, h2, h3] at hp
        obtain ⟨p, rfl⟩ := nmOf_inv h1
        obtain ⟨q, rfl⟩ := nmOf_inv h2
        obtain ⟨r, rfl⟩ := nmOf_inv h3
        exact ⟨x, p, y, q, z, r, rfl, rfl, rfl, hp⟩
theorem exF_el {Q : Expr → Prop} (hp : exF ev sc ρ μ e post) (k : ∀ f a b p, exC ev sc ρ μ f a b post → Q (.Call f a b p)) : Q e := by
  cases e with
  | Call f a b p => exact k f a b p hp
  | _ => exact False.elim hp
theorem exF_inv (hp : exF ev sc ρ μ e post) : ∃ f x p, e = .Call f [x] [] p ∧ appF ev sc ρ μ f x post := by
  refine exF_el (Q := fun e => ∃ f x p, e = .Call f [x] [] p ∧ appF ev sc ρ μ f x post) hp fun f a b p hp => ?_
  cases a with
  | nil => exact False.elim hp
  | cons x a =>
    cases a with
    | cons _ _ => exact False.elim hp
    | nil =>
      cases b with
      | cons _ _ => exact False.elim hp
      | nil => exact ⟨f, x, p, rfl, hp⟩
theorem mud_inv {P : Str → List (Int × Int) → Prop} {μ : Mu} (h : match μ with
    | some (y, .dict kvs) => P y kvs
    | _ => False) : ∃ y kvs, μ = some (y, .dict kvs) ∧ P y kvs := by
  cases μ with
  | none => exact False.elim h
  | some p =>
    obtain ⟨y, d⟩ := p
    cases d with
    | dict kvs => exact ⟨y, kvs, rfl, h⟩
    | _ => exact False.elim h
theorem mul_inv {P : Str → List D → Prop} {μ : Mu} (h : match μ with
    | some (y, .list kvs) => P y kvs
    | _ => False) : ∃ y kvs, μ = some (y, .list kvs) ∧ P y kvs := by
  cases μ with
  | none => exact False.elim h
  | some p =>
    obtain ⟨y, d⟩ := p
    cases d with
    | list kvs => exact ⟨y, kvs, rfl, h⟩
    | _ => exact False.elim h
theorem rr_inv {P : Int → Int → Prop} {u v : Option D} (h : match u, v with
    | some (.int k), some (.int v) => P k v
    | _, _ => False) : ∃ k l, u = some (.int k) ∧ v = some (.int l) ∧ P k l := by
  cases u with
  | none => exact False.elim h
  | some d =>
    cases d with
    | int k =>
      cases v with
      | none => exact False.elim h
      | some e =>
        cases e with
        | int l => exact ⟨k, l, rfl, rfl, h⟩
        | _ => exact False.elim h
    | _ => exact False.elim h
theorem as1_el {Q : Expr → Prop} (hp : as1 ev sc ρ μ t e post) (k1 : ∀ x p, asN ev sc ρ μ x e post → Q (.Name x p)) (k2 : ∀ es k p, asT ev sc ρ μ es e post → Q (.Tuple es k p)) (k3 : ∀ a i p, asS ρ μ a i e post → Q (.Subscript a i p)) : Q t := by
  cases t with
  | Name x p => exact k1 x p hp
  | Tuple es k p => exact k2 es k p hp
  | Subscript a i p => exact k3 a i p hp
  | _ => exact False.elim hp
theorem as1_inv (hp : as1 ev sc ρ μ t e post) : (∃ x p, t = .Name x p ∧ asN ev sc ρ μ x e post) ∨ (∃ es k p, t = .Tuple es k p ∧ asT ev sc ρ μ es e post) ∨ (∃ a i p, t = .Subscript a i p ∧ asS ρ μ a i e post) :=
  as1_el (Q := fun t => (∃ x p, t = .Name x p ∧ asN ev sc ρ μ x e post) ∨ (∃ es k p, t = .Tuple es k p ∧ asT ev sc ρ μ es e post) ∨ (∃ a i p, t = .Subscript a i p ∧ asS ρ μ a i e post)) hp
    (fun x p h => .inl ⟨x, p, rfl, h⟩) (fun es k p h => .inr (.inl ⟨es, k, p, rfl, h⟩)) (fun a i p h => .inr (.inr ⟨a, i, p, rfl, h⟩))
theorem augF_el {Q : Expr → Prop} (hp : augF ev sc ρ μ t e post) (k1 : ∀ x p, augN ev sc ρ μ x e post → Q (.Name x p)) (k3 : ∀ a i p, augS ρ μ a i e post → Q (.Subscript a i p)) : Q t := by
  cases t with
  | Name x p => exact k1 x p hp
  | Subscript a i p => exact k3 a i p hp
  | _ => exact False.elim hp
theorem augF_inv (hp : augF ev sc ρ μ t e post) : (∃ x p, t = .Name x p ∧ augN ev sc ρ μ x e post) ∨ (∃ a i p, t = .Subscript a i p ∧ augS ρ μ a i e post) :=
  augF_el (Q := fun t => (∃ x p, t = .Name x p ∧ augN ev sc ρ μ x e post) ∨ (∃ a i p, t = .Subscript a i p ∧ augS ρ μ a i e post)) hp (fun x p h => .inl ⟨x, p, rfl, h⟩) (fun a i p h => .inr ⟨a, i, p, rfl, h⟩)
theorem forF_el {Q : Expr → Prop} (hp : forF ev sc sts ρ μ t it body post) (k1 : ∀ x p, forN ev sc sts ρ μ x it body post → Q (.Name x p)) (k3 : ∀ es k p, forP ev sc sts ρ μ es it body post → Q (.Tuple es k p)) : Q t := by
  cases t with
  | Name x p => exact k1 x p hp
  | Tuple es k p => exact k3 es k p hp
  | _ => exact False.elim hp
theorem forF_inv (hp : forF ev sc sts ρ μ t it body post) : (∃ x p, t = .Name x p ∧ forN ev sc sts ρ μ x it body post) ∨ (∃ es k p, t = .Tuple es k p ∧ forP ev sc sts ρ μ es it body post) :=
  forF_el (Q := fun t => (∃ x p, t = .Name x p ∧ forN ev sc sts ρ μ x it body post) ∨ (∃ es k p, t = .Tuple es k p ∧ forP ev sc sts ρ μ es it body post)) hp (fun x p h => .inl ⟨x, p, rfl, h⟩) (fun a i p h => .inr ⟨a, i, p, rfl, h⟩)
theorem ret_el {Q : Expr → Prop} (hp : retF ev sc ρ μ e post) (k1 : ∀ x p, retF ev sc ρ μ (.Name x p) post → Q (.Name x p)) (k2 : ∀ e, (ev sc ρ e fun d => post (.ret d) ρ μ) → Q e) : Q e := by
  cases e with
  | Name x p => exact k1 x p hp
  | _ => exact k2 _ hp
theorem ret_inv (hp : retF ev sc ρ μ e post) : (∃ x p, e = .Name x p ∧ retF ev sc ρ μ (.Name x p) post) ∨ (ev sc ρ e fun d => post (.ret d) ρ μ) :=
  ret_el (Q := fun e => (∃ x p, e = .Name x p ∧ retF ev sc ρ μ (.Name x p) post) ∨ (ev sc ρ e fun d => post (.ret d) ρ μ)) hp (fun x p h => .inl ⟨x, p, rfl, h⟩) (fun _ h => .inr h)
theorem asN_el {Q : Expr → Prop} {x : Str} (hp : asN ev sc ρ μ x e post) (k1 : ∀ p, asN ev sc ρ μ x (.List [] p) post → Q (.List [] p)) (k2 : ∀ p, asN ev sc ρ μ x (.Dict [] [] p) post → Q (.Dict [] [] p))
    (k3 : ∀ e, (ev sc ρ e fun d => notMu x μ ∧ post .next (setR ρ x d) μ) → Q e) : Q e := by
  cases e with
  | List es p =>
    cases es with
    | nil => exact k1 p hp
    | cons _ _ => exact k3 _ hp
  | Dict ks vs p =>
    cases ks with
    | nil =>
      cases vs with
      | nil => exact k2 p hp
      | cons _ _ => exact k3 _ hp
    | cons _ _ => exact k3 _ hp
  | _ => exact k3 _ hp
theorem asN_inv {x : Str} (hp : asN ev sc ρ μ x e post) : (∃ p, e = .List [] p ∧ asN ev sc ρ μ x (.List [] p) post) ∨ (∃ p, e = .Dict [] [] p ∧ asN ev sc ρ μ x (.Dict [] [] p) post) ∨ (ev sc ρ e fun d => notMu x μ ∧ post .next (setR ρ x d) μ) :=
  asN_el (Q := fun e => (∃ p, e = .List [] p ∧ asN ev sc ρ μ x (.List [] p) post) ∨ (∃ p, e = .Dict [] [] p ∧ asN ev sc ρ μ x (.Dict [] [] p) post) ∨ (ev sc ρ e fun d => notMu x μ ∧ post .next (setR ρ x d) μ)) hp
    (fun p h => .inl ⟨p, rfl, h⟩) (fun p h => .inr (.inl ⟨p, rfl, h⟩)) (fun _ h => .inr (.inr h))
theorem two_inv {P : Expr → Expr → Prop} (hp : match es with | [a, b] => P a b | _ => False) : ∃ a b, es = [a, b] ∧ P a b := by
  cases es with
  | nil => exact False.elim hp
  | cons a es =>
    cases es with
    | nil => exact False.elim hp
    | cons b es =>
      cases es with
      | nil => exact ⟨a, b, rfl, hp⟩
      | cons _ _ => exact False.elim hp
theorem forP_inv (hp : forP ev sc sts ρ μ es it body post) : ∃ x p y q, es = [.Name x p, .Name y q] ∧ forT ev sc sts ρ μ x y it body post := by
  obtain ⟨a, b, rfl, h⟩ := two_inv (es := es) (P := fun a b => match nmOf a, nmOf b with | some x, some y => forT ev sc sts ρ μ x y it body post | _, _ => False) hp
  obtain ⟨x, p, y, q, rfl, rfl, h⟩ := nm2_inv (P := fun x y => forT ev sc sts ρ μ x y it body post) h
  exact ⟨x, p, y, q, rfl, h⟩
theorem ifIn_el {Q : Expr → Prop} (hp : ifIn ev sc sts ρ μ t b c post) (k1 : ∀ l ops rs q, ifIn ev sc sts ρ μ (.Compare l ops rs q) b c post → Q (.Compare l ops rs q)) (k2 : ∀ t, plainIf ev sc sts ρ μ t b c post → Q t) : Q t := by
  cases t with
  | Compare l ops rs q => exact k1 l ops rs q hp
  | _ => exact k2 _ hp
theorem ifIn_inv (hp : ifIn ev sc sts ρ μ t b c post) : (∃ l rs q, t = .Compare l [.In] rs q ∧ inF sts ρ μ l rs b c post) ∨ plainIf ev sc sts ρ μ t b c post := by
  refine ifIn_el (Q := fun t => (∃ l rs q, t = .Compare l [.In] rs q ∧ inF sts ρ μ l rs b c post) ∨ plainIf ev sc sts ρ μ t b c post) hp (fun l ops rs q hp => ?_) (fun _ h => .inr h)
  replace hp : (match isIn ops with | true => inF sts ρ μ l rs b c post | false => plainIf ev sc sts ρ μ (.Compare l ops rs q) b c post) := hp
  cases hi : isIn ops with
  | true =>
    rw [hi] at hp
    obtain rfl := isIn_inv hi
    exact .inl ⟨l, rs, q, rfl, hp⟩
  | false =>
    rw [hi] at hp
    exact .inr hp
end

set_option maxHeartbeats 1000000 in
theorem stF_snd {nm : List Str} {Φ : Tab} {k : Nat} (hc : Calls prog w C fa X n nm Φ) {sts : Sts} {oks : List Stmt → Bool} (hs : StsOk prog w C fa X n sc sts oks) :
    StOk prog w C fa X n sc (stF (evalW Φ k) sc sts) (okSF (okE nm k) sc oks) := by
  intro ρ μ b post hp hok A env σ₀ κ σ s Q E R f m hQ
  have hev := evalW_snd hc k
  cases b with
  | Assign ts e p =>
    replace hp : asF (evalW Φ k) sc ρ μ ts e post := hp
    unfold asF at hp
    split at hp
    case h_2 => exact hp.elim
    rename_i t
    replace hp := as1_inv hp
    rcases hp with ⟨x, xp, rfl, hp⟩ | ⟨es, kk, tp, rfl, hp⟩ | ⟨a, i, sp, rfl, hp⟩
    · have ho := as_ok hok
      replace hp := asN_inv hp
      rcases hp with ⟨lp, rfl, hp⟩ | ⟨lp, rfl, hp⟩ | hp
      · exact new0 hc (tg_one ho.1) ho.2.1 R f m hp hQ
      · exact newD0 hc (tg_one ho.1) ho.2.1 R f m hp hQ
      · exact assign_snd hc (tg_one ho.1) ho.2.1 ho.2.2.2 R f m hp hQ
    · have ho := as_ok hok
      rcases hp with ⟨x, p1, y, p2, rfl, hp⟩ | ⟨x, p1, y, p2, z, p3, rfl, hp⟩
      · have hn := pair_ok (tg_one ho.1)
        exact asTup_snd hc ho.2.1 ho.2.2.1 R f hp fun d hd v σ₁ h₁ t₁ n₁ r₁ => unpack_pair (s := { s with heap := h₁, toks := t₁ }) R (f.next n₁) (m.next n₁) hn.1 hn.2 hd.1 r₁ hd.2 fun ρ' h2 h₂ t₂ f₂ m₂ => hQ.next h2 n₁.le f₂ m₂
      · have hn := three_ok (tg_one ho.1)
        refine asTup_snd hc ho.2.1 ho.2.2.1 R f hp fun d hd v σ₁ h₁ t₁ n₁ r₁ => ?_
        obtain ⟨hm, da, db, dc, rfl, hd⟩ := hd
        exact unpack_three (s := { s with heap := h₁, toks := t₁ }) R (f.next n₁) (m.next n₁) hn.1 hn.2.1 hn.2.2 hm r₁ fun h₂ t₂ f₂ m₂ => hQ.next hd n₁.le f₂ m₂
    · unfold asS at hp
      replace hp := nm3_inv (P := _) hp
      obtain ⟨x, p1, y, p2, z, p3, rfl, rfl, rfl, hp⟩ := hp
      replace hp := mud_inv hp
      obtain ⟨my, mk, rfl, hx, hp⟩ := hp
      subst hx
      replace hp := rr_inv hp
      obtain ⟨_, _, h1, h2, hp⟩ := hp
      exact put_snd (tg_one (Bool.and_eq_true_iff.mp hok).1) f m h1 h2 hp.1 hp.2 hQ
  | AugAssign t op e p =>
    have ho := Bool.and_eq_true_iff.mp hok
    replace hp : augO (evalW Φ k) sc ρ μ t op e post := hp
    unfold augO at hp
    split at hp
    case h_2 => exact hp.elim
    replace hp := augF_inv hp
    rcases hp with ⟨x, xp, rfl, hp⟩ | ⟨a, i, sp, rfl, hp⟩
    · unfold augN at hp
      split at hp
      · rename_i hx
        exact aug_snd hc ho.1 ho.2 R f m hx hp hQ
      · exact hp.elim
    · unfold augS at hp
      replace hp := nm3_inv (P := _) hp
      obtain ⟨x, p1, y, p2, z, p3, rfl, rfl, rfl, hp⟩ := hp
      replace hp := mud_inv hp
      obtain ⟨my, mk, rfl, hx, hp⟩ := hp
      subst hx
      replace hp := rr_inv hp
      obtain ⟨_, _, h1, h2, hp⟩ := hp
      split at hp
      · rename_i hu
        exact augput_snd ho.1 f m h1 h2 hu hp.1 hp.2 hQ
      · exact hp.elim
  | For t it body orelse p =>
    replace hp : forO (evalW Φ k) sc sts ρ μ t it body orelse post := hp
    unfold forO at hp
    split at hp
    case h_2 => exact hp.elim
    have ho := for_ok hok
    replace hp := forF_inv hp
    rcases hp with ⟨x, xp, rfl, hp⟩ | ⟨es, kk, tp, rfl, hp⟩
    · unfold forN at hp
      split at hp
      · rename_i dm hf
        obtain ⟨dd, dn⟩ := dm
        obtain ⟨p1, p2, p3, rfl⟩ := feedOf_inv hf
        split at hp
        · rename_i hd
          obtain ⟨hm, hp⟩ := hp
          replace hm : dn = _ := hm
          subst hm
          obtain ⟨e1, e2, v, hv, hr⟩ := f.ok.vars _ _ hd
          exact forD_snd (turn_name hs ho.1 ho.2.2) R f m hQ (fun hq => values_feed R f.ok.sub hr rfl ho.2.1 (fun Q' q => eval_at f.ok.stat e1 e2 hv q) hq) hp
        · exact hp.elim
      · rename_i hn
        have hi := forIt_ok ho.2.1 hn
        exact forE_snd hc (turn_name hs ho.1 ho.2.2) hi.1 hi.2 R f m hp hQ
    · replace hp := forP_inv hp
      obtain ⟨x, p1, y, p2, rfl, hp⟩ := hp
      have hn := pair_ok ho.1
      unfold forT at hp
      split at hp
      · rename_i dm hf
        obtain ⟨dd, dn⟩ := dm
        obtain ⟨p1, p2, p3, rfl⟩ := feedOf_inv hf
        split at hp
        · rename_i hd
          obtain ⟨hm, hp⟩ := hp
          replace hm : dn = _ := hm
          subst hm
          obtain ⟨e1, e2, v, hv, hr⟩ := f.ok.vars _ _ hd
          exact forD_snd (turn_pair hs hn.1 hn.2 ho.2.2) R f m hQ (fun hq => items_feed R f.ok.sub hr rfl ho.2.1 (fun Q' q => eval_at f.ok.stat e1 e2 hv q) hq) hp
        · exact hp.elim
      · rename_i hf
        have hi := forIt_ok ho.2.1 hf
        exact forE_snd hc (turn_pair hs hn.1 hn.2 ho.2.2) hi.1 hi.2 R f m hp hQ
  | While t body orelse p =>
    have ho := Bool.and_eq_true_iff.mp hok
    replace hp : whO (evalW Φ k) sc sts ρ μ t body orelse post := hp
    unfold whO at hp
    split at hp
    case h_2 => exact hp.elim
    obtain ⟨i, hp⟩ := hp
    exact while_snd hc hs ho.1 ho.2 R f m hp hQ
  | If t a b p =>
    have ho := Bool.and_eq_true_iff.mp hok
    have ho2 := Bool.and_eq_true_iff.mp ho.2
    have ho3 := Bool.and_eq_true_iff.mp ho2.2
    have ho4 := Bool.and_eq_true_iff.mp ho3.2
    replace hp : ifF (evalW Φ k) sc sts ρ μ t a b post := hp
    unfold ifF at hp
    split at hp
    · rename_i xc hcl
      obtain ⟨cx, cc⟩ := xc
      obtain ⟨p1, kk, p2, p3, rfl, rfl⟩ := clampOf_inv hcl
      split at hp
      · rename_i hy
        exact flt_snd hc ho4.2 ho.1 R f m hy hp hQ
      · exact hp.elim
    · have plain : ∀ {t : PySem.Expr} {a b : List Stmt} {p : Pos}, plainIf (evalW Φ k) sc sts ρ μ t a b post → okT (okE nm k) sc t = true → oks a = true → oks b = true → wpAny (model prog w) A (exec (.If t a b p) env) Q E s := fun hp k1 k2 k3 => by
        refine wpAny_If (test_snd hev R f.ok k1 hp fun b hb σ₁ h₁ t₁ n₁ => ?_)
        cases b with
        | true => exact hs _ _ _ _ (hb.1 rfl) k2 (s := { s with heap := h₁, toks := t₁ }) R (f.next n₁) (m.next n₁) (hQ.mono (fun _ _ _ e => e) n₁.le)
        | false => exact hs _ _ _ _ (hb.2 rfl) k3 (s := { s with heap := h₁, toks := t₁ }) R (f.next n₁) (m.next n₁) (hQ.mono (fun _ _ _ e => e) n₁.le)
      replace hp := ifIn_inv hp
      rcases hp with ⟨l, rs, q, rfl, hp⟩ | hp
      · unfold inF at hp
        split at hp
        case h_2 => exact hp.elim
        rename_i nb
        replace hp := nm2_inv (P := _) hp
        obtain ⟨x, p1, y, p2, rfl, rfl, hp⟩ := hp
        replace hp := mud_inv hp
        obtain ⟨my, mk, rfl, hx, hp⟩ := hp
        subst hx
        split at hp
        · rename_i hk
          exact in_snd hs ho4.1 ho2.1 ho3.1 R f m hk hp hQ
        · exact hp.elim
      · exact plain hp ho.1 ho2.1 ho3.1
  | Return e p =>
    replace hp : retO (evalW Φ k) sc ρ μ e post := hp
    unfold retO at hp
    split at hp
    case h_2 => exact hp.elim
    have ho := Bool.and_eq_true_iff.mp hok
    replace hp := ret_inv hp
    rcases hp with ⟨x, xp, rfl, hp⟩ | hp
    · unfold retF at hp
      dsimp only at hp
      split at hp
      · rename_i hx
        exact wpAny_Return_some (name_snd f.ok hx (post := fun d => d = _) rfl fun d hd v σ₁ h₁ t₁ n₁ r₁ => hQ _ _ _ hp _ _ _ n₁.le v (hd ▸ (f.next n₁).ret r₁))
      · split at hp
        · obtain ⟨rfl, hp⟩ := hp
          exact ret_mu ho.2 f m hp hQ
        · exact hp.elim
    · exact wpAny_Return_some (hev _ _ _ _ hp ho.1 R f.ok fun d hd v σ₁ h₁ t₁ n₁ r₁ => hQ _ _ _ hd _ _ _ n₁.le v ((f.next n₁).ret r₁))
  | Expr e p =>
    replace hp : exF (evalW Φ k) sc ρ μ e post := hp
    replace hp := exF_inv hp
    obtain ⟨fe, xe, pe, rfl, hp⟩ := hp
    unfold appF at hp
    split at hp
    case h_2 => exact hp.elim
    rename_i xm hx
    obtain ⟨xn, xa⟩ := xm
    obtain ⟨p1, p2, rfl⟩ := attNm_inv hx
    replace hp := mul_inv hp
    obtain ⟨my, mk, rfl, ⟨hy, hz⟩, hp⟩ := hp
    replace hy : xn = _ := hy
    replace hz : xa = _ := hz
    subst hy hz
    exact append_snd hc hok R f m hp hQ
  | Break p =>
    replace hp : post .brk ρ μ := hp
    exact wpAny_Break (hQ _ _ _ hp _ s.heap s.toks (.refl _) f m)
  | _ => exact False.elim hp

theorem stW_snd {nm : List Str} {Φ : Tab} {k : Nat} (hc : Calls prog w C fa X n nm Φ) : ∀ j, StOk prog w C fa X n sc (stW (evalW Φ k) sc j) (okS (okE nm k) sc j)
  | 0 => fun _ _ _ _ hp => hp.elim
  | j + 1 => stF_snd hc (sts_snd (stW_snd hc j))
end
end Mine.Internal

namespace Mine.Internal

noncomputable def FnAt (h : Heap) (a : Addr) (scope : Scope) (body : List Stmt) (ps : List Str) : Prop :=
  ∃ o fd, h.get? a = some o ∧ o.data = .func fd ∧ fd.scope = scope ∧ fd.body = .stmts body ∧ fd.closure = [] ∧ fd.globals = mainGlobals ∧ fd.builtins = builtinsNs ∧ h.CodeRec fd.code fd.qualname ∧
    ∀ vals : List Value, vals.length = ps.length → bindArgs fd ⟨vals, []⟩ = pure (ps.zip vals)

noncomputable def scFn (sc : Scope) (ps : List Str) : Bool :=
  sc.kind == .function && (!sc.isCoroutine && (!sc.isGenerator && (decide (sc.names.map (·.1)).Nodup && (sc.names.all (fun p => p.2 != .free) && (ps.all (nameOk sc.names) && decide ps.Nodup)))))

theorem bindL_out {kindOf : Str → Option NameKind} {x : Str} : ∀ (binds : List (Str × Value)) (m : Str → Option Value), x ∉ binds.map (·.1) → bindL kindOf binds m x = m x
  | [], _, _ => rfl
  | (n, v) :: r, m, h => by
    simp only [List.map_cons, List.mem_cons, not_or] at h
    unfold bindL
    rw [bindL_out r _ h.2]
    split
    · exact if_neg h.1
    · rfl
theorem bindL_in {kindOf : Str → Option NameKind} {x : Str} {v : Value} : ∀ (binds : List (Str × Value)) (m : Str → Option Value), (binds.map (·.1)).Nodup → (x, v) ∈ binds → kindOf x = some .local → bindL kindOf binds m x = some v
  | [], _, _, h, _ => nomatch h
  | (n, u) :: r, m, hn, h, hk => by
    simp only [List.map_cons, List.nodup_cons] at hn
    unfold bindL
    rcases List.mem_cons.mp h with e | e
    · cases e
      rw [bindL_out r _ hn.1, if_pos hk]
      exact if_pos rfl
    · exact bindL_in r _ hn.2 e hk
theorem bindC_out {kindOf : Str → Option NameKind} {x : Str} : ∀ (binds : List (Str × Value)) (m : Str → Option Value), x ∉ binds.map (·.1) → bindC kindOf binds m x = m x
  | [], _, _ => rfl
  | (n, v) :: r, m, h => by
    simp only [List.map_cons, List.mem_cons, not_or] at h
    unfold bindC
    rw [bindC_out r _ h.2]
    split
    · rfl
    · exact if_neg h.1
theorem bindC_in {kindOf : Str → Option NameKind} {x : Str} {v : Value} : ∀ (binds : List (Str × Value)) (m : Str → Option Value), (binds.map (·.1)).Nodup → (x, v) ∈ binds → kindOf x ≠ some .local → bindC kindOf binds m x = some v
  | [], _, _, h, _ => nomatch h
  | (n, u) :: r, m, hn, h, hk => by
    simp only [List.map_cons, List.nodup_cons] at hn
    unfold bindC
    rcases List.mem_cons.mp h with e | e
    · cases e
      rw [bindC_out r _ hn.1, if_neg hk]
      exact if_pos rfl
    · exact bindC_in r _ hn.2 e hk

section
variable {prog : Program} {w : World} {C : Addr} {fa : Str → Option Addr} {X : Heap → Prop} {A : Around} {E : Value → Shared → Prop} {s : Shared}
  {σ₀ κ σ σ' : Sg} {h h' : Heap} {env : Env} {sc : Names} {ρ : Rho} {a : Addr} {n : Nat} {ds : List D}

theorem bindR_mem {x : Str} {d : D} : ∀ {ps : List Str} {vs : List Value} {ds : List D}, RpL prog w C σ vs ds → ps.length = ds.length → bindR (ps.zip ds) x = some d → ∃ v, (x, v) ∈ ps.zip vs ∧ Rp prog w C σ v d
  | [], _, _, _, _, h => by cases h
  | p :: ps, vs, ds, r, hl, h => by
    cases r with
    | nil => cases hl
    | @cons v vs d' ds a r =>
      simp only [List.zip_cons_cons, bindR] at h
      split at h
      · rename_i e
        cases h; subst e
        exact ⟨v, List.mem_cons_self, a⟩
      · obtain ⟨u, h1, h2⟩ := bindR_mem r (by simpa using hl) h
        exact ⟨u, List.mem_cons_of_mem _ h1, h2⟩

theorem zip_names {ps : List Str} {vs : List Value} (h : ps.length = vs.length) : (ps.zip vs).map (·.1) = ps := by
  rw [List.map_fst_zip]; omega

theorem Room.down {env : Env} (R : Room (n + 1) A) : Room n (A.deeper env) :=
  ⟨R.handled, by have := R.depth; show A.depth + 1 + n < _; omega, by have := R.units; show A.units + 3 + 16 * n + 200 < _; omega⟩

theorem frame_start {scope : Scope} {ps : List Str} {vs : List Value} {L : Addr} {env : Env} {s₁ : Shared} (hst : scFn scope ps = true) (hs : SubH σ s.heap) (wd : Wd fa X s.heap) (r : RpL prog w C σ vs ds) (hlen : ps.length = ds.length)
    (he : env.scope = scope) (hg : env.globals = mainGlobals) (hb : env.builtins = builtinsNs) (hL : s.heap.objs.size = env.locals) (hcl : env.cells = cellsFrom (env.locals + 1) scope.names [])
    (x : InCallC s env.locals (bindL env.kindOf (ps.zip vs) fun _ => none) env.cells (bindC env.kindOf (ps.zip vs) fun _ => none) s₁) :
    FS prog w C fa X σ (fun b => s.heap.get? b) σ s₁.heap env scope.names (bindR (ps.zip ds)) := by
  unfold scFn at hst
  simp only [Bool.and_eq_true, Bool.not_eq_true', beq_iff_eq, decide_eq_true_eq, List.all_eq_true] at hst
  obtain ⟨hkind, _, _, hnd, hfree, hps, hpn⟩ := hst
  have hk : Kept s.heap s₁.heap := x.toInCall.keep
  have hfr : s.heap.get? env.locals = none := by rw [← hL]; exact get?_size _
  have kind : ∀ y, env.kindOf y = scope.names.lookup y := fun y => by unfold Env.kindOf; rw [he]
  have nofree : ∀ y, scope.names.lookup y ≠ some .free := fun y e => by
    have := hfree _ (mem_of_lookup e)
    simp at this
  have cellIs : ∀ y, scope.names.lookup y = some .cell → ∃ c, env.cells.lookup y = some c := fun y e => by
    obtain ⟨c, hc⟩ := Option.isSome_iff_exists.mp (cellsFrom_some scope.names (env.locals + 1) (mem_of_lookup e))
    exact ⟨c, by rw [hcl]; exact hc⟩
  have hvl : ps.length = vs.length := by rw [r.length]; exact hlen
  refine ⟨⟨hs.keep hk, wd.keep hk, ⟨by rw [he]; exact hkind, hg, hb, fun y e => by rw [kind, e], fun y e => by rw [kind, e], fun y e => by rw [kind, e]; exact .inl rfl, fun y e => by rw [kind, e]⟩, fun y hy => ?_, fun y d hy => ?_⟩,
    .refl _, fun b o e => hk b o e, ⟨s.heap, wd, fun _ _ e => e⟩, fun b e _ => e, ⟨_, x.toInCall.ns⟩, hfr, none_of_sub hs hfr, fun y hy => ?_⟩
  · rcases hy with hy | hy
    · obtain ⟨c, hc⟩ := cellIs y hy
      exact ⟨c, _, hc, x.cell y c hc⟩
    · exact absurd hy (nofree y)
  · obtain ⟨v, hm, hr⟩ := bindR_mem r hlen hy
    have hyp : y ∈ ps := by
      have := List.mem_map_of_mem (f := (·.1)) hm
      rw [zip_names hvl] at this; exact this
    have hno := hps y hyp
    refine ⟨(nameOk_ne hno).1, (nameOk_ne hno).2, v, ?_, hr⟩
    have hown := nameOk_own hno
    unfold ownName at hown
    have hz : ((ps.zip vs).map (·.1)).Nodup := by rw [zip_names hvl]; exact hpn
    rcases Bool.or_eq_true_iff.mp hown with e | e
    · have e := beq_iff_eq.mp e
      have hkk : env.kindOf y = some .local := by rw [kind, e]
      exact .inl ⟨hkk, _, x.toInCall.ns, bindL_in _ _ hz hm hkk⟩
    · have e := beq_iff_eq.mp e
      have hkk : env.kindOf y = some .cell := by rw [kind, e]
      obtain ⟨c, hc⟩ := cellIs y e
      refine .inr ⟨.inl hkk, c, hc, ?_⟩
      have := x.cell y c hc
      rw [bindC_in _ _ hz hm (by rw [hkk]; decide)] at this
      exact this
  · obtain ⟨c, hc⟩ := cellIs y hy
    have habove := x.above y c (mem_of_lookup hc)
    have hcn : s.heap.get? c = none := by
      cases q : s.heap.get? c with
      | none => rfl
      | some o => have := Heap.lt_size q; rw [hL] at this; exact absurd (Nat.lt_trans habove this) (Nat.lt_irrefl _)
    exact ⟨c, _, hc, x.cell y c hc, hcn, none_of_sub hs hcn, fun z hz => name_of_addr x.apart (mem_of_lookup hz) (mem_of_lookup hc)⟩

theorem def_snd {nm : List Str} {Φ : Tab} (hc : Calls prog w C fa X n nm Φ) {scope : Scope} {body : List Stmt} {ps : List Str} (hX : ∀ h, Wd fa X h → FnAt h a scope body ps) (hst : scFn scope ps = true)
    (hok : okSs (okS (okE nm 30) scope.names 10) body = true) : Fn1 prog w C fa X (n + 1) a (fun ds post => fnW Φ scope.names ps body ds post) where
  keep := fun h hw => by
    obtain ⟨o, fd, ho, hd, _⟩ := hX h hw
    refine ⟨.frame, .inl rfl, (Looks.ld (part := none) ho).andThen ?_⟩
    rw [hd]
    exact .now
  go := fun {A E Q s σ vs ds post} R hs wd r hp hQ => by
    obtain ⟨hlen, hp⟩ := hp
    obtain ⟨o, fd, ho, hd, hsc, hbody, hclo, hglob, hbuilt, hcode, hbind⟩ := hX _ wd
    have hst' := hst
    unfold scFn at hst'
    simp only [Bool.and_eq_true, Bool.not_eq_true', beq_iff_eq, decide_eq_true_eq, List.all_eq_true] at hst'
    obtain ⟨hkind, hco, hgen, hnd, hfree, hps, hpn⟩ := hst'
    have hvl : ps.length = vs.length := by rw [r.length]; exact hlen
    refine wpAny_call (codeAny_call_cells (by have := R.depth; omega) ho hd wd.lim hcode hbody (hbind vs hvl.symm) hclo (fun x hx => ?_) (fun s₁ x => ?_) (by rw [hsc]; exact hco) (by rw [hsc]; exact hgen) (by rw [hsc]; exact hkind))
    · have hxp : x.1 ∈ ps := by
        have := List.mem_map_of_mem (f := (·.1)) hx
        rw [zip_names hvl] at this; exact this
      have hown := nameOk_own (hps _ hxp)
      unfold ownName at hown
      rw [hsc]
      rcases Bool.or_eq_true_iff.mp hown with e | e
      · exact .inl (beq_iff_eq.mp e)
      · exact .inr ⟨beq_iff_eq.mp e, cellsFrom_some _ _ (mem_of_lookup (beq_iff_eq.mp e))⟩
    · have f := frame_start (prog := prog) (w := w) (C := C) (env := callEnvC fd s.heap.objs.size a) (L := s.heap.objs.size) hst hs wd r hlen hsc hglob hbuilt rfl (by rw [← hsc]; rfl) x
      have hx := x
      obtain ⟨h₁, tk₁, rfl⟩ := x.toInCall.same
      refine sts_snd (stW_snd hc 10) _ _ _ _ hp hok (s := { s with heap := h₁, toks := tk₁ }) R.down f trivial fun fl ρ' μ' h2 σ' h' tk le => ?_
      cases fl with
      | next => exact h2.elim
      | brk => exact h2.elim
      | ret d =>
        intro v hv
        exact hQ d h2 v σ' h' tk ⟨hv.le0, hv.sub, hv.pi, fun b e hs => hv.nf b e hs⟩ hv.rp
end
end Mine.Internal

namespace Mine.Internal

theorem strEq (a b : String) : (Str.ofString a = Str.ofString b) = (a = b) := by
  refine propext ⟨fun h => ?_, fun h => by rw [h]⟩
  rw [Str.ofString_eq_toList, Str.ofString_eq_toList] at h
  have h1 : a.toList.map Char.toNat = b.toList.map Char.toNat := by
    have := congrArg (fun s : Str => s.cps.toList) h
    simpa using this
  have inj : ∀ c d : Char, c.toNat = d.toNat → c = d := fun c d e => by
    have : c.val = d.val := UInt32.toNat.inj e
    exact Char.ext this
  have h2 : a.toList = b.toList := by
    have go : ∀ xs ys : List Char, xs.map Char.toNat = ys.map Char.toNat → xs = ys := by
      intro xs
      induction xs with
      | nil => intro ys e; cases ys with | nil => rfl | cons _ _ => cases e
      | cons x xs ih =>
        intro ys e
        cases ys with
        | nil => cases e
        | cons y ys =>
          simp only [List.map_cons, List.cons.injEq] at e
          rw [inj _ _ e.1, ih _ e.2]
    exact go _ _ h1
  exact String.toList_inj.mp h2
theorem strBeq (a b : String) : (Str.ofString a == Str.ofString b) = decide (a = b) := by
  by_cases h : a = b
  · subst h; simp
  · have : Str.ofString a ≠ Str.ofString b := fun e => h (by rwa [strEq] at e)
    rw [beq_eq_false_iff_ne.mpr this]; simp [h]

noncomputable def nameW (ρ : Rho) (x : Str) (post : D → Prop) : Prop := match ρ x with | some d => post d | none => False
theorem n_here {ρ : Rho} {x y : Str} {d : D} {post : D → Prop} (h : x = y) : nameW (setR ρ y d) x post = post d := by
  unfold nameW setR; simp only [if_pos h]
theorem n_off {ρ : Rho} {x y : Str} {d : D} {post : D → Prop} (h : x ≠ y) : nameW (setR ρ y d) x post = nameW ρ x post := by
  unfold nameW setR; simp only [if_neg h]
theorem n_none {ρ : Rho} {x y : Str} {post : D → Prop} (h : x ≠ y) : nameW (noneR ρ y) x post = nameW ρ x post := by
  unfold nameW noneR; simp only [if_neg h]
theorem n_bindHere {r : List (Str × D)} {x y : Str} {d : D} {post : D → Prop} (h : x = y) : nameW (bindR ((y, d) :: r)) x post = post d := by
  show (match (if x = y then some d else bindR r x) with | some d => post d | none => False) = _
  rw [if_pos h]
theorem n_bindOff {r : List (Str × D)} {x y : Str} {d : D} {post : D → Prop} (h : x ≠ y) : nameW (bindR ((y, d) :: r)) x post = nameW (bindR r) x post := by
  show (match (if x = y then some d else bindR r x) with | some d => post d | none => False) = _
  rw [if_neg h]; rfl
theorem n_inner {sc : Names} {ρ : Rho} {x : Str} {post : D → Prop} (h : sc.lookup x = some .free) : nameW (inner sc ρ) x post = nameW ρ x post := by
  unfold nameW inner; rw [h]

noncomputable def retW (ρ : Rho) (μ : Mu) (x : Str) (post : D → Prop) : Prop := match ρ x with
  | some d => post d
  | none => match μ with
    | some (y, d) => x = y ∧ post d
    | none => False
theorem r_here {ρ : Rho} {μ : Mu} {x y : Str} {d : D} {post : D → Prop} (h : x = y) : retW (setR ρ y d) μ x post = post d := by
  unfold retW setR; simp only [if_pos h]
theorem r_off {ρ : Rho} {μ : Mu} {x y : Str} {d : D} {post : D → Prop} (h : x ≠ y) : retW (setR ρ y d) μ x post = retW ρ μ x post := by
  unfold retW setR; simp only [if_neg h]
theorem r_mu {ρ : Rho} {x y z : Str} {d : D} {post : D → Prop} (h : x = y) (h2 : x = z) : retW (noneR ρ y) (some (z, d)) x post = post d := by
  subst h2; subst h
  unfold retW noneR
  show (match (if x = x then none else ρ x) with | some d => post d | none => x = x ∧ post d) = _
  rw [if_pos rfl]
  simp
theorem is_F {y k} : isF (.flt y) k = k y := propext Iff.rfl
theorem is_I {y k} : isI (.int y) k = k y := propext Iff.rfl
theorem is_K {y k} : isK (.dict y) k = k y := propext Iff.rfl

section
variable {Φ : Tab} {n : Nat} {sc : Names} {ρ : Rho} {post : D → Prop}
theorem e_int {i k p} : evalW Φ (n + 1) sc ρ (.Constant (.int i) k p) post = post (.int i) := propext Iff.rfl
theorem e_flt {i k p} : evalW Φ (n + 1) sc ρ (.Constant (.float i) k p) post = post (.flt i) := propext Iff.rfl
theorem e_str {i k p} : evalW Φ (n + 1) sc ρ (.Constant (.str i) k p) post = post (.str i) := propext Iff.rfl
theorem e_byt {i k p} : evalW Φ (n + 1) sc ρ (.Constant (.bytes i) k p) post = post (.byt i) := propext Iff.rfl
theorem e_bool {i k p} : evalW Φ (n + 1) sc ρ (.Constant (.bool i) k p) post = post (.bool i) := propext Iff.rfl
theorem e_name {x p} : evalW Φ (n + 1) sc ρ (.Name x p) post = nameW ρ x post := propext Iff.rfl
theorem e_bin {l op r p} : evalW Φ (n + 1) sc ρ (.BinOp l op r p) post = evalW Φ n sc ρ l fun a => evalW Φ n sc ρ r fun b => binW op a b post := propext Iff.rfl
theorem e_neg {x p} : evalW Φ (n + 1) sc ρ (.UnaryOp .USub x p) post = evalW Φ n sc ρ x fun a => match a with | .int i => post (.int (-i)) | _ => False := propext Iff.rfl
theorem e_list {es p} : evalW Φ (n + 1) sc ρ (.List es p) post = listW (evalW Φ n) sc ρ es fun ds => ds.length ≤ 1000000 ∧ post (.list ds) := propext Iff.rfl
theorem e_tup {es k p} : evalW Φ (n + 1) sc ρ (.Tuple es k p) post = listW (evalW Φ n) sc ρ es fun ds => ds.length ≤ 1000000 ∧ post (.tup ds) := propext Iff.rfl
theorem e_dict0 {p} : evalW Φ (n + 1) sc ρ (.Dict [] [] p) post = post (.dict []) := propext Iff.rfl
theorem e_dict1 {k v p} : evalW Φ (n + 1) sc ρ (.Dict [some k] [v] p) post = evalW Φ n sc ρ k fun a => evalW Φ n sc ρ v fun b => match a, b with | .int k, .int v => post (.dict [(k, v)]) | _, _ => False := propext Iff.rfl
theorem e_cmp {l op r p} : evalW Φ (n + 1) sc ρ (.Compare l [op] [r] p) post = evalW Φ n sc ρ l fun a => evalW Φ n sc ρ r fun b => cmpW op a b fun c => post (.bool c) := propext Iff.rfl
theorem e_and {x y p} : evalW Φ (n + 1) sc ρ (.BoolOp .And [x, y] p) post = evalW Φ n sc ρ x fun a => match a with
      | .bool b => (b = true → evalW Φ n sc ρ y post) ∧ (b = false → post (.bool false))
      | _ => False := propext Iff.rfl
theorem e_slice {a lo hi st q p} : evalW Φ (n + 1) sc ρ (.Subscript a (.Slice lo hi st q) p) post = evalW Φ n sc ρ a fun d => optW (evalW Φ n) sc ρ lo fun l => optW (evalW Φ n) sc ρ hi fun h => optW (evalW Φ n) sc ρ st fun t => sliceW d l h t post := propext Iff.rfl
theorem e_sub1 {a x q p} : evalW Φ (n + 1) sc ρ (.Subscript a (.Name x q) p) post = evalW Φ n sc ρ a fun d => evalW Φ n sc ρ (.Name x q) fun k => itemW d k post := propext Iff.rfl
theorem e_sub2 {a c k q p} : evalW Φ (n + 1) sc ρ (.Subscript a (.Constant c k q) p) post = evalW Φ n sc ρ a fun d => evalW Φ n sc ρ (.Constant c k q) fun k => itemW d k post := propext Iff.rfl
theorem e_sub3 {a op x q p} : evalW Φ (n + 1) sc ρ (.Subscript a (.UnaryOp op x q) p) post = evalW Φ n sc ρ a fun d => evalW Φ n sc ρ (.UnaryOp op x q) fun k => itemW d k post := propext Iff.rfl
theorem e_sub4 {a b i r p} : evalW Φ (n + 1) sc ρ (.Subscript a (.Subscript b i r) p) post = evalW Φ n sc ρ a fun d => evalW Φ n sc ρ (.Subscript b i r) fun k => itemW d k post := propext Iff.rfl
theorem e_att {a p} : evalW Φ (n + 1) sc ρ (.Attribute a "comp_select_list" p) post = evalW Φ n sc ρ a fun d => match d with | .duel d => post d | _ => False := by
  show (if ("comp_select_list" : Str) = "comp_select_list" then (evalW Φ n sc ρ a fun d => match d with | .duel d => post d | _ => False) else False) = _
  rw [if_pos rfl]
theorem e_meth {o m ap args p} : evalW Φ (n + 1) sc ρ (.Call (.Attribute o m ap) args [] p) post = evalW Φ n sc ρ o fun d => methPre m d ∧ listW (evalW Φ n) sc ρ args fun ds => methW Φ d ds post := propext Iff.rfl
theorem e_call {f : Str} {q args p} (h : f ≠ "isinstance") : evalW Φ (n + 1) sc ρ (.Call (.Name f q) args [] p) post = listW (evalW Φ n) sc ρ args fun ds => callW Φ f ds post := by
  show (if f = "isinstance" then isiE (evalW Φ n) sc ρ post args else listW (evalW Φ n) sc ρ args fun ds => callW Φ f ds post) = _
  rw [if_neg h]
theorem e_isi {a q r p} : evalW Φ (n + 1) sc ρ (.Call (.Name "isinstance" q) [a, .Name "tuple" r] [] p) post = evalW Φ n sc ρ a fun d => match d with | .int _ => post (.bool false) | _ => False := by
  show (if ("isinstance" : Str) = "isinstance" then (if ("tuple" : Str) = "tuple" then (evalW Φ n sc ρ a fun d => match d with | .int _ => post (.bool false) | _ => False) else False) else (listW (evalW Φ n) sc ρ [a, .Name "tuple" r] fun ds => callW Φ "isinstance" ds post)) = _
  rw [if_pos rfl, if_pos rfl]
theorem e_comp {elt t it ifs k gs cs p} : evalW Φ (n + 1) sc ρ (.ListComp elt (⟨t, it, ifs, k⟩ :: gs) cs p) post = evalW Φ n sc ρ it fun s => itemsW s fun ds => compW (evalW Φ n) cs.names elt (⟨t, it, ifs, k⟩ :: gs) (inner cs.names ρ) ds [] fun vs => post (.list vs) := propext Iff.rfl
theorem e_dcomp {ke ve x px it k cs p} (hk : k = 0) : evalW Φ (n + 1) sc ρ (.DictComp ke ve [⟨.Name x px, it, [], k⟩] cs p) post = evalW Φ n sc ρ it fun s => match s with
      | .list ds => (match intsD ds with
        | some ns => ns.length ≤ 1000000 ∧ ∃ kf vf : Int → Int, (∀ i, i ∈ ns → evalW Φ n cs.names (setR (inner cs.names ρ) x (.int i)) ke (fun d => d = .int (kf i)) ∧ evalW Φ n cs.names (setR (inner cs.names ρ) x (.int i)) ve (fun d => d = .int (vf i))) ∧
            post (.dict (dictL kf vf ns))
        | none => False)
      | _ => False := by
  subst hk
  exact propext Iff.rfl
theorem e_ifN {t x p b r} : evalW Φ (n + 1) sc ρ (.IfExp t (.Name x p) b r) post = testW (evalW Φ n) sc ρ t fun c => (c = true → evalW Φ n sc ρ (.Name x p) post) ∧ (c = false → evalW Φ n sc ρ b post) := propext Iff.rfl
theorem e_ifc {t i k p j l q r} : evalW Φ (n + 1) sc ρ (.IfExp t (.Constant (.int i) k p) (.Constant (.int j) l q) r) post = testW (evalW Φ n) sc ρ t fun b => post (.int (if b then i else j)) := propext Iff.rfl
end
section
variable {ev : Ev} {m : Nat} {sc : Names} {ρ : Rho} {μ : Mu} {post : Post}
theorem ss_nil {st : St} : stsW st ρ μ [] post = post .next ρ μ := propext Iff.rfl
theorem ss_cons {st : St} {s r} : stsW st ρ μ (s :: r) post = st ρ μ s fun fl ρ' μ' => match fl with
    | .next => stsW st ρ' μ' r post
    | fl => post fl ρ' μ' := propext Iff.rfl
theorem s_nilM {x p q pos} (h : mutN x = true) : stW ev sc (m + 1) ρ μ (.Assign [.Name x p] (.List [] q) pos) post = (μ = none ∧ post .next (noneR ρ x) (some (x, .list []))) := by
  show ((mutN x = true → μ = none ∧ post .next (noneR ρ x) (some (x, .list []))) ∧ (mutN x = false → notMu x μ ∧ post .next (setR ρ x (.list [])) μ)) = _
  rw [h]; simp
theorem s_dictM {x p q pos} (h : mutN x = true) : stW ev sc (m + 1) ρ μ (.Assign [.Name x p] (.Dict [] [] q) pos) post = (μ = none ∧ post .next (noneR ρ x) (some (x, .dict []))) := by
  show ((mutN x = true → μ = none ∧ post .next (noneR ρ x) (some (x, .dict []))) ∧ (mutN x = false → notMu x μ ∧ post .next (setR ρ x (.dict [])) μ)) = _
  rw [h]; simp
theorem s_dictN {x p q pos} (h : mutN x = false) : stW ev sc (m + 1) ρ μ (.Assign [.Name x p] (.Dict [] [] q) pos) post = (notMu x μ ∧ post .next (setR ρ x (.dict [])) μ) := by
  show ((mutN x = true → μ = none ∧ post .next (noneR ρ x) (some (x, .dict []))) ∧ (mutN x = false → notMu x μ ∧ post .next (setR ρ x (.dict [])) μ)) = _
  rw [h]; simp
theorem mut_eq (s : String) : mutN (Str.ofString s) = (decide (s = "lamps") || (decide (s = "wins") || decide (s = "new_callers"))) := by
  unfold mutN
  rw [strBeq, strBeq, strBeq, Bool.or_assoc]
theorem s_bin {x p pos} {l op r q} : stW ev sc (m + 1) ρ μ (.Assign [.Name x p] (.BinOp l op r q) pos) post = ev sc ρ (.BinOp l op r q) fun d => notMu x μ ∧ post .next (setR ρ x d) μ := propext Iff.rfl
theorem s_call {x p pos} {f as q} : stW ev sc (m + 1) ρ μ (.Assign [.Name x p] (.Call f as [] q) pos) post = ev sc ρ (.Call f as [] q) fun d => notMu x μ ∧ post .next (setR ρ x d) μ := propext Iff.rfl
theorem s_comp {x p pos} {elt gs cs q} : stW ev sc (m + 1) ρ μ (.Assign [.Name x p] (.ListComp elt gs cs q) pos) post = ev sc ρ (.ListComp elt gs cs q) fun d => notMu x μ ∧ post .next (setR ρ x d) μ := propext Iff.rfl
theorem s_const {x p pos} {c k q} : stW ev sc (m + 1) ρ μ (.Assign [.Name x p] (.Constant c k q) pos) post = ev sc ρ (.Constant c k q) fun d => notMu x μ ∧ post .next (setR ρ x d) μ := propext Iff.rfl
theorem s_list {x p pos} {a b q} : stW ev sc (m + 1) ρ μ (.Assign [.Name x p] (.List (a :: b) q) pos) post = ev sc ρ (.List (a :: b) q) fun d => notMu x μ ∧ post .next (setR ρ x d) μ := propext Iff.rfl
theorem s_sub {x p pos} {a b q} : stW ev sc (m + 1) ρ μ (.Assign [.Name x p] (.Subscript a b q) pos) post = ev sc ρ (.Subscript a b q) fun d => notMu x μ ∧ post .next (setR ρ x d) μ := propext Iff.rfl
theorem s_neg {x p pos} {o xx q} : stW ev sc (m + 1) ρ μ (.Assign [.Name x p] (.UnaryOp o xx q) pos) post = ev sc ρ (.UnaryOp o xx q) fun d => notMu x μ ∧ post .next (setR ρ x d) μ := propext Iff.rfl
theorem s_tup2 {x y p q k r e pos} : stW ev sc (m + 1) ρ μ (.Assign [.Tuple [.Name x p, .Name y q] k r] e pos) post = ev sc ρ e fun d => (notMu x μ ∧ notMu y μ) ∧ unp2 x y d ρ fun ρ' => post .next ρ' μ := by
  have h : asT ev sc ρ μ [.Name x p, .Name y q] e post = ev sc ρ e fun d => (notMu x μ ∧ notMu y μ) ∧ unp2 x y d ρ fun ρ' => post .next ρ' μ := propext ⟨fun h => by
    rcases h with ⟨_, _, _, _, h, hp⟩ | ⟨_, _, _, _, _, _, h, _⟩ <;> cases h
    exact hp, fun h => .inl ⟨_, _, _, _, rfl, h⟩⟩
  rw [← h]
  cases e <;> rfl
theorem s_tup3 {x y z p q t k r e pos} : stW ev sc (m + 1) ρ μ (.Assign [.Tuple [.Name x p, .Name y q, .Name z t] k r] e pos) post = ev sc ρ e fun d => (notMu x μ ∧ notMu y μ ∧ notMu z μ) ∧ unp3 x y z d ρ fun ρ' => post .next ρ' μ := by
  have h : asT ev sc ρ μ [.Name x p, .Name y q, .Name z t] e post = ev sc ρ e fun d => (notMu x μ ∧ notMu y μ ∧ notMu z μ) ∧ unp3 x y z d ρ fun ρ' => post .next ρ' μ := propext ⟨fun h => by
    rcases h with ⟨_, _, _, _, h, _⟩ | ⟨_, _, _, _, _, _, h, hp⟩ <;> cases h
    exact hp, fun h => .inr ⟨_, _, _, _, _, _, rfl, h⟩⟩
  rw [← h]
  cases e <;> rfl
theorem s_put {x y p k q r v t pos kvs} : stW ev sc (m + 1) ρ (some (y, .dict kvs)) (.Assign [.Subscript (.Name x p) (.Name k q) r] (.Name v t) pos) post = (x = y ∧ nameW ρ k fun d => isI d fun k => nameW ρ v fun d => isI d fun v =>
      kvs.length ≤ 1000000 ∧ post .next ρ (some (y, .dict (putK k v kvs)))) := by
  unfold nameW isI
  show (x = y ∧ (match ρ k, ρ v with | some (.int k), some (.int v) => _ | _, _ => False)) = _
  cases ρ k with
  | none => rfl
  | some d =>
    cases d <;> first | rfl | skip
    cases ρ v with
    | none => rfl
    | some d => cases d <;> rfl
theorem s_aug {x p e pos} : stW ev sc (m + 1) ρ μ (.AugAssign (.Name x p) .Add e pos) post = nameW ρ x fun d => isI d fun a => ev sc ρ e fun d => isI d fun b => notMu x μ ∧ post .next (setR ρ x (.int (a + b))) μ := by
  unfold nameW isI
  show (match ρ x with | some (.int a) => _ | _ => False) = _
  cases ρ x with
  | none => rfl
  | some d => cases d <;> rfl
theorem s_augput {x y p k q r v t pos kvs} : stW ev sc (m + 1) ρ (some (y, .dict kvs)) (.AugAssign (.Subscript (.Name x p) (.Name k q) r) .Add (.Name v t) pos) post = (x = y ∧ nameW ρ k fun d => isI d fun k => nameW ρ v fun d => isI d fun v =>
      match kvs.lookup k with
              | some u => kvs.length ≤ 1000000 ∧ post .next ρ (some (y, .dict (putK k (u + v) kvs)))
              | none => False) := by
  unfold nameW isI
  show (x = y ∧ (match ρ k, ρ v with | some (.int k), some (.int v) => _ | _, _ => False)) = _
  cases ρ k with
  | none => rfl
  | some d =>
    cases d <;> first | rfl | skip
    cases ρ v with
    | none => rfl
    | some d => cases d <;> rfl
theorem s_items {x p y q k r d t mm ap cp body pos} : stW ev sc (m + 1) ρ μ (.For (.Tuple [.Name x p, .Name y q] k r) (.Call (.Attribute (.Name d t) mm ap) [] [] cp) body [] pos) post = nameW ρ d fun d => isK d fun ks =>
      mm = "items" ∧ forW (fun d ρ μ post => (notMu x μ ∧ notMu y μ) ∧ unp2 x y d ρ fun ρ' => stsW (stW ev sc m) ρ' μ body post) (ks.map fun p => D.tup [.int p.1, .int p.2]) ρ μ post := by
  unfold nameW isK
  show (match ρ d with | some (.dict a) => _ | _ => False) = _
  cases ρ d with
  | none => rfl
  | some d => cases d <;> rfl
theorem s_values {x p d t mm ap cp body pos} : stW ev sc (m + 1) ρ μ (.For (.Name x p) (.Call (.Attribute (.Name d t) mm ap) [] [] cp) body [] pos) post = nameW ρ d fun d => isK d fun ks =>
      mm = "values" ∧ forW (fun d ρ μ post => notMu x μ ∧ stsW (stW ev sc m) (setR ρ x d) μ body post) (ks.map fun p => D.int p.2) ρ μ post := by
  unfold nameW isK
  show (match ρ d with | some (.dict a) => _ | _ => False) = _
  cases ρ d with
  | none => rfl
  | some d => cases d <;> rfl
theorem s_for {x p f q as cp body pos} : stW ev sc (m + 1) ρ μ (.For (.Name x p) (.Call (.Name f q) as [] cp) body [] pos) post = ev sc ρ (.Call (.Name f q) as [] cp) fun s => itemsW s fun ds => forW (fun d ρ μ post => notMu x μ ∧ stsW (stW ev sc m) (setR ρ x d) μ body post) ds ρ μ post := by cases as <;> exact propext Iff.rfl
theorem s_forN {x p f q body pos} : stW ev sc (m + 1) ρ μ (.For (.Name x p) (.Name f q) body [] pos) post = ev sc ρ (.Name f q) fun s => itemsW s fun ds => forW (fun d ρ μ post => notMu x μ ∧ stsW (stW ev sc m) (setR ρ x d) μ body post) ds ρ μ post := propext Iff.rfl
theorem s_forA {x p y q k r o mm ap body pos} : stW ev sc (m + 1) ρ μ (.For (.Tuple [.Name x p, .Name y q] k r) (.Attribute o mm ap) body [] pos) post = ev sc ρ (.Attribute o mm ap) fun s => itemsW s fun ds => forW (fun d ρ μ post => (notMu x μ ∧ notMu y μ) ∧ unp2 x y d ρ fun ρ' => stsW (stW ev sc m) ρ' μ body post) ds ρ μ post := propext Iff.rfl
theorem s_while {t body pos} : stW ev sc (m + 1) ρ μ (.While t body [] pos) post = ∃ n, whileW (fun ρ _ post => testW ev sc ρ t post) (fun ρ μ post => stsW (stW ev sc m) ρ μ body post) n ρ μ post := propext Iff.rfl
theorem s_clamp {l op r q x p c k t pp pos} : stW ev sc (m + 1) ρ μ (.If (.Compare l [op] [r] q) [.Assign [.Name x p] (.Constant (.float c) k t) pp] [] pos) post = nameW ρ x fun d => isF d fun y =>
      testW ev sc ρ (.Compare l [op] [r] q) fun b => notMu x μ ∧ post .next (setR ρ x (.flt (if b then c else y))) μ := by
  unfold nameW isF
  show (match ρ x with | some (.flt y) => _ | _ => False) = _
  cases ρ x with
  | none => rfl
  | some d => cases d <;> rfl
theorem s_ret {x p pos} : stW ev sc (m + 1) ρ μ (.Return (some (.Name x p)) pos) post = retW ρ μ x fun d => post (.ret d) ρ μ := by
  unfold retW
  rfl
theorem s_in {k kp x xp tp t2 a2 b2 p2 b pos y kvs} : stW ev sc (m + 1) ρ (some (y, .dict kvs)) (.If (.Compare (.Name k kp) [.In] [.Name x xp] tp) [.If t2 a2 b2 p2] b pos) post = (x = y ∧ nameW ρ k fun d => isI d fun k =>
      ((kvs.lookup k).isSome = true → stsW (stW ev sc m) ρ (some (y, .dict kvs)) [.If t2 a2 b2 p2] post) ∧ ((kvs.lookup k).isSome = false → stsW (stW ev sc m) ρ (some (y, .dict kvs)) b post)) := by
  unfold nameW isI
  have e : stW ev sc (m + 1) ρ (some (y, .dict kvs)) (.If (.Compare (.Name k kp) [.In] [.Name x xp] tp) [.If t2 a2 b2 p2] b pos) post = (x = y ∧ (match ρ k with
          | some (.int k) => ((kvs.lookup k).isSome = true → stsW (stW ev sc m) ρ (some (y, .dict kvs)) [.If t2 a2 b2 p2] post) ∧ ((kvs.lookup k).isSome = false → stsW (stW ev sc m) ρ (some (y, .dict kvs)) b post)
          | _ => False)) := propext Iff.rfl
  rw [e]
  cases ρ k with
  | none => rfl
  | some d => cases d <;> rfl
theorem s_ifNotEqRaise {l r q b pos} {x y z} : stW ev sc (m + 1) ρ μ (.If (.Compare l [.NotEq] [r] q) [.Raise x y z] b pos) post = testW ev sc ρ (.Compare l [.NotEq] [r] q) fun c => (c = true → stsW (stW ev sc m) ρ μ [.Raise x y z] post) ∧ (c = false → stsW (stW ev sc m) ρ μ b post) := by
  exact propext Iff.rfl
theorem s_ifNotEqRet {l r q b pos} {x y} : stW ev sc (m + 1) ρ μ (.If (.Compare l [.NotEq] [r] q) [.Return x y] b pos) post = testW ev sc ρ (.Compare l [.NotEq] [r] q) fun c => (c = true → stsW (stW ev sc m) ρ μ [.Return x y] post) ∧ (c = false → stsW (stW ev sc m) ρ μ b post) := by
  exact propext Iff.rfl
theorem s_ifNotEqAsg {l r q b pos} {x p1 l1 o1 r1 q1 y} : stW ev sc (m + 1) ρ μ (.If (.Compare l [.NotEq] [r] q) [.Assign [.Name x p1] (.BinOp l1 o1 r1 q1) y] b pos) post = testW ev sc ρ (.Compare l [.NotEq] [r] q) fun c => (c = true → stsW (stW ev sc m) ρ μ [.Assign [.Name x p1] (.BinOp l1 o1 r1 q1) y] post) ∧ (c = false → stsW (stW ev sc m) ρ μ b post) := by
  exact propext Iff.rfl
theorem s_ifEqIf {l r q b pos} {x y z w2 rr} : stW ev sc (m + 1) ρ μ (.If (.Compare l [.Eq] [r] q) (.If x y z w2 :: rr) b pos) post = testW ev sc ρ (.Compare l [.Eq] [r] q) fun c => (c = true → stsW (stW ev sc m) ρ μ (.If x y z w2 :: rr) post) ∧ (c = false → stsW (stW ev sc m) ρ μ b post) := by
  cases rr <;> exact propext Iff.rfl
theorem s_ifLtRet {l r q b pos} {x y} : stW ev sc (m + 1) ρ μ (.If (.Compare l [.Lt] [r] q) [.Return x y] b pos) post = testW ev sc ρ (.Compare l [.Lt] [r] q) fun c => (c = true → stsW (stW ev sc m) ρ μ [.Return x y] post) ∧ (c = false → stsW (stW ev sc m) ρ μ b post) := by
  exact propext Iff.rfl
theorem s_ifGtRet {l r q b pos} {x y} : stW ev sc (m + 1) ρ μ (.If (.Compare l [.Gt] [r] q) [.Return x y] b pos) post = testW ev sc ρ (.Compare l [.Gt] [r] q) fun c => (c = true → stsW (stW ev sc m) ρ μ [.Return x y] post) ∧ (c = false → stsW (stW ev sc m) ρ μ b post) := by
  exact propext Iff.rfl
theorem s_ifOr {xs q b pos y} : stW ev sc (m + 1) ρ μ (.If (.BoolOp .Or xs q) [.Break y] b pos) post = testW ev sc ρ (.BoolOp .Or xs q) fun c => (c = true → stsW (stW ev sc m) ρ μ [.Break y] post) ∧ (c = false → stsW (stW ev sc m) ρ μ b post) := propext Iff.rfl
theorem s_ifIsi {f as q b pos t i p e y} : stW ev sc (m + 1) ρ μ (.If (.Call f as [] q) [.Assign [.Subscript t i p] e y] b pos) post = testW ev sc ρ (.Call f as [] q) fun c => (c = true → stsW (stW ev sc m) ρ μ [.Assign [.Subscript t i p] e y] post) ∧ (c = false → stsW (stW ev sc m) ρ μ b post) := propext Iff.rfl
theorem s_retT {es k q pos} : stW ev sc (m + 1) ρ μ (.Return (some (.Tuple es k q)) pos) post = ev sc ρ (.Tuple es k q) fun d => post (.ret d) ρ μ := propext Iff.rfl
theorem s_retC {e gs cs q pos} : stW ev sc (m + 1) ρ μ (.Return (some (.ListComp e gs cs q)) pos) post = ev sc ρ (.ListComp e gs cs q) fun d => post (.ret d) ρ μ := propext Iff.rfl
theorem s_retK {c k q pos} : stW ev sc (m + 1) ρ μ (.Return (some (.Constant c k q)) pos) post = ev sc ρ (.Constant c k q) fun d => post (.ret d) ρ μ := propext Iff.rfl
theorem s_retU {o x q pos} : stW ev sc (m + 1) ρ μ (.Return (some (.UnaryOp o x q)) pos) post = ev sc ρ (.UnaryOp o x q) fun d => post (.ret d) ρ μ := propext Iff.rfl
theorem s_retB {o x q pos} : stW ev sc (m + 1) ρ μ (.Return (some (.BoolOp o x q)) pos) post = ev sc ρ (.BoolOp o x q) fun d => post (.ret d) ρ μ := propext Iff.rfl
theorem s_app {x y p mm ap e q pos ds} : stW ev sc (m + 1) ρ (some (y, .list ds)) (.Expr (.Call (.Attribute (.Name x p) mm ap) [e] [] q) pos) post = ((x = y ∧ mm = "append") ∧ ev sc ρ e fun d => ds.length ≤ 1000000 ∧ post .next ρ (some (y, .list (ds ++ [d])))) := propext Iff.rfl
theorem s_brk {pos} : stW ev sc (m + 1) ρ μ (.Break pos) post = post .brk ρ μ := propext Iff.rfl
end
section
variable {post : D → Prop} {pb : Bool → Prop}
theorem b_iadd {x y} : binW .Add (.int x) (.int y) post = post (.int (x + y)) := propext Iff.rfl
theorem b_isub {x y} : binW .Sub (.int x) (.int y) post = post (.int (x - y)) := propext Iff.rfl
theorem b_imul {x y} : binW .Mult (.int x) (.int y) post = (IntMulOk x y ∧ post (.int (x * y))) := propext Iff.rfl
theorem b_ifd {x y} : binW .FloorDiv (.int x) (.int y) post = ((y ≠ 0 ∧ Builtin.divisionGoesByPylong x y = false) ∧ post (.int (x.fdiv y))) := propext Iff.rfl
theorem b_imod {x y} : binW .Mod (.int x) (.int y) post = (y ≠ 0 ∧ post (.int (x.fmod y))) := propext Iff.rfl
theorem b_ipow {x y} : binW .Pow (.int x) (.int y) post = ((0 ≤ y ∧ y ≤ 1000000 ∧ x.natAbs < 2 ^ 64) ∧ post (.int (x ^ y.toNat))) := propext Iff.rfl
theorem b_idiv {x y} : binW .Div (.int x) (.int y) post = ((y ≠ 0 ∧ Float64.isInf (Float64.ofFrac (decide (x < 0) != decide (y < 0)) x.natAbs y.natAbs) = false) ∧ post (.flt (Float64.ofFrac (decide (x < 0) != decide (y < 0)) x.natAbs y.natAbs))) := propext Iff.rfl
theorem b_fadd {x y} : binW .Add (.flt x) (.flt y) post = post (.flt (Float64.add x y)) := propext Iff.rfl
theorem b_fsub {x y} : binW .Sub (.flt x) (.flt y) post = post (.flt (Float64.sub x y)) := propext Iff.rfl
theorem b_fmul {x y} : binW .Mult (.flt x) (.flt y) post = post (.flt (Float64.mul x y)) := propext Iff.rfl
theorem b_ifmul {x y} : binW .Mult (.int x) (.flt y) post = (x.natAbs < 2 ^ 1023 ∧ post (.flt (Float64.mul (Float64.ofInt x) y))) := propext Iff.rfl
theorem b_ladd {x y} : binW .Add (.list x) (.list y) post = (x.length + y.length ≤ 1000000 ∧ post (.list (x ++ y))) := propext Iff.rfl
theorem b_sadd {x y} : binW .Add (.str x) (.str y) post = (x.length + y.length ≤ 1000000 ∧ post (.str (x ++ y))) := propext Iff.rfl
theorem b_badd {x y} : binW .Add (.byt x) (.byt y) post = (x.length + y.length ≤ 1000000 ∧ post (.byt (x ++ y))) := propext Iff.rfl
theorem b_smul {x y} : binW .Mult (.str x) (.int y) post = (MulOk x y ∧ post (.str (Txt.mul x y))) := propext Iff.rfl
theorem c_ieq {x y} : cmpW .Eq (.int x) (.int y) pb = pb (x == y) := propext Iff.rfl
theorem c_ine {x y} : cmpW .NotEq (.int x) (.int y) pb = pb (x != y) := propext Iff.rfl
theorem c_ilt {x y} : cmpW .Lt (.int x) (.int y) pb = pb (decide (x < y)) := propext Iff.rfl
theorem c_igt {x y} : cmpW .Gt (.int x) (.int y) pb = pb (decide (y < x)) := propext Iff.rfl
theorem c_ige {x y} : cmpW .GtE (.int x) (.int y) pb = pb (decide (y ≤ x)) := propext Iff.rfl
theorem c_flt {x y} : cmpW .Lt (.flt x) (.flt y) pb = pb (Float64.cmp x y == some .lt) := propext Iff.rfl
theorem c_fgt {x y} : cmpW .Gt (.flt x) (.flt y) pb = pb (Float64.cmp x y == some .gt) := propext Iff.rfl
theorem c_seq {x y} : cmpW .Eq (.str x) (.str y) pb = pb (x.cps.toList == y.cps.toList) := propext Iff.rfl
theorem c_sne {x y} : cmpW .NotEq (.str x) (.str y) pb = pb (x.cps.toList != y.cps.toList) := propext Iff.rfl
theorem c_tgt {x y u v} : cmpW .Gt (.tup [.int x, .int y]) (.tup [.int u, .int v]) pb = pb (if x == u then decide (v < y) else decide (u < x)) := propext Iff.rfl
theorem l_nil {ev : Ev} {sc : Names} {ρ : Rho} {p : List D → Prop} : listW ev sc ρ [] p = p [] := propext Iff.rfl
theorem l_cons {ev : Ev} {sc : Names} {ρ : Rho} {p : List D → Prop} {e r} : listW ev sc ρ (e :: r) p = ev sc ρ e fun d => listW ev sc ρ r fun ds => p (d :: ds) := propext Iff.rfl
theorem t_cmp {ev : Ev} {sc : Names} {ρ : Rho} {l op r p} : testW ev sc ρ (.Compare l [op] [r] p) pb = ev sc ρ l fun a => ev sc ρ r fun b => cmpW op a b pb := propext Iff.rfl
theorem t_name {ev : Ev} {sc : Names} {ρ : Rho} {x p} : testW ev sc ρ (.Name x p) pb = ev sc ρ (.Name x p) fun d => truthyW d pb := propext Iff.rfl
theorem t_sub {ev : Ev} {sc : Names} {ρ : Rho} {x i p} : testW ev sc ρ (.Subscript x i p) pb = ev sc ρ (.Subscript x i p) fun d => truthyW d pb := propext Iff.rfl
theorem t_call {ev : Ev} {sc : Names} {ρ : Rho} {x i k p} : testW ev sc ρ (.Call x i k p) pb = ev sc ρ (.Call x i k p) fun d => truthyW d pb := propext Iff.rfl
theorem t_and {ev : Ev} {sc : Names} {ρ : Rho} {x y p} : testW ev sc ρ (.BoolOp .And [x, y] p) pb = test1W ev sc ρ x fun b => (b = true → test1W ev sc ρ y pb) ∧ (b = false → pb false) := propext Iff.rfl
theorem t_or {ev : Ev} {sc : Names} {ρ : Rho} {x y p} : testW ev sc ρ (.BoolOp .Or [x, y] p) pb = test1W ev sc ρ x fun b => (b = true → pb true) ∧ (b = false → test1W ev sc ρ y pb) := propext Iff.rfl
theorem t1_cmp {ev : Ev} {sc : Names} {ρ : Rho} {l op r p} : test1W ev sc ρ (.Compare l [op] [r] p) pb = ev sc ρ l fun a => ev sc ρ r fun b => cmpW op a b pb := propext Iff.rfl
theorem t1_sub {ev : Ev} {sc : Names} {ρ : Rho} {x i p} : test1W ev sc ρ (.Subscript x i p) pb = ev sc ρ (.Subscript x i p) fun d => truthyW d pb := propext Iff.rfl
theorem tr_b {b} : truthyW (.bool b) pb = pb b := propext Iff.rfl
theorem tr_i {i} : truthyW (.int i) pb = pb (i != 0) := propext Iff.rfl
theorem u_pair {x y a b ρ} {p : Rho → Prop} : unp2 x y (.tup [a, b]) ρ p = p (setR (setR ρ x a) y b) := propext ⟨fun ⟨_, _, e, h⟩ => by cases e; exact h, fun h => ⟨_, _, rfl, h⟩⟩
theorem u_three {x y z a b c ρ} {p : Rho → Prop} : unp3 x y z (.tup [a, b, c]) ρ p = p (setR (setR (setR ρ x a) y b) z c) := propext ⟨fun ⟨_, _, _, e, h⟩ => by cases e; exact h, fun h => ⟨_, _, _, rfl, h⟩⟩
theorem m_none {x} : notMu x none = True := by unfold notMu; simp
theorem m_some {x y d} (h : y ≠ x) : notMu x (some (y, d)) = True := by
  unfold notMu
  refine eq_true fun p hp => ?_
  cases hp; exact h
theorem o_none {ev : Ev} {sc : Names} {ρ : Rho} {p : Option D → Prop} : optW ev sc ρ none p = p none := propext Iff.rfl
theorem o_some {ev : Ev} {sc : Names} {ρ : Rho} {e} {p : Option D → Prop} : optW ev sc ρ (some e) p = ev sc ρ e fun d => p (some d) := propext Iff.rfl
theorem i_list {ds} {p : List D → Prop} : itemsW (.list ds) p = (ds.length ≤ 1000000 ∧ p ds) := propext Iff.rfl
theorem i_tup {ds} {p : List D → Prop} : itemsW (.tup ds) p = (ds.length ≤ 1000000 ∧ p ds) := propext Iff.rfl
theorem i_range {a b} {p : List D → Prop} : itemsW (.range a b) p = ((-1000000 ≤ a ∧ a ≤ 1000000 ∧ -1000000 ≤ b ∧ b ≤ 1000000) ∧ p ((List.range (b - a).toNat).map fun i : Nat => D.int (a + (i : Int)))) := propext Iff.rfl
theorem x_list {ds i} : itemW (.list ds) (.int i) post = ((-1000000 ≤ i ∧ i ≤ 1000000 ∧ ds.length ≤ 1000000) ∧ (match atD ds i with | some d => post d | none => False)) := propext Iff.rfl
theorem x_tup {ds i} : itemW (.tup ds) (.int i) post = ((0 ≤ i ∧ i ≤ 1000000) ∧ (match ds[i.toNat]? with | some d => post d | none => False)) := propext Iff.rfl
theorem x_str {s i} : itemW (.str s) (.int i) post = ((0 ≤ i ∧ i < s.length ∧ s.length ≤ 1000000) ∧ post (.str ⟨#[s.cps[i.toNat]!]⟩)) := propext Iff.rfl
theorem x_byt {b i} : itemW (.byt b) (.int i) post = ((0 ≤ i ∧ i < b.length ∧ b.length ≤ 1000000) ∧ post (.int ((b.getD i.toNat 0).toNat : Int))) := propext Iff.rfl
theorem fl_next {X : Prop} {Y : Fl → Prop} : (match Fl.next with | .next => X | fl => Y fl) = X := propext Iff.rfl
end
section
variable {Φ : Tab} {post : D → Prop}
theorem n_at {ρ : Rho} {x : Str} {d : D} {post : D → Prop} (h : ρ x = some d) : nameW ρ x post = post d := by unfold nameW; rw [h]
theorem r_at {ρ : Rho} {μ : Mu} {x : Str} {d : D} {post : D → Prop} (h : ρ x = some d) : retW ρ μ x post = post d := by unfold retW; rw [h]
theorem k_range1 {n} : callW Φ "range" [.int n] post = post (.range 0 n) := by
  simp only [callW, strEq, String.reduceEq, if_false, if_true]
  all_goals rfl
theorem k_range2 {a b} : callW Φ "range" [.int a, .int b] post = post (.range a b) := by
  simp only [callW, strEq, String.reduceEq, if_false, if_true]
  all_goals rfl
theorem k_lenL {ds} : callW Φ "len" [.list ds] post = (ds.length ≤ 1000000 ∧ post (.int ds.length)) := by
  simp only [callW, strEq, String.reduceEq, if_false, if_true]
  all_goals rfl
theorem k_lenS {x} : callW Φ "len" [.str x] post = (x.length ≤ 1000000 ∧ post (.int x.length)) := by
  simp only [callW, strEq, String.reduceEq, if_false, if_true]
  all_goals rfl
theorem k_sum {ds} : callW Φ "sum" [.list ds] post = (match intsD ds with | some ns => post (.int ns.sum) | none => False) := by
  simp only [callW, strEq, String.reduceEq, if_false, if_true]
  show sumD ds post = _
  unfold sumD
  all_goals (cases intsD ds <;> rfl)
theorem k_round {x} : callW Φ "round" [.flt x] post = (Float64.isFinite x = true ∧ post (.int (PySem.Flt.toInt Float64.nearestOf x))) := by
  simp only [callW, strEq, String.reduceEq, if_false, if_true]
  all_goals rfl
theorem k_min {a b} : callW Φ "min" [.int a, .int b] post = post (.int (if b < a then b else a)) := by
  simp only [callW, strEq, String.reduceEq, if_false, if_true]
  all_goals rfl
theorem k_max {a b} : callW Φ "max" [.int a, .int b] post = post (.int (if b > a then b else a)) := by
  simp only [callW, strEq, String.reduceEq, if_false, if_true]
  all_goals rfl
theorem k_abs {a} : callW Φ "abs" [.int a] post = post (.int (if a < 0 then -a else a)) := by
  simp only [callW, strEq, String.reduceEq, if_false, if_true]
  all_goals rfl
theorem k_int {a} : callW Φ "int" [.int a] post = post (.int a) := by
  simp only [callW, strEq, String.reduceEq, if_false, if_true]
  all_goals rfl
theorem k_divmod {a b} : callW Φ "divmod" [.int a, .int b] post = ((b ≠ 0 ∧ Builtin.divisionGoesByPylong a b = false) ∧ post (.tup [.int (a.fdiv b), .int (a.fmod b)])) := by
  simp only [callW, strEq, String.reduceEq, if_false, if_true]
  all_goals rfl
theorem k_fn {f as} (h : f ∉ ["range", "len", "sum", "round", "min", "max", "abs", "int", "divmod"]) : callW Φ (Str.ofString f) as post = Φ.fn (Str.ofString f) as post := by
  simp only [List.mem_cons, List.not_mem_nil, or_false, not_or] at h
  simp only [callW, strEq, h, if_false]
theorem w_count {ds k} : methW Φ (.list ds) [.int k] post = (match intsD ds with | some ns => post (.int (ns.count k)) | none => False) := propext Iff.rfl
theorem w_rjust {b n c} : methW Φ (.byt b) [.int n, .byt [c]] post = ((0 ≤ n ∧ n ≤ 1000000 ∧ b.length ≤ 1000000) ∧ post (.byt (List.replicate (n.toNat - b.length) c ++ b))) := propext Iff.rfl
theorem w_cmp {d x y} : methW Φ (.duel d) [x, y] post = Φ.cmp d x y post := propext Iff.rfl
theorem p_count {ds} : methPre "count" (.list ds) = True := by unfold methPre; simp
theorem p_rjust {ds} : methPre "rjust" (.byt ds) = True := by unfold methPre; simp
theorem p_cmp {ds} : methPre "compare" (.duel ds) = True := by unfold methPre; simp
theorem z_bhh {b l h} : sliceW (.byt b) (some (.int l)) (some (.int h)) none post = (b.length ≤ 1000000 ∧ post (.byt (KBy.picked b.toArray (some l) (some h)).toList)) := propext Iff.rfl
theorem z_s0h {x h} : sliceW (.str x) none (some (.int h)) none post = ((strCut x none (some h)).length ≤ 1000000 ∧ post (.str (strCut x none (some h)))) := propext Iff.rfl
theorem z_slh {x l h} : sliceW (.str x) (some (.int l)) (some (.int h)) none post = ((strCut x (some l) (some h)).length ≤ 1000000 ∧ post (.str (strCut x (some l) (some h)))) := propext Iff.rfl
theorem z_lst {ds l h t} : sliceW (.list ds) (some (.int l)) (some (.int h)) (some (.int t)) post = ((t ≠ 0 ∧ ds.length ≤ 1000000) ∧ ∀ es : List D, (∀ d, d ∈ es → d ∈ ds) → es.length ≤ ds.length → post (.list es)) := propext Iff.rfl

end
theorem while_rule {test : Rho → Mu → (Bool → Prop) → Prop} {body : Rho → Mu → Post → Prop} {post : Post} (I : Nat → Rho → Prop) (h0 : ∀ ρ, ¬ I 0 ρ)
    (turn : ∀ k ρ (K : Rho → Mu → Prop), I (k + 1) ρ → (∀ ρ', I k ρ' → K ρ' none) → test ρ none fun b => (b = true → body ρ none fun fl ρ' μ' => match fl with
      | .next => K ρ' μ'
      | .brk => post .next ρ' μ'
      | .ret d => post (.ret d) ρ' μ') ∧ (b = false → post .next ρ none)) : ∀ k ρ, I k ρ → whileW test body k ρ none post
  | 0, ρ, h => (h0 ρ h).elim
  | k + 1, ρ, h => turn k ρ (fun ρ' μ' => whileW test body k ρ' μ' post) h fun ρ' h' => while_rule I h0 turn k ρ' h'
theorem setR_here {ρ : Rho} {x : Str} {d : D} : setR ρ x d x = some d := if_pos rfl
theorem setR_off {ρ : Rho} {x y : Str} {d : D} (h : x ≠ y) : setR ρ y d x = ρ x := if_neg h
theorem bindR_here {x : Str} {d : D} {r : List (Str × D)} : bindR ((x, d) :: r) x = some d := if_pos rfl
theorem bindR_off {x y : Str} {d : D} {r : List (Str × D)} (h : x ≠ y) : bindR ((y, d) :: r) x = bindR r x := if_neg h
theorem noneR_here {ρ : Rho} {x : Str} : noneR ρ x x = none := if_pos rfl
theorem noneR_off {ρ : Rho} {x y : Str} (h : x ≠ y) : noneR ρ y x = ρ x := if_neg h
theorem f_nil {ρ : Rho} {turn : D → Rho → Mu → Post → Prop} {μ : Mu} {post : Post} : forW turn [] ρ μ post = post .next ρ μ := propext Iff.rfl
theorem f_cons {ρ : Rho} {turn : D → Rho → Mu → Post → Prop} {μ : Mu} {post : Post} {d r} : forW turn (d :: r) ρ μ post = turn d ρ μ fun fl ρ' μ' => match fl with
    | .next => forW turn r ρ' μ' post
    | .brk => post .next ρ' μ'
    | .ret d => post (.ret d) ρ' μ' := propext Iff.rfl
theorem ts_nil {ev : Ev} {sc : Names} {ρ : Rho} {q : Bool → Prop} : testsW ev sc ρ [] q = q true := propext Iff.rfl
theorem ts_one {ev : Ev} {sc : Names} {ρ : Rho} {t : Expr} {q : Bool → Prop} : testsW ev sc ρ [t] q = testW ev sc ρ t q := propext Iff.rfl
theorem strNe {a b : String} (h : a ≠ b) : Str.ofString a ≠ Str.ofString b := fun e => h (by rwa [strEq] at e)
end Mine.Internal

namespace Mine.Internal
set_option maxHeartbeats 8000000
theorem said : PySem.Challenge.rw_xg0029_01.wellSaid = true := by
  unfold OpenLaw.wellSaid OpenRow.wellSaid OpenRow.partSaid looksOpen
  repeat' with_reducible refine look_both ?_ ?_
  all_goals decide +kernel
noncomputable def viewP : Program := view PySem.Challenge.pw_xg0029_01 [1, 2, 4, 5, 6, 8, 10, 11, 12, 14, 15, 16, 17, 18, 19, 20, 21]
noncomputable def lawD : DefRec × List (PySem.Str × Expr) := (defOf viewP PySem.Challenge.rw_xg0029_01.row.name).get (by kernel_rfl)
theorem chains_ok : (chainsOk viewP && opensWell PySem.Challenge.rw_xg0029_01.row.prog && (frees PySem.Challenge.rw_xg0029_01.row.toRowW && PySem.Challenge.rw_xg0029_01.row.within.isEmpty)) = true := by kernel_rfl
noncomputable def topQ : { F : Program → World → Nat → Shared → Option Shared // topFrom treeTable = F } := ⟨_, by
  unfold topFrom
  rw [PySem.W.Fast.te14082659384304107361, PySem.W.Fast.te14364793385576792824]⟩
theorem shared_eq {s : Shared} {h : Heap} {g : Array GenState} {d : Drawn} {k : Nat} (e : (s.heap, s.gens, s.drawn, s.toks) = (h, g, d, k)) : s = ⟨h, g, d, k, s.os⟩ := by
  cases s; cases e; rfl
theorem left_boot {p q : Program} {loose : List PySem.Str} {Xt : Shared → Bool} {α : Type} {Yf : Shared → α} {Ya : World → α} {N : Nat} {g0 : Bool} (e : opening p = plainProg p.main.scope.names) (hN : Nat.ble 600 N = true) (f : ∀ s, fenceModules? p s = some s)
    (h : (fun (w : World) os => (topQ.1 p w N ⟨boot_heap w.params, Array.mk [], boot_drawn, boot_toks, os⟩).map (fun s => (PySem.W.Fast.tw4187177175401517315 q loose (importedModules p.main.body) Xt g0 s, Yf s))) = fun w _ => some (openGood q loose, Ya w)) : LeftO p q loose Xt Yf Ya N g0 := fun w => by
  obtain ⟨s, e1, e2⟩ := Option.map_eq_some_iff.mp (boot_open e hN f w)
  have e3 := shared_eq e2
  have e4 := congrFun (congrFun h w) s.os
  unfold openEnds
  rw [e1, e3, PySem.W.Fast.te4187177175401517315]
  exact (congrArg _ (congrFun (congrFun (congrFun (congrFun topQ.2 p) w) N) _)).trans e4
theorem my_open (H : Hook) (left : (fun (w : World) os => (topQ.1 PySem.Challenge.rw_xg0029_01.row.prog w 2376 ⟨boot_heap w.params, Array.mk [], boot_drawn, boot_toks, os⟩).map (fun s => (PySem.W.Fast.tw4187177175401517315 viewP [] (importedModules PySem.Challenge.rw_xg0029_01.row.prog.main.body) (fun s => xlAt viewP [] s && recOk [] s) true s, H.obs s))) = fun w _ => some (openGood viewP [], H.val w))
    (hw : PySem.Challenge.rw_xg0029_01.row.toRowW.promised) (call : WalkO viewP [] (XL viewP []) H.says PySem.Challenge.rw_xg0029_01.row.toRowW lawD.1 lawD.2 fun f vs => PySem.call f vs) : PySem.Challenge.rw_xg0029_01.row.Holds :=
  holds_open (left_boot rfl rfl (fun _ => rfl) left) H.of H.keeps (fun s e => xl_of s (Bool.and_eq_true_iff.mp e).1) XL.keeps (d := lawD.1) (kwd := lawD.2) (by kernel_rfl) (by kernel_rfl) (by kernel_rfl) (fun s e => recFacts_of (Bool.and_eq_true_iff.mp e).2) rfl (row_said said) chains_ok ⟨rfl, rfl, rfl, rfl, rfl, by decide +kernel⟩ hw call
theorem my_law (h : PySem.Challenge.rw_xg0029_01.row.Holds) : PySem.Challenge.rw_xg0029_01.Holds := holds_law said fun _ => h
local macro_rules | `(tactic| o_law) => `(tactic| apply my_law)
local macro_rules | `(tactic| o_head $H) => `(tactic| (apply my_open $H; kernel_rfl))
open_top hd for PySem.Challenge.rw_xg0029_01
end Mine.Internal
namespace Mine.Internal
noncomputable def Def1 (P : Params) (a : Addr) (nm : List Str) (Φ : Tab) (W : List D → (D → Prop) → Prop) : Prop :=
  ∃ scope body ps, (∀ h, (hd.heap_1 P).In h → FnAt h a scope body ps) ∧ scFn scope ps = true ∧ okSs (okS (okE nm 30) scope.names 10) body = true ∧
    ∀ ds post, W ds post → fnW Φ scope.names ps body ds post

theorem bind_of {fd : FuncData} {ps : List Str} (n : Nat) (hn : n = ps.length) (h : ∀ vals : List Value, vals.length = n → bindArgs fd ⟨vals, []⟩ = pure (ps.zip vals)) :
  ∀ vals : List Value, vals.length = ps.length → bindArgs fd ⟨vals, []⟩ = pure (ps.zip vals) := fun vals hv => h vals (hv.trans hn.symm)
theorem len1 {α : Type} {p : List α → Prop} (h : ∀ a, p [a]) : ∀ l : List α, l.length = 1 → p l
  | [a], _ => h a
theorem len2 {α : Type} {p : List α → Prop} (h : ∀ a b, p [a, b]) : ∀ l : List α, l.length = 2 → p l
  | [a, b], _ => h a b
theorem len3 {α : Type} {p : List α → Prop} (h : ∀ a b c, p [a, b, c]) : ∀ l : List α, l.length = 3 → p l
  | [a, b, c], _ => h a b c

noncomputable def lumaF (r g b : UInt64) : UInt64 := Float64.add (Float64.add (Float64.mul 4599075939470750515 r) (Float64.mul 4603489467105573601 g)) (Float64.mul 4592590756007337001 b)
noncomputable def warmF (r g b : UInt64) : UInt64 := Float64.sub (Float64.mul 4604840546993784750 (Float64.sub r (lumaF r g b))) (Float64.mul 4598535507515466056 (Float64.sub b (lumaF r g b)))
noncomputable def coldF (r g b : UInt64) : UInt64 := Float64.add (Float64.mul 4602318531202457272 (Float64.sub r (lumaF r g b))) (Float64.mul 4601057523306793533 (Float64.sub b (lumaF r g b)))

noncomputable def rgbW (ds : List D) (post : D → Prop) : Prop := ∃ r g b, ds = [.flt r, .flt g, .flt b] ∧ post (.tup [.flt (lumaF r g b), .flt (warmF r g b), .flt (coldF r g b)])

set_option maxHeartbeats 4000000 in
theorem d_rgb (P : Params) (Φ : Tab) : Def1 P 21 [] Φ rgbW := by
  refine ⟨_, _, [Str.ofString "r", Str.ofString "g", Str.ofString "b"], fun h X => ⟨_, _, X 21 _ rfl, rfl, rfl, rfl, rfl, rfl, rfl, codeRec_of X (by kernel_rfl), len3 fun a b c => rfl⟩, by decide +kernel, by decide +kernel, ?_⟩
  intro ds post hp
  obtain ⟨x1, x2, x3, rfl, hp⟩ := hp
  · refine ⟨rfl, ?_⟩
    simp only [List.zip_cons_cons, List.zip_nil_right]
    (simp only [↓n_here, ↓n_off, ↓n_none, ↓n_bindHere, ↓n_bindOff, ↓n_inner, ↓r_here, ↓r_off, ↓r_mu, ↓is_F, ↓is_I, ↓is_K, ↓e_int, ↓e_flt, ↓e_str, ↓e_byt, ↓e_bool, ↓e_name, ↓e_bin, ↓e_neg, ↓e_list, ↓e_tup, ↓e_dict0, ↓e_dict1, ↓e_cmp, ↓e_and, ↓e_slice, ↓e_sub1, ↓e_sub2, ↓e_sub3, ↓e_sub4, ↓e_att, ↓e_meth, ↓e_call, ↓e_isi, ↓e_comp, ↓e_dcomp, ↓e_ifN, ↓e_ifc, ↓ss_nil, ↓ss_cons, ↓s_nilM, ↓s_dictM, ↓s_dictN, ↓s_bin, ↓s_call, ↓s_comp, ↓s_const, ↓s_list, ↓s_sub, ↓s_neg, ↓s_tup2, ↓s_tup3, ↓s_put, ↓s_aug, ↓s_augput, ↓s_items, ↓s_values, ↓s_for, ↓s_forN, ↓s_forA, ↓s_while, ↓s_clamp, ↓s_ret, ↓s_in, ↓s_ifNotEqRaise, ↓s_ifNotEqRet, ↓s_ifNotEqAsg, ↓s_ifEqIf, ↓s_ifLtRet, ↓s_ifGtRet, ↓s_ifOr, ↓s_ifIsi, ↓s_retT, ↓s_retC, ↓s_retK, ↓s_retU, ↓s_retB, ↓s_app, ↓s_brk, ↓b_iadd, ↓b_isub, ↓b_imul, ↓b_ifd, ↓b_imod, ↓b_ipow, ↓b_idiv, ↓b_fadd, ↓b_fsub, ↓b_fmul, ↓b_ifmul, ↓b_ladd, ↓b_sadd, ↓b_badd, ↓b_smul, ↓c_ieq, ↓c_ine, ↓c_ilt, ↓c_igt, ↓c_ige, ↓c_flt, ↓c_fgt, ↓c_seq, ↓c_sne, ↓c_tgt, ↓l_nil, ↓l_cons, ↓t_cmp, ↓t_name, ↓t_sub, ↓t_call, ↓t_and, ↓t_or, ↓t1_cmp, ↓t1_sub, ↓tr_b, ↓tr_i, ↓u_pair, ↓u_three, ↓m_none, ↓m_some, ↓o_none, ↓o_some, ↓i_list, ↓i_tup, ↓i_range, ↓x_str, ↓x_byt, ↓k_range1, ↓k_range2, ↓k_lenL, ↓k_lenS, ↓k_sum, ↓k_round, ↓k_min, ↓k_max, ↓k_abs, ↓k_int, ↓k_divmod, ↓k_fn, ↓w_count, ↓w_rjust, ↓w_cmp, ↓p_count, ↓p_rjust, ↓p_cmp, ↓z_bhh, ↓z_s0h, ↓z_slh, ↓z_lst, ↓f_nil, ↓f_cons, ↓ts_nil, ↓ts_one, ↓true_and, ↓and_true, ↓if_true, ↓if_false, ne_eq, strEq, String.reduceEq, not_false_eq_true, not_true_eq_false, ↓reduceCtorEq, ↓List.append_nil, ↓reduceIte, List.mem_cons, List.not_mem_nil, or_false, false_or, or_self, mut_eq, decide_true, decide_false, Bool.or_true, Bool.true_or, Bool.or_false, Bool.or_self, List.lookup_cons, strBeq])
    exact ⟨by simp, hp⟩

noncomputable def clampF (x : UInt64) : UInt64 :=
  if (Float64.cmp (if (Float64.cmp x 0 == some .lt) = true then 0 else x) 4607182418800017408 == some .gt) = true then 4607182418800017408 else (if (Float64.cmp x 0 == some .lt) = true then 0 else x)
noncomputable def redF (y i q : UInt64) : UInt64 := Float64.add (Float64.add y (Float64.mul 4606703976345377586 i)) (Float64.mul 4603791717925830846 q)
noncomputable def greenF (y i q : UInt64) : UInt64 := Float64.sub (Float64.sub y (Float64.mul 4598621754083818298 i)) (Float64.mul 4603901015759978483 q)
noncomputable def blueF (y i q : UInt64) : UInt64 := Float64.add (Float64.sub y (Float64.mul 4607671262177584182 i)) (Float64.mul 4610375502138591871 q)
noncomputable def yiqW (ds : List D) (post : D → Prop) : Prop := ∃ y i q, ds = [.flt y, .flt i, .flt q] ∧ post (.tup [.flt (clampF (redF y i q)), .flt (clampF (greenF y i q)), .flt (clampF (blueF y i q))])

set_option maxHeartbeats 4000000 in
theorem d_yiq (P : Params) (Φ : Tab) : Def1 P 28 [] Φ yiqW := by
  refine ⟨_, _, [Str.ofString "y", Str.ofString "i", Str.ofString "q"], fun h X => ⟨_, _, X 28 _ rfl, rfl, rfl, rfl, rfl, rfl, rfl, codeRec_of X (by kernel_rfl), len3 fun a b c => rfl⟩, by decide +kernel, by decide +kernel, ?_⟩
  intro ds post hp
  obtain ⟨x1, x2, x3, rfl, hp⟩ := hp
  · refine ⟨rfl, ?_⟩
    simp only [List.zip_cons_cons, List.zip_nil_right]
    (simp only [↓n_here, ↓n_off, ↓n_none, ↓n_bindHere, ↓n_bindOff, ↓n_inner, ↓r_here, ↓r_off, ↓r_mu, ↓is_F, ↓is_I, ↓is_K, ↓e_int, ↓e_flt, ↓e_str, ↓e_byt, ↓e_bool, ↓e_name, ↓e_bin, ↓e_neg, ↓e_list, ↓e_tup, ↓e_dict0, ↓e_dict1, ↓e_cmp, ↓e_and, ↓e_slice, ↓e_sub1, ↓e_sub2, ↓e_sub3, ↓e_sub4, ↓e_att, ↓e_meth, ↓e_call, ↓e_isi, ↓e_comp, ↓e_dcomp, ↓e_ifN, ↓e_ifc, ↓ss_nil, ↓ss_cons, ↓s_nilM, ↓s_dictM, ↓s_dictN, ↓s_bin, ↓s_call, ↓s_comp, ↓s_const, ↓s_list, ↓s_sub, ↓s_neg, ↓s_tup2, ↓s_tup3, ↓s_put, ↓s_aug, ↓s_augput, ↓s_items, ↓s_values, ↓s_for, ↓s_forN, ↓s_forA, ↓s_while, ↓s_clamp, ↓s_ret, ↓s_in, ↓s_ifNotEqRaise, ↓s_ifNotEqRet, ↓s_ifNotEqAsg, ↓s_ifEqIf, ↓s_ifLtRet, ↓s_ifGtRet, ↓s_ifOr, ↓s_ifIsi, ↓s_retT, ↓s_retC, ↓s_retK, ↓s_retU, ↓s_retB, ↓s_app, ↓s_brk, ↓b_iadd, ↓b_isub, ↓b_imul, ↓b_ifd, ↓b_imod, ↓b_ipow, ↓b_idiv, ↓b_fadd, ↓b_fsub, ↓b_fmul, ↓b_ifmul, ↓b_ladd, ↓b_sadd, ↓b_badd, ↓b_smul, ↓c_ieq, ↓c_ine, ↓c_ilt, ↓c_igt, ↓c_ige, ↓c_flt, ↓c_fgt, ↓c_seq, ↓c_sne, ↓c_tgt, ↓l_nil, ↓l_cons, ↓t_cmp, ↓t_name, ↓t_sub, ↓t_call, ↓t_and, ↓t_or, ↓t1_cmp, ↓t1_sub, ↓tr_b, ↓tr_i, ↓u_pair, ↓u_three, ↓m_none, ↓m_some, ↓o_none, ↓o_some, ↓i_list, ↓i_tup, ↓i_range, ↓x_str, ↓x_byt, ↓k_range1, ↓k_range2, ↓k_lenL, ↓k_lenS, ↓k_sum, ↓k_round, ↓k_min, ↓k_max, ↓k_abs, ↓k_int, ↓k_divmod, ↓k_fn, ↓w_count, ↓w_rjust, ↓w_cmp, ↓p_count, ↓p_rjust, ↓p_cmp, ↓z_bhh, ↓z_s0h, ↓z_slh, ↓z_lst, ↓f_nil, ↓f_cons, ↓ts_nil, ↓ts_one, ↓true_and, ↓and_true, ↓if_true, ↓if_false, ne_eq, strEq, String.reduceEq, not_false_eq_true, not_true_eq_false, ↓reduceCtorEq, ↓List.append_nil, ↓reduceIte, List.mem_cons, List.not_mem_nil, or_false, false_or, or_self, mut_eq, decide_true, decide_false, Bool.or_true, Bool.true_or, Bool.or_false, Bool.or_self, List.lookup_cons, strBeq])
    exact ⟨by simp, hp⟩

noncomputable def apF : Nat → Nat → List UInt8
  | 0, _ => []
  | k + 1, n => if n = 0 then [] else apF k (n / 16) ++ [65 + UInt8.ofNat (n % 16)]
noncomputable def apOf (n : Nat) : List UInt8 := apF n n
theorem apF_fuel : ∀ k n m : Nat, n ≤ k → n ≤ m → apF k n = apF m n
  | 0, n, m, h1, _ => by
    have : n = 0 := by omega
    subst this
    cases m <;> rfl
  | k + 1, n, 0, _, h2 => by
    have : n = 0 := by omega
    subst this
    rfl
  | k + 1, n, m + 1, h1, h2 => by
    unfold apF
    by_cases h : n = 0
    · rw [if_pos h, if_pos h]
    · rw [if_neg h, if_neg h, apF_fuel k (n / 16) m (by omega) (by omega)]
theorem apOf_zero : apOf 0 = [] := rfl
theorem apOf_succ (n : Nat) : apOf (n + 1) = apOf ((n + 1) / 16) ++ [65 + UInt8.ofNat ((n + 1) % 16)] := by
  show apF (n + 1) (n + 1) = _
  rw [apF, if_neg (by omega), apF_fuel n ((n + 1) / 16) ((n + 1) / 16) (by omega) (Nat.le_refl _)]
  rfl

noncomputable def apW (ds : List D) (post : D → Prop) : Prop := ∃ n, ds = [.int n] ∧ n.natAbs < 16777216 ∧ post (.byt (apOf n.natAbs))

set_option maxHeartbeats 4000000 in
theorem d_ap (P : Params) (Φ : Tab) : Def1 P 67 [] Φ apW := by
  refine ⟨_, _, [Str.ofString "num"], fun h X => ⟨_, _, X 67 _ rfl, rfl, rfl, rfl, rfl, rfl, rfl, codeRec_of X (by kernel_rfl), len1 fun a => rfl⟩, by decide +kernel, by decide +kernel, ?_⟩
  intro ds post hp
  obtain ⟨n0, rfl, hp⟩ := hp
  · refine ⟨rfl, ?_⟩
    simp only [List.zip_cons_cons, List.zip_nil_right]
    (simp only [↓n_here, ↓n_off, ↓n_none, ↓n_bindHere, ↓n_bindOff, ↓n_inner, ↓r_here, ↓r_off, ↓r_mu, ↓is_F, ↓is_I, ↓is_K, ↓e_int, ↓e_flt, ↓e_str, ↓e_byt, ↓e_bool, ↓e_name, ↓e_bin, ↓e_neg, ↓e_list, ↓e_tup, ↓e_dict0, ↓e_dict1, ↓e_cmp, ↓e_and, ↓e_slice, ↓e_sub1, ↓e_sub2, ↓e_sub3, ↓e_sub4, ↓e_att, ↓e_meth, ↓e_call, ↓e_isi, ↓e_comp, ↓e_dcomp, ↓e_ifN, ↓e_ifc, ↓ss_nil, ↓ss_cons, ↓s_nilM, ↓s_dictM, ↓s_dictN, ↓s_bin, ↓s_call, ↓s_comp, ↓s_const, ↓s_list, ↓s_sub, ↓s_neg, ↓s_tup2, ↓s_tup3, ↓s_put, ↓s_aug, ↓s_augput, ↓s_items, ↓s_values, ↓s_for, ↓s_forN, ↓s_forA, ↓s_while, ↓s_clamp, ↓s_ret, ↓s_in, ↓s_ifNotEqRaise, ↓s_ifNotEqRet, ↓s_ifNotEqAsg, ↓s_ifEqIf, ↓s_ifLtRet, ↓s_ifGtRet, ↓s_ifOr, ↓s_ifIsi, ↓s_retT, ↓s_retC, ↓s_retK, ↓s_retU, ↓s_retB, ↓s_app, ↓s_brk, ↓b_iadd, ↓b_isub, ↓b_imul, ↓b_ifd, ↓b_imod, ↓b_ipow, ↓b_idiv, ↓b_fadd, ↓b_fsub, ↓b_fmul, ↓b_ifmul, ↓b_ladd, ↓b_sadd, ↓b_badd, ↓b_smul, ↓c_ieq, ↓c_ine, ↓c_ilt, ↓c_igt, ↓c_ige, ↓c_flt, ↓c_fgt, ↓c_seq, ↓c_sne, ↓c_tgt, ↓l_nil, ↓l_cons, ↓t_cmp, ↓t_name, ↓t_sub, ↓t_call, ↓t_and, ↓t_or, ↓t1_cmp, ↓t1_sub, ↓tr_b, ↓tr_i, ↓u_pair, ↓u_three, ↓m_none, ↓m_some, ↓o_none, ↓o_some, ↓i_list, ↓i_tup, ↓i_range, ↓x_str, ↓x_byt, ↓k_range1, ↓k_range2, ↓k_lenL, ↓k_lenS, ↓k_sum, ↓k_round, ↓k_min, ↓k_max, ↓k_abs, ↓k_int, ↓k_divmod, ↓k_fn, ↓w_count, ↓w_rjust, ↓w_cmp, ↓p_count, ↓p_rjust, ↓p_cmp, ↓z_bhh, ↓z_s0h, ↓z_slh, ↓z_lst, ↓f_nil, ↓f_cons, ↓ts_nil, ↓ts_one, ↓true_and, ↓and_true, ↓if_true, ↓if_false, ne_eq, strEq, String.reduceEq, not_false_eq_true, not_true_eq_false, ↓reduceCtorEq, ↓List.append_nil, ↓reduceIte, List.mem_cons, List.not_mem_nil, or_false, false_or, or_self, mut_eq, decide_true, decide_false, Bool.or_true, Bool.true_or, Bool.or_false, Bool.or_self, List.lookup_cons, strBeq])
    obtain ⟨hb, hp⟩ := hp
    refine ⟨n0.natAbs + 1, while_rule (fun f ρ => ∃ (k : Nat) (v : List UInt8), k < f ∧ v.length ≤ 6 ∧ k < 16 ^ (6 - v.length) ∧ ρ "num" = some (.int k) ∧ ρ "val" = some (.byt v) ∧ ρ "AP" = some (.byt [65, 66, 67, 68, 69, 70, 71, 72, 73, 74, 75, 76, 77, 78, 79, 80]) ∧
        apOf n0.natAbs = apOf k ++ v) (fun ρ ⟨k, v, h, _⟩ => by omega) ?_ _ _ ⟨n0.natAbs, [], Nat.lt_succ_self _, by simp, by simpa using hb, ?_, ?_, ?_, by simp⟩⟩
    · rintro f ρ K ⟨k, v, hf, hk, hv, h1, h2, h3, he⟩ hK
      rw [n_at h1]
      show _ ∧ _
      cases k with
      | zero =>
        refine ⟨fun e => (by cases e), fun _ => ?_⟩
        dsimp only
        rw [r_at h2]
        rw [he] at hp
        simpa [apOf_zero] using hp
      | succ k =>
        refine ⟨fun _ => ?_, fun e => by simp at e; omega⟩
        rw [n_at h1, k_divmod]
        refine ⟨⟨by decide, PyProof.noPylong_small (by decide)⟩, ?_⟩
        rw [m_none, m_none, u_pair]
        refine ⟨⟨trivial, trivial⟩, ?_⟩
        have q1 : (((k + 1 : Nat) : Int)).fdiv 16 = (((k + 1) / 16 : Nat) : Int) := by
          rw [Int.fdiv_eq_ediv_of_nonneg _ (by decide)]; simp
        have q2 : (((k + 1 : Nat) : Int)).fmod 16 = (((k + 1) % 16 : Nat) : Int) := by
          rw [Int.fmod_eq_emod_of_nonneg _ (by decide)]; simp
        rw [q1, q2]
        have hA : (setR (setR ρ (Str.ofString "num") (D.int ((k + 1) / 16 : Nat))) (Str.ofString "mod") (D.int ((k + 1) % 16 : Nat))) "AP" = some (.byt [65, 66, 67, 68, 69, 70, 71, 72, 73, 74, 75, 76, 77, 78, 79, 80]) := by
          rw [setR_off (by rw [ne_eq, strEq]; simp), setR_off (by rw [ne_eq, strEq]; simp)]; exact h3
        have hV : (setR (setR ρ (Str.ofString "num") (D.int ((k + 1) / 16 : Nat))) (Str.ofString "mod") (D.int ((k + 1) % 16 : Nat))) "val" = some (.byt v) := by
          rw [setR_off (by rw [ne_eq, strEq]; simp), setR_off (by rw [ne_eq, strEq]; simp)]; exact h2
        rw [n_at hA]
        (simp only [↓n_here, ↓n_off, ↓n_none, ↓n_bindHere, ↓n_bindOff, ↓n_inner, ↓r_here, ↓r_off, ↓r_mu, ↓is_F, ↓is_I, ↓is_K, ↓e_int, ↓e_flt, ↓e_str, ↓e_byt, ↓e_bool, ↓e_name, ↓e_bin, ↓e_neg, ↓e_list, ↓e_tup, ↓e_dict0, ↓e_dict1, ↓e_cmp, ↓e_and, ↓e_slice, ↓e_sub1, ↓e_sub2, ↓e_sub3, ↓e_sub4, ↓e_att, ↓e_meth, ↓e_call, ↓e_isi, ↓e_comp, ↓e_dcomp, ↓e_ifN, ↓e_ifc, ↓ss_nil, ↓ss_cons, ↓s_nilM, ↓s_dictM, ↓s_dictN, ↓s_bin, ↓s_call, ↓s_comp, ↓s_const, ↓s_list, ↓s_sub, ↓s_neg, ↓s_tup2, ↓s_tup3, ↓s_put, ↓s_aug, ↓s_augput, ↓s_items, ↓s_values, ↓s_for, ↓s_forN, ↓s_forA, ↓s_while, ↓s_clamp, ↓s_ret, ↓s_in, ↓s_ifNotEqRaise, ↓s_ifNotEqRet, ↓s_ifNotEqAsg, ↓s_ifEqIf, ↓s_ifLtRet, ↓s_ifGtRet, ↓s_ifOr, ↓s_ifIsi, ↓s_retT, ↓s_retC, ↓s_retK, ↓s_retU, ↓s_retB, ↓s_app, ↓s_brk, ↓b_iadd, ↓b_isub, ↓b_imul, ↓b_ifd, ↓b_imod, ↓b_ipow, ↓b_idiv, ↓b_fadd, ↓b_fsub, ↓b_fmul, ↓b_ifmul, ↓b_ladd, ↓b_sadd, ↓b_badd, ↓b_smul, ↓c_ieq, ↓c_ine, ↓c_ilt, ↓c_igt, ↓c_ige, ↓c_flt, ↓c_fgt, ↓c_seq, ↓c_sne, ↓c_tgt, ↓l_nil, ↓l_cons, ↓t_cmp, ↓t_name, ↓t_sub, ↓t_call, ↓t_and, ↓t_or, ↓t1_cmp, ↓t1_sub, ↓tr_b, ↓tr_i, ↓u_pair, ↓u_three, ↓m_none, ↓m_some, ↓o_none, ↓o_some, ↓i_list, ↓i_tup, ↓i_range, ↓x_str, ↓x_byt, ↓k_range1, ↓k_range2, ↓k_lenL, ↓k_lenS, ↓k_sum, ↓k_round, ↓k_min, ↓k_max, ↓k_abs, ↓k_int, ↓k_divmod, ↓k_fn, ↓w_count, ↓w_rjust, ↓w_cmp, ↓p_count, ↓p_rjust, ↓p_cmp, ↓z_bhh, ↓z_s0h, ↓z_slh, ↓z_lst, ↓f_nil, ↓f_cons, ↓ts_nil, ↓ts_one, ↓true_and, ↓and_true, ↓if_true, ↓if_false, ne_eq, strEq, String.reduceEq, not_false_eq_true, not_true_eq_false, ↓reduceCtorEq, ↓List.append_nil, ↓reduceIte, List.mem_cons, List.not_mem_nil, or_false, false_or, or_self, mut_eq, decide_true, decide_false, Bool.or_true, Bool.true_or, Bool.or_false, Bool.or_self, List.lookup_cons, strBeq])
        have hm : (k + 1) % 16 < 16 := Nat.mod_lt _ (by decide)
        have hpick : ∀ m : Nat, m < 16 → (KBy.picked (#[65, 66, 67, 68, 69, 70, 71, 72, 73, 74, 75, 76, 77, 78, 79, 80] : Array UInt8) (some (m : Int)) (some ((m : Int) + 1))).toList = [65 + UInt8.ofNat m] := by
          decide +kernel
        refine ⟨by simp, ?_⟩
        rw [n_at h2]
        (simp only [↓n_here, ↓n_off, ↓n_none, ↓n_bindHere, ↓n_bindOff, ↓n_inner, ↓r_here, ↓r_off, ↓r_mu, ↓is_F, ↓is_I, ↓is_K, ↓e_int, ↓e_flt, ↓e_str, ↓e_byt, ↓e_bool, ↓e_name, ↓e_bin, ↓e_neg, ↓e_list, ↓e_tup, ↓e_dict0, ↓e_dict1, ↓e_cmp, ↓e_and, ↓e_slice, ↓e_sub1, ↓e_sub2, ↓e_sub3, ↓e_sub4, ↓e_att, ↓e_meth, ↓e_call, ↓e_isi, ↓e_comp, ↓e_dcomp, ↓e_ifN, ↓e_ifc, ↓ss_nil, ↓ss_cons, ↓s_nilM, ↓s_dictM, ↓s_dictN, ↓s_bin, ↓s_call, ↓s_comp, ↓s_const, ↓s_list, ↓s_sub, ↓s_neg, ↓s_tup2, ↓s_tup3, ↓s_put, ↓s_aug, ↓s_augput, ↓s_items, ↓s_values, ↓s_for, ↓s_forN, ↓s_forA, ↓s_while, ↓s_clamp, ↓s_ret, ↓s_in, ↓s_ifNotEqRaise, ↓s_ifNotEqRet, ↓s_ifNotEqAsg, ↓s_ifEqIf, ↓s_ifLtRet, ↓s_ifGtRet, ↓s_ifOr, ↓s_ifIsi, ↓s_retT, ↓s_retC, ↓s_retK, ↓s_retU, ↓s_retB, ↓s_app, ↓s_brk, ↓b_iadd, ↓b_isub, ↓b_imul, ↓b_ifd, ↓b_imod, ↓b_ipow, ↓b_idiv, ↓b_fadd, ↓b_fsub, ↓b_fmul, ↓b_ifmul, ↓b_ladd, ↓b_sadd, ↓b_badd, ↓b_smul, ↓c_ieq, ↓c_ine, ↓c_ilt, ↓c_igt, ↓c_ige, ↓c_flt, ↓c_fgt, ↓c_seq, ↓c_sne, ↓c_tgt, ↓l_nil, ↓l_cons, ↓t_cmp, ↓t_name, ↓t_sub, ↓t_call, ↓t_and, ↓t_or, ↓t1_cmp, ↓t1_sub, ↓tr_b, ↓tr_i, ↓u_pair, ↓u_three, ↓m_none, ↓m_some, ↓o_none, ↓o_some, ↓i_list, ↓i_tup, ↓i_range, ↓x_str, ↓x_byt, ↓k_range1, ↓k_range2, ↓k_lenL, ↓k_lenS, ↓k_sum, ↓k_round, ↓k_min, ↓k_max, ↓k_abs, ↓k_int, ↓k_divmod, ↓k_fn, ↓w_count, ↓w_rjust, ↓w_cmp, ↓p_count, ↓p_rjust, ↓p_cmp, ↓z_bhh, ↓z_s0h, ↓z_slh, ↓z_lst, ↓f_nil, ↓f_cons, ↓ts_nil, ↓ts_one, ↓true_and, ↓and_true, ↓if_true, ↓if_false, ne_eq, strEq, String.reduceEq, not_false_eq_true, not_true_eq_false, ↓reduceCtorEq, ↓List.append_nil, ↓reduceIte, List.mem_cons, List.not_mem_nil, or_false, false_or, or_self, mut_eq, decide_true, decide_false, Bool.or_true, Bool.true_or, Bool.or_false, Bool.or_self, List.lookup_cons, strBeq])
        rw [hpick _ hm]
        have hv6 : v.length < 6 := by
          rcases Nat.lt_or_ge v.length 6 with h | h
          · exact h
          · rw [show 6 - v.length = 0 by omega] at hv; omega
        have hdiv : (k + 1) / 16 < 16 ^ (6 - (v.length + 1)) := by
          rw [show 6 - v.length = (6 - (v.length + 1)) + 1 by omega, Nat.pow_succ] at hv
          exact Nat.div_lt_of_lt_mul (by rw [Nat.mul_comm]; exact hv)
        refine ⟨by simp; omega, hK _ ⟨(k + 1) / 16, [65 + UInt8.ofNat ((k + 1) % 16)] ++ v, by omega, by simp; omega, by simpa [Nat.add_comm] using hdiv, ?_, ?_, ?_, ?_⟩⟩
        · rw [setR_off (by rw [ne_eq, strEq]; simp), setR_off (by rw [ne_eq, strEq]; simp)]; exact setR_here
        · exact setR_here
        · rw [setR_off (by rw [ne_eq, strEq]; simp)]; exact hA
        · rw [he, apOf_succ]; simp
    · rw [setR_here]
      congr 2
      split <;> omega
    · rw [setR_off (by rw [ne_eq, strEq]; simp), setR_off (by rw [ne_eq, strEq]; simp)]; exact setR_here
    · rw [setR_off (by rw [ne_eq, strEq]; simp)]; exact setR_here

noncomputable def countW (ds : List D) (post : D → Prop) : Prop := ∃ ks, ds = [.dict ks] ∧ post (.int (ks.map (·.2)).sum)

theorem for_rule {turn : D → Rho → Mu → Post → Prop} {post : Post} (I : List D → Rho → Mu → Prop) (hend : ∀ ρ μ, I [] ρ μ → post .next ρ μ)
    (hturn : ∀ d r ρ μ (K : Rho → Mu → Prop), I (d :: r) ρ μ → (∀ ρ' μ', I r ρ' μ' → K ρ' μ') → turn d ρ μ fun fl ρ' μ' => match fl with
      | .next => K ρ' μ'
      | .brk => post .next ρ' μ'
      | .ret d => post (.ret d) ρ' μ') : ∀ ds ρ μ, I ds ρ μ → forW turn ds ρ μ post
  | [], ρ, μ, h => hend ρ μ h
  | d :: r, ρ, μ, h => hturn d r ρ μ (fun ρ' μ' => forW turn r ρ' μ' post) h fun ρ' μ' h' => for_rule I hend hturn r ρ' μ' h'

set_option maxHeartbeats 4000000 in
theorem d_count (P : Params) (Φ : Tab) : Def1 P 109 [] Φ countW := by
  refine ⟨_, _, [Str.ofString "callers"], fun h X => ⟨_, _, X 109 _ rfl, rfl, rfl, rfl, rfl, rfl, rfl, codeRec_of X (by kernel_rfl), len1 fun a => rfl⟩, by decide +kernel, by decide +kernel, ?_⟩
  intro ds post hp
  obtain ⟨ks, rfl, hp⟩ := hp
  · refine ⟨rfl, ?_⟩
    simp only [List.zip_cons_cons, List.zip_nil_right]
    (simp only [↓n_here, ↓n_off, ↓n_none, ↓n_bindHere, ↓n_bindOff, ↓n_inner, ↓r_here, ↓r_off, ↓r_mu, ↓is_F, ↓is_I, ↓is_K, ↓e_int, ↓e_flt, ↓e_str, ↓e_byt, ↓e_bool, ↓e_name, ↓e_bin, ↓e_neg, ↓e_list, ↓e_tup, ↓e_dict0, ↓e_dict1, ↓e_cmp, ↓e_and, ↓e_slice, ↓e_sub1, ↓e_sub2, ↓e_sub3, ↓e_sub4, ↓e_att, ↓e_meth, ↓e_call, ↓e_isi, ↓e_comp, ↓e_dcomp, ↓e_ifN, ↓e_ifc, ↓ss_nil, ↓ss_cons, ↓s_nilM, ↓s_dictM, ↓s_dictN, ↓s_bin, ↓s_call, ↓s_comp, ↓s_const, ↓s_list, ↓s_sub, ↓s_neg, ↓s_tup2, ↓s_tup3, ↓s_put, ↓s_aug, ↓s_augput, ↓s_items, ↓s_values, ↓s_for, ↓s_forN, ↓s_forA, ↓s_while, ↓s_clamp, ↓s_ret, ↓s_in, ↓s_ifNotEqRaise, ↓s_ifNotEqRet, ↓s_ifNotEqAsg, ↓s_ifEqIf, ↓s_ifLtRet, ↓s_ifGtRet, ↓s_ifOr, ↓s_ifIsi, ↓s_retT, ↓s_retC, ↓s_retK, ↓s_retU, ↓s_retB, ↓s_app, ↓s_brk, ↓b_iadd, ↓b_isub, ↓b_imul, ↓b_ifd, ↓b_imod, ↓b_ipow, ↓b_idiv, ↓b_fadd, ↓b_fsub, ↓b_fmul, ↓b_ifmul, ↓b_ladd, ↓b_sadd, ↓b_badd, ↓b_smul, ↓c_ieq, ↓c_ine, ↓c_ilt, ↓c_igt, ↓c_ige, ↓c_flt, ↓c_fgt, ↓c_seq, ↓c_sne, ↓c_tgt, ↓l_nil, ↓l_cons, ↓t_cmp, ↓t_name, ↓t_sub, ↓t_call, ↓t_and, ↓t_or, ↓t1_cmp, ↓t1_sub, ↓tr_b, ↓tr_i, ↓u_pair, ↓u_three, ↓m_none, ↓m_some, ↓o_none, ↓o_some, ↓i_list, ↓i_tup, ↓i_range, ↓x_str, ↓x_byt, ↓k_range1, ↓k_range2, ↓k_lenL, ↓k_lenS, ↓k_sum, ↓k_round, ↓k_min, ↓k_max, ↓k_abs, ↓k_int, ↓k_divmod, ↓k_fn, ↓w_count, ↓w_rjust, ↓w_cmp, ↓p_count, ↓p_rjust, ↓p_cmp, ↓z_bhh, ↓z_s0h, ↓z_slh, ↓z_lst, ↓f_nil, ↓f_cons, ↓ts_nil, ↓ts_one, ↓true_and, ↓and_true, ↓if_true, ↓if_false, ne_eq, strEq, String.reduceEq, not_false_eq_true, not_true_eq_false, ↓reduceCtorEq, ↓List.append_nil, ↓reduceIte, List.mem_cons, List.not_mem_nil, or_false, false_or, or_self, mut_eq, decide_true, decide_false, Bool.or_true, Bool.true_or, Bool.or_false, Bool.or_self, List.lookup_cons, strBeq])
    refine for_rule (fun ds ρ μ => ∃ (s : Int) (r : List (Int × Int)), μ = none ∧ ds = r.map (fun p => D.int p.2) ∧ ρ "nc" = some (.int s) ∧ s + (r.map (·.2)).sum = (ks.map (·.2)).sum) ?_ ?_ _ _ _ ⟨0, ks, rfl, rfl, setR_here, by simp⟩
    · rintro ρ μ ⟨s, r, rfl, hr, hs, he⟩
      dsimp only
      rw [r_at hs]
      cases r with
      | nil => have : s = (ks.map (·.2)).sum := by simpa using he
               rw [this]; exact hp
      | cons _ _ => cases hr
    · rintro d r ρ μ K ⟨s, rr, rfl, hr, hs, he⟩ hK
      cases rr with
      | nil => cases hr
      | cons p rr =>
        simp only [List.map_cons, List.cons.injEq] at hr
        obtain ⟨rfl, rfl⟩ := hr
        have hs' : setR ρ "calls" (D.int p.2) "nc" = some (.int s) := by rw [setR_off (by rw [ne_eq, strEq]; simp)]; exact hs
        rw [m_none]
        refine ⟨trivial, ?_⟩
        (simp only [↓n_here, ↓n_off, ↓n_none, ↓n_bindHere, ↓n_bindOff, ↓n_inner, ↓r_here, ↓r_off, ↓r_mu, ↓is_F, ↓is_I, ↓is_K, ↓e_int, ↓e_flt, ↓e_str, ↓e_byt, ↓e_bool, ↓e_name, ↓e_bin, ↓e_neg, ↓e_list, ↓e_tup, ↓e_dict0, ↓e_dict1, ↓e_cmp, ↓e_and, ↓e_slice, ↓e_sub1, ↓e_sub2, ↓e_sub3, ↓e_sub4, ↓e_att, ↓e_meth, ↓e_call, ↓e_isi, ↓e_comp, ↓e_dcomp, ↓e_ifN, ↓e_ifc, ↓ss_nil, ↓ss_cons, ↓s_nilM, ↓s_dictM, ↓s_dictN, ↓s_bin, ↓s_call, ↓s_comp, ↓s_const, ↓s_list, ↓s_sub, ↓s_neg, ↓s_tup2, ↓s_tup3, ↓s_put, ↓s_aug, ↓s_augput, ↓s_items, ↓s_values, ↓s_for, ↓s_forN, ↓s_forA, ↓s_while, ↓s_clamp, ↓s_ret, ↓s_in, ↓s_ifNotEqRaise, ↓s_ifNotEqRet, ↓s_ifNotEqAsg, ↓s_ifEqIf, ↓s_ifLtRet, ↓s_ifGtRet, ↓s_ifOr, ↓s_ifIsi, ↓s_retT, ↓s_retC, ↓s_retK, ↓s_retU, ↓s_retB, ↓s_app, ↓s_brk, ↓b_iadd, ↓b_isub, ↓b_imul, ↓b_ifd, ↓b_imod, ↓b_ipow, ↓b_idiv, ↓b_fadd, ↓b_fsub, ↓b_fmul, ↓b_ifmul, ↓b_ladd, ↓b_sadd, ↓b_badd, ↓b_smul, ↓c_ieq, ↓c_ine, ↓c_ilt, ↓c_igt, ↓c_ige, ↓c_flt, ↓c_fgt, ↓c_seq, ↓c_sne, ↓c_tgt, ↓l_nil, ↓l_cons, ↓t_cmp, ↓t_name, ↓t_sub, ↓t_call, ↓t_and, ↓t_or, ↓t1_cmp, ↓t1_sub, ↓tr_b, ↓tr_i, ↓u_pair, ↓u_three, ↓m_none, ↓m_some, ↓o_none, ↓o_some, ↓i_list, ↓i_tup, ↓i_range, ↓x_str, ↓x_byt, ↓k_range1, ↓k_range2, ↓k_lenL, ↓k_lenS, ↓k_sum, ↓k_round, ↓k_min, ↓k_max, ↓k_abs, ↓k_int, ↓k_divmod, ↓k_fn, ↓w_count, ↓w_rjust, ↓w_cmp, ↓p_count, ↓p_rjust, ↓p_cmp, ↓z_bhh, ↓z_s0h, ↓z_slh, ↓z_lst, ↓f_nil, ↓f_cons, ↓ts_nil, ↓ts_one, ↓true_and, ↓and_true, ↓if_true, ↓if_false, ne_eq, strEq, String.reduceEq, not_false_eq_true, not_true_eq_false, ↓reduceCtorEq, ↓List.append_nil, ↓reduceIte, List.mem_cons, List.not_mem_nil, or_false, false_or, or_self, mut_eq, decide_true, decide_false, Bool.or_true, Bool.true_or, Bool.or_false, Bool.or_self, List.lookup_cons, strBeq])
        rw [n_at hs]
        (simp only [↓n_here, ↓n_off, ↓n_none, ↓n_bindHere, ↓n_bindOff, ↓n_inner, ↓r_here, ↓r_off, ↓r_mu, ↓is_F, ↓is_I, ↓is_K, ↓e_int, ↓e_flt, ↓e_str, ↓e_byt, ↓e_bool, ↓e_name, ↓e_bin, ↓e_neg, ↓e_list, ↓e_tup, ↓e_dict0, ↓e_dict1, ↓e_cmp, ↓e_and, ↓e_slice, ↓e_sub1, ↓e_sub2, ↓e_sub3, ↓e_sub4, ↓e_att, ↓e_meth, ↓e_call, ↓e_isi, ↓e_comp, ↓e_dcomp, ↓e_ifN, ↓e_ifc, ↓ss_nil, ↓ss_cons, ↓s_nilM, ↓s_dictM, ↓s_dictN, ↓s_bin, ↓s_call, ↓s_comp, ↓s_const, ↓s_list, ↓s_sub, ↓s_neg, ↓s_tup2, ↓s_tup3, ↓s_put, ↓s_aug, ↓s_augput, ↓s_items, ↓s_values, ↓s_for, ↓s_forN, ↓s_forA, ↓s_while, ↓s_clamp, ↓s_ret, ↓s_in, ↓s_ifNotEqRaise, ↓s_ifNotEqRet, ↓s_ifNotEqAsg, ↓s_ifEqIf, ↓s_ifLtRet, ↓s_ifGtRet, ↓s_ifOr, ↓s_ifIsi, ↓s_retT, ↓s_retC, ↓s_retK, ↓s_retU, ↓s_retB, ↓s_app, ↓s_brk, ↓b_iadd, ↓b_isub, ↓b_imul, ↓b_ifd, ↓b_imod, ↓b_ipow, ↓b_idiv, ↓b_fadd, ↓b_fsub, ↓b_fmul, ↓b_ifmul, ↓b_ladd, ↓b_sadd, ↓b_badd, ↓b_smul, ↓c_ieq, ↓c_ine, ↓c_ilt, ↓c_igt, ↓c_ige, ↓c_flt, ↓c_fgt, ↓c_seq, ↓c_sne, ↓c_tgt, ↓l_nil, ↓l_cons, ↓t_cmp, ↓t_name, ↓t_sub, ↓t_call, ↓t_and, ↓t_or, ↓t1_cmp, ↓t1_sub, ↓tr_b, ↓tr_i, ↓u_pair, ↓u_three, ↓m_none, ↓m_some, ↓o_none, ↓o_some, ↓i_list, ↓i_tup, ↓i_range, ↓x_str, ↓x_byt, ↓k_range1, ↓k_range2, ↓k_lenL, ↓k_lenS, ↓k_sum, ↓k_round, ↓k_min, ↓k_max, ↓k_abs, ↓k_int, ↓k_divmod, ↓k_fn, ↓w_count, ↓w_rjust, ↓w_cmp, ↓p_count, ↓p_rjust, ↓p_cmp, ↓z_bhh, ↓z_s0h, ↓z_slh, ↓z_lst, ↓f_nil, ↓f_cons, ↓ts_nil, ↓ts_one, ↓true_and, ↓and_true, ↓if_true, ↓if_false, ne_eq, strEq, String.reduceEq, not_false_eq_true, not_true_eq_false, ↓reduceCtorEq, ↓List.append_nil, ↓reduceIte, List.mem_cons, List.not_mem_nil, or_false, false_or, or_self, mut_eq, decide_true, decide_false, Bool.or_true, Bool.true_or, Bool.or_false, Bool.or_self, List.lookup_cons, strBeq])
        exact hK _ _ ⟨s + p.2, rr, rfl, rfl, setR_here, by simp only [List.map_cons, List.sum_cons] at he; omega⟩

noncomputable def addK (t u : List (Int × Int)) : List (Int × Int) := u.foldl (fun acc p => match acc.lookup p.1 with
  | some v => putK p.1 (v + p.2) acc
  | none => putK p.1 p.2 acc) (t.foldl (fun acc p => putK p.1 p.2 acc) [])
noncomputable def addW (ds : List D) (post : D → Prop) : Prop := ∃ t u, ds = [.dict t, .dict u] ∧ (t.length + u.length ≤ 100000) ∧ post (.dict (addK t u))

theorem putK_len (k v : Int) (l : List (Int × Int)) : (putK k v l).length ≤ l.length + 1 := by
  unfold putK
  split <;> simp

set_option maxHeartbeats 4000000 in
theorem d_add (P : Params) (Φ : Tab) : Def1 P 102 [] Φ addW := by
  refine ⟨_, _, [Str.ofString "target", Str.ofString "source"], fun h X => ⟨_, _, X 102 _ rfl, rfl, rfl, rfl, rfl, rfl, rfl, codeRec_of X (by kernel_rfl), len2 fun a b => rfl⟩, by decide +kernel, by decide +kernel, ?_⟩
  intro ds post hp
  obtain ⟨t, u, rfl, hp⟩ := hp
  · obtain ⟨hl, hp⟩ := hp
    refine ⟨rfl, ?_⟩
    simp only [List.zip_cons_cons, List.zip_nil_right]
    (simp only [↓n_here, ↓n_off, ↓n_none, ↓n_bindHere, ↓n_bindOff, ↓n_inner, ↓r_here, ↓r_off, ↓r_mu, ↓is_F, ↓is_I, ↓is_K, ↓e_int, ↓e_flt, ↓e_str, ↓e_byt, ↓e_bool, ↓e_name, ↓e_bin, ↓e_neg, ↓e_list, ↓e_tup, ↓e_dict0, ↓e_dict1, ↓e_cmp, ↓e_and, ↓e_slice, ↓e_sub1, ↓e_sub2, ↓e_sub3, ↓e_sub4, ↓e_att, ↓e_meth, ↓e_call, ↓e_isi, ↓e_comp, ↓e_dcomp, ↓e_ifN, ↓e_ifc, ↓ss_nil, ↓ss_cons, ↓s_nilM, ↓s_dictM, ↓s_dictN, ↓s_bin, ↓s_call, ↓s_comp, ↓s_const, ↓s_list, ↓s_sub, ↓s_neg, ↓s_tup2, ↓s_tup3, ↓s_put, ↓s_aug, ↓s_augput, ↓s_items, ↓s_values, ↓s_for, ↓s_forN, ↓s_forA, ↓s_while, ↓s_clamp, ↓s_ret, ↓s_in, ↓s_ifNotEqRaise, ↓s_ifNotEqRet, ↓s_ifNotEqAsg, ↓s_ifEqIf, ↓s_ifLtRet, ↓s_ifGtRet, ↓s_ifOr, ↓s_ifIsi, ↓s_retT, ↓s_retC, ↓s_retK, ↓s_retU, ↓s_retB, ↓s_app, ↓s_brk, ↓b_iadd, ↓b_isub, ↓b_imul, ↓b_ifd, ↓b_imod, ↓b_ipow, ↓b_idiv, ↓b_fadd, ↓b_fsub, ↓b_fmul, ↓b_ifmul, ↓b_ladd, ↓b_sadd, ↓b_badd, ↓b_smul, ↓c_ieq, ↓c_ine, ↓c_ilt, ↓c_igt, ↓c_ige, ↓c_flt, ↓c_fgt, ↓c_seq, ↓c_sne, ↓c_tgt, ↓l_nil, ↓l_cons, ↓t_cmp, ↓t_name, ↓t_sub, ↓t_call, ↓t_and, ↓t_or, ↓t1_cmp, ↓t1_sub, ↓tr_b, ↓tr_i, ↓u_pair, ↓u_three, ↓m_none, ↓m_some, ↓o_none, ↓o_some, ↓i_list, ↓i_tup, ↓i_range, ↓x_str, ↓x_byt, ↓k_range1, ↓k_range2, ↓k_lenL, ↓k_lenS, ↓k_sum, ↓k_round, ↓k_min, ↓k_max, ↓k_abs, ↓k_int, ↓k_divmod, ↓k_fn, ↓w_count, ↓w_rjust, ↓w_cmp, ↓p_count, ↓p_rjust, ↓p_cmp, ↓z_bhh, ↓z_s0h, ↓z_slh, ↓z_lst, ↓f_nil, ↓f_cons, ↓ts_nil, ↓ts_one, ↓true_and, ↓and_true, ↓if_true, ↓if_false, ne_eq, strEq, String.reduceEq, not_false_eq_true, not_true_eq_false, ↓reduceCtorEq, ↓List.append_nil, ↓reduceIte, List.mem_cons, List.not_mem_nil, or_false, false_or, or_self, mut_eq, decide_true, decide_false, Bool.or_true, Bool.true_or, Bool.or_false, Bool.or_self, List.lookup_cons, strBeq])
    refine for_rule (fun ds ρ μ => ∃ (acc r : List (Int × Int)), μ = some (("new_callers" : Str), D.dict acc) ∧ ds = r.map (fun p => D.tup [.int p.1, .int p.2]) ∧ ρ "source" = some (.dict u) ∧ ρ "new_callers" = none ∧ acc.length + r.length ≤ t.length ∧
      r.foldl (fun acc p => putK p.1 p.2 acc) acc = t.foldl (fun acc p => putK p.1 p.2 acc) []) ?_ ?_ _ _ _ ⟨[], t, rfl, rfl, ?_, ?_, by simp, rfl⟩
    · rintro ρ μ ⟨acc, r, rfl, hr, hs, hn, hlen, he⟩
      cases r with
      | cons _ _ => cases hr
      | nil =>
      simp only [List.foldl_nil] at he
      dsimp only
      rw [n_at hs]
      (simp only [↓n_here, ↓n_off, ↓n_none, ↓n_bindHere, ↓n_bindOff, ↓n_inner, ↓r_here, ↓r_off, ↓r_mu, ↓is_F, ↓is_I, ↓is_K, ↓e_int, ↓e_flt, ↓e_str, ↓e_byt, ↓e_bool, ↓e_name, ↓e_bin, ↓e_neg, ↓e_list, ↓e_tup, ↓e_dict0, ↓e_dict1, ↓e_cmp, ↓e_and, ↓e_slice, ↓e_sub1, ↓e_sub2, ↓e_sub3, ↓e_sub4, ↓e_att, ↓e_meth, ↓e_call, ↓e_isi, ↓e_comp, ↓e_dcomp, ↓e_ifN, ↓e_ifc, ↓ss_nil, ↓ss_cons, ↓s_nilM, ↓s_dictM, ↓s_dictN, ↓s_bin, ↓s_call, ↓s_comp, ↓s_const, ↓s_list, ↓s_sub, ↓s_neg, ↓s_tup2, ↓s_tup3, ↓s_put, ↓s_aug, ↓s_augput, ↓s_items, ↓s_values, ↓s_for, ↓s_forN, ↓s_forA, ↓s_while, ↓s_clamp, ↓s_ret, ↓s_in, ↓s_ifNotEqRaise, ↓s_ifNotEqRet, ↓s_ifNotEqAsg, ↓s_ifEqIf, ↓s_ifLtRet, ↓s_ifGtRet, ↓s_ifOr, ↓s_ifIsi, ↓s_retT, ↓s_retC, ↓s_retK, ↓s_retU, ↓s_retB, ↓s_app, ↓s_brk, ↓b_iadd, ↓b_isub, ↓b_imul, ↓b_ifd, ↓b_imod, ↓b_ipow, ↓b_idiv, ↓b_fadd, ↓b_fsub, ↓b_fmul, ↓b_ifmul, ↓b_ladd, ↓b_sadd, ↓b_badd, ↓b_smul, ↓c_ieq, ↓c_ine, ↓c_ilt, ↓c_igt, ↓c_ige, ↓c_flt, ↓c_fgt, ↓c_seq, ↓c_sne, ↓c_tgt, ↓l_nil, ↓l_cons, ↓t_cmp, ↓t_name, ↓t_sub, ↓t_call, ↓t_and, ↓t_or, ↓t1_cmp, ↓t1_sub, ↓tr_b, ↓tr_i, ↓u_pair, ↓u_three, ↓m_none, ↓m_some, ↓o_none, ↓o_some, ↓i_list, ↓i_tup, ↓i_range, ↓x_str, ↓x_byt, ↓k_range1, ↓k_range2, ↓k_lenL, ↓k_lenS, ↓k_sum, ↓k_round, ↓k_min, ↓k_max, ↓k_abs, ↓k_int, ↓k_divmod, ↓k_fn, ↓w_count, ↓w_rjust, ↓w_cmp, ↓p_count, ↓p_rjust, ↓p_cmp, ↓z_bhh, ↓z_s0h, ↓z_slh, ↓z_lst, ↓f_nil, ↓f_cons, ↓ts_nil, ↓ts_one, ↓true_and, ↓and_true, ↓if_true, ↓if_false, ne_eq, strEq, String.reduceEq, not_false_eq_true, not_true_eq_false, ↓reduceCtorEq, ↓List.append_nil, ↓reduceIte, List.mem_cons, List.not_mem_nil, or_false, false_or, or_self, mut_eq, decide_true, decide_false, Bool.or_true, Bool.true_or, Bool.or_false, Bool.or_self, List.lookup_cons, strBeq])
      refine for_rule (fun ds ρ μ => ∃ (acc r : List (Int × Int)), μ = some (("new_callers" : Str), D.dict acc) ∧ ds = r.map (fun p => D.tup [.int p.1, .int p.2]) ∧ ρ "new_callers" = none ∧ acc.length + r.length ≤ t.length + u.length ∧
        r.foldl (fun acc p => match acc.lookup p.1 with | some v => putK p.1 (v + p.2) acc | none => putK p.1 p.2 acc) acc = addK t u) ?_ ?_ _ _ _ ⟨acc, u, rfl, rfl, hn, by simp at hlen; omega, by unfold addK; rw [he]⟩
      · rintro ρ μ ⟨acc, r, rfl, hr, hn, hlen, he⟩
        cases r with
        | cons _ _ => cases hr
        | nil =>
        simp only [List.foldl_nil] at he
        subst he
        dsimp only
        have : retW ρ (some (("new_callers" : Str), D.dict (addK t u))) "new_callers" (fun d => post d) = post (.dict (addK t u)) := by
          unfold retW; rw [hn]; simp
        rw [this]
        exact hp
      · rintro d r ρ μ K ⟨acc, rr, rfl, hr, hn, hlen, he⟩ hK
        cases rr with
        | nil => cases hr
        | cons p rr =>
        simp only [List.map_cons, List.cons.injEq] at hr
        obtain ⟨rfl, rfl⟩ := hr
        (simp only [↓n_here, ↓n_off, ↓n_none, ↓n_bindHere, ↓n_bindOff, ↓n_inner, ↓r_here, ↓r_off, ↓r_mu, ↓is_F, ↓is_I, ↓is_K, ↓e_int, ↓e_flt, ↓e_str, ↓e_byt, ↓e_bool, ↓e_name, ↓e_bin, ↓e_neg, ↓e_list, ↓e_tup, ↓e_dict0, ↓e_dict1, ↓e_cmp, ↓e_and, ↓e_slice, ↓e_sub1, ↓e_sub2, ↓e_sub3, ↓e_sub4, ↓e_att, ↓e_meth, ↓e_call, ↓e_isi, ↓e_comp, ↓e_dcomp, ↓e_ifN, ↓e_ifc, ↓ss_nil, ↓ss_cons, ↓s_nilM, ↓s_dictM, ↓s_dictN, ↓s_bin, ↓s_call, ↓s_comp, ↓s_const, ↓s_list, ↓s_sub, ↓s_neg, ↓s_tup2, ↓s_tup3, ↓s_put, ↓s_aug, ↓s_augput, ↓s_items, ↓s_values, ↓s_for, ↓s_forN, ↓s_forA, ↓s_while, ↓s_clamp, ↓s_ret, ↓s_in, ↓s_ifNotEqRaise, ↓s_ifNotEqRet, ↓s_ifNotEqAsg, ↓s_ifEqIf, ↓s_ifLtRet, ↓s_ifGtRet, ↓s_ifOr, ↓s_ifIsi, ↓s_retT, ↓s_retC, ↓s_retK, ↓s_retU, ↓s_retB, ↓s_app, ↓s_brk, ↓b_iadd, ↓b_isub, ↓b_imul, ↓b_ifd, ↓b_imod, ↓b_ipow, ↓b_idiv, ↓b_fadd, ↓b_fsub, ↓b_fmul, ↓b_ifmul, ↓b_ladd, ↓b_sadd, ↓b_badd, ↓b_smul, ↓c_ieq, ↓c_ine, ↓c_ilt, ↓c_igt, ↓c_ige, ↓c_flt, ↓c_fgt, ↓c_seq, ↓c_sne, ↓c_tgt, ↓l_nil, ↓l_cons, ↓t_cmp, ↓t_name, ↓t_sub, ↓t_call, ↓t_and, ↓t_or, ↓t1_cmp, ↓t1_sub, ↓tr_b, ↓tr_i, ↓u_pair, ↓u_three, ↓m_none, ↓m_some, ↓o_none, ↓o_some, ↓i_list, ↓i_tup, ↓i_range, ↓x_str, ↓x_byt, ↓k_range1, ↓k_range2, ↓k_lenL, ↓k_lenS, ↓k_sum, ↓k_round, ↓k_min, ↓k_max, ↓k_abs, ↓k_int, ↓k_divmod, ↓k_fn, ↓w_count, ↓w_rjust, ↓w_cmp, ↓p_count, ↓p_rjust, ↓p_cmp, ↓z_bhh, ↓z_s0h, ↓z_slh, ↓z_lst, ↓f_nil, ↓f_cons, ↓ts_nil, ↓ts_one, ↓true_and, ↓and_true, ↓if_true, ↓if_false, ne_eq, strEq, String.reduceEq, not_false_eq_true, not_true_eq_false, ↓reduceCtorEq, ↓List.append_nil, ↓reduceIte, List.mem_cons, List.not_mem_nil, or_false, false_or, or_self, mut_eq, decide_true, decide_false, Bool.or_true, Bool.true_or, Bool.or_false, Bool.or_self, List.lookup_cons, strBeq])
        have hn' : setR (setR ρ "func" (.int p.1)) "caller" (.int p.2) "new_callers" = none := by
          rw [setR_off (by rw [ne_eq, strEq]; simp), setR_off (by rw [ne_eq, strEq]; simp)]; exact hn
        simp only [List.length_cons] at hlen
        have hpl := putK_len
        refine ⟨fun hin => ?_, fun hin => ?_⟩
        · refine ⟨fun e => (by cases e), fun _ => ?_⟩
          obtain ⟨v, hv⟩ := Option.isSome_iff_exists.mp hin
          rw [hv]
          dsimp only
          refine ⟨by omega, hK _ _ ⟨putK p.1 (v + p.2) acc, rr, rfl, rfl, hn', ?_, ?_⟩⟩
          · have := hpl p.1 (v + p.2) acc; omega
          · simp only [List.foldl_cons, hv] at he; exact he
        · have hv : acc.lookup p.1 = none := by
            cases q : acc.lookup p.1 with
            | none => rfl
            | some _ => rw [q] at hin; cases hin
          refine ⟨by omega, hK _ _ ⟨putK p.1 p.2 acc, rr, rfl, rfl, hn', ?_, ?_⟩⟩
          · have := hpl p.1 p.2 acc; omega
          · simp only [List.foldl_cons, hv] at he; exact he
    · rintro d r ρ μ K ⟨acc, rr, rfl, hr, hs, hn, hlen, he⟩ hK
      cases rr with
      | nil => cases hr
      | cons p rr =>
      simp only [List.map_cons, List.cons.injEq] at hr
      obtain ⟨rfl, rfl⟩ := hr
      (simp only [↓n_here, ↓n_off, ↓n_none, ↓n_bindHere, ↓n_bindOff, ↓n_inner, ↓r_here, ↓r_off, ↓r_mu, ↓is_F, ↓is_I, ↓is_K, ↓e_int, ↓e_flt, ↓e_str, ↓e_byt, ↓e_bool, ↓e_name, ↓e_bin, ↓e_neg, ↓e_list, ↓e_tup, ↓e_dict0, ↓e_dict1, ↓e_cmp, ↓e_and, ↓e_slice, ↓e_sub1, ↓e_sub2, ↓e_sub3, ↓e_sub4, ↓e_att, ↓e_meth, ↓e_call, ↓e_isi, ↓e_comp, ↓e_dcomp, ↓e_ifN, ↓e_ifc, ↓ss_nil, ↓ss_cons, ↓s_nilM, ↓s_dictM, ↓s_dictN, ↓s_bin, ↓s_call, ↓s_comp, ↓s_const, ↓s_list, ↓s_sub, ↓s_neg, ↓s_tup2, ↓s_tup3, ↓s_put, ↓s_aug, ↓s_augput, ↓s_items, ↓s_values, ↓s_for, ↓s_forN, ↓s_forA, ↓s_while, ↓s_clamp, ↓s_ret, ↓s_in, ↓s_ifNotEqRaise, ↓s_ifNotEqRet, ↓s_ifNotEqAsg, ↓s_ifEqIf, ↓s_ifLtRet, ↓s_ifGtRet, ↓s_ifOr, ↓s_ifIsi, ↓s_retT, ↓s_retC, ↓s_retK, ↓s_retU, ↓s_retB, ↓s_app, ↓s_brk, ↓b_iadd, ↓b_isub, ↓b_imul, ↓b_ifd, ↓b_imod, ↓b_ipow, ↓b_idiv, ↓b_fadd, ↓b_fsub, ↓b_fmul, ↓b_ifmul, ↓b_ladd, ↓b_sadd, ↓b_badd, ↓b_smul, ↓c_ieq, ↓c_ine, ↓c_ilt, ↓c_igt, ↓c_ige, ↓c_flt, ↓c_fgt, ↓c_seq, ↓c_sne, ↓c_tgt, ↓l_nil, ↓l_cons, ↓t_cmp, ↓t_name, ↓t_sub, ↓t_call, ↓t_and, ↓t_or, ↓t1_cmp, ↓t1_sub, ↓tr_b, ↓tr_i, ↓u_pair, ↓u_three, ↓m_none, ↓m_some, ↓o_none, ↓o_some, ↓i_list, ↓i_tup, ↓i_range, ↓x_str, ↓x_byt, ↓k_range1, ↓k_range2, ↓k_lenL, ↓k_lenS, ↓k_sum, ↓k_round, ↓k_min, ↓k_max, ↓k_abs, ↓k_int, ↓k_divmod, ↓k_fn, ↓w_count, ↓w_rjust, ↓w_cmp, ↓p_count, ↓p_rjust, ↓p_cmp, ↓z_bhh, ↓z_s0h, ↓z_slh, ↓z_lst, ↓f_nil, ↓f_cons, ↓ts_nil, ↓ts_one, ↓true_and, ↓and_true, ↓if_true, ↓if_false, ne_eq, strEq, String.reduceEq, not_false_eq_true, not_true_eq_false, ↓reduceCtorEq, ↓List.append_nil, ↓reduceIte, List.mem_cons, List.not_mem_nil, or_false, false_or, or_self, mut_eq, decide_true, decide_false, Bool.or_true, Bool.true_or, Bool.or_false, Bool.or_self, List.lookup_cons, strBeq])
      simp only [List.length_cons] at hlen
      refine ⟨by omega, hK _ _ ⟨putK p.1 p.2 acc, rr, rfl, rfl, ?_, ?_, ?_, ?_⟩⟩
      · rw [setR_off (by rw [ne_eq, strEq]; simp), setR_off (by rw [ne_eq, strEq]; simp)]; exact hs
      · rw [setR_off (by rw [ne_eq, strEq]; simp), setR_off (by rw [ne_eq, strEq]; simp)]; exact hn
      · have := putK_len p.1 p.2 acc; omega
      · simpa using he
    · rw [noneR_off (strNe (by decide)), bindR_off (strNe (by decide)), bindR_here]
    · exact noneR_here

theorem cut_lh {x : Str} {a b : Nat} (hab : a ≤ b) (hb : b ≤ x.length) : (strCut x (some (a : Int)) (some (b : Int))).cps.toList = (x.cps.toList.drop a).take (b - a) := by
  unfold strCut slicePicked
  simp only [Option.map_some, Option.map_none, Option.getD_none]
  split
  · rename_i h
    rw [StrLaws.strSliceIndices_plain hab hb] at h
    simp only [List.length_map, List.length_range, beq_iff_eq] at h
    have : a = 0 := by omega
    subst this
    have hx : x.length = x.cps.toList.length := by simp [Str.length]
    rw [List.drop_zero, List.take_of_length_le (by omega)]
  · rw [StrLaws.sliced_plain x hab hb]
theorem cut_0h {x : Str} {b : Nat} (hb : b ≤ x.length) : (strCut x none (some (b : Int))).cps.toList = x.cps.toList.take b := by
  have e : strCut x none (some (b : Int)) = strCut x (some ((0 : Nat) : Int)) (some (b : Int)) := by
    have e2 : slicePicked x none (some ((b : Int), 0)) none = slicePicked x (some (((0 : Nat) : Int), 0)) (some ((b : Int), 0)) none := by
      unfold slicePicked Builtin.Str.strSliceIndices
      simp
      rw [show max (0 : Int) (min 0 (x.length : Int)) = 0 by omega]
    unfold strCut
    simp only [Option.map_some, Option.map_none, e2]
  rw [e, cut_lh (Nat.zero_le _) hb]
  simp
theorem str_len {x : Str} : x.length = x.cps.toList.length := by simp [Str.length]
theorem str_at {x : Str} {L : List Nat} (h : x.cps.toList = L) {i c : Nat} (hc : L[i]? = some c) : x.cps[i]! = c := by
  have : x.cps[i]? = some c := by rw [← Array.getElem?_toList, h]; exact hc
  rw [getElem!_def, this]

noncomputable def parseW (ds : List D) (post : D → Prop) : Prop := ∃ (x : PySem.Str) (r : Nat) (T : List Nat), ds = [.str x] ∧ r ≤ 1000 ∧ T.length ≤ 100 ∧ x.cps.toList = [50, 53, 55, 32, 34] ++ List.replicate (2 * r + 1) 34 ++ 120 :: T ∧ post (.str ⟨(List.replicate r 34).toArray⟩)

set_option maxHeartbeats 4000000 in
theorem d_parse (P : Params) (Φ : Tab) : Def1 P 60 [] Φ parseW := by
  refine ⟨_, _, [Str.ofString "resp"], fun h X => ⟨_, _, X 60 _ rfl, rfl, rfl, rfl, rfl, rfl, rfl, codeRec_of X (by kernel_rfl), len1 fun a => rfl⟩, by decide +kernel, by decide +kernel, ?_⟩
  intro ds post hp
  obtain ⟨x, r, T, rfl, hr, hT, hx, hp⟩ := hp
  · refine ⟨rfl, ?_⟩
    simp only [List.zip_cons_cons, List.zip_nil_right]
    (simp only [↓n_here, ↓n_off, ↓n_none, ↓n_bindHere, ↓n_bindOff, ↓n_inner, ↓r_here, ↓r_off, ↓r_mu, ↓is_F, ↓is_I, ↓is_K, ↓e_int, ↓e_flt, ↓e_str, ↓e_byt, ↓e_bool, ↓e_name, ↓e_bin, ↓e_neg, ↓e_list, ↓e_tup, ↓e_dict0, ↓e_dict1, ↓e_cmp, ↓e_and, ↓e_slice, ↓e_sub1, ↓e_sub2, ↓e_sub3, ↓e_sub4, ↓e_att, ↓e_meth, ↓e_call, ↓e_isi, ↓e_comp, ↓e_dcomp, ↓e_ifN, ↓e_ifc, ↓ss_nil, ↓ss_cons, ↓s_nilM, ↓s_dictM, ↓s_dictN, ↓s_bin, ↓s_call, ↓s_comp, ↓s_const, ↓s_list, ↓s_sub, ↓s_neg, ↓s_tup2, ↓s_tup3, ↓s_put, ↓s_aug, ↓s_augput, ↓s_items, ↓s_values, ↓s_for, ↓s_forN, ↓s_forA, ↓s_while, ↓s_clamp, ↓s_ret, ↓s_in, ↓s_ifNotEqRaise, ↓s_ifNotEqRet, ↓s_ifNotEqAsg, ↓s_ifEqIf, ↓s_ifLtRet, ↓s_ifGtRet, ↓s_ifOr, ↓s_ifIsi, ↓s_retT, ↓s_retC, ↓s_retK, ↓s_retU, ↓s_retB, ↓s_app, ↓s_brk, ↓b_iadd, ↓b_isub, ↓b_imul, ↓b_ifd, ↓b_imod, ↓b_ipow, ↓b_idiv, ↓b_fadd, ↓b_fsub, ↓b_fmul, ↓b_ifmul, ↓b_ladd, ↓b_sadd, ↓b_badd, ↓b_smul, ↓c_ieq, ↓c_ine, ↓c_ilt, ↓c_igt, ↓c_ige, ↓c_flt, ↓c_fgt, ↓c_seq, ↓c_sne, ↓c_tgt, ↓l_nil, ↓l_cons, ↓t_cmp, ↓t_name, ↓t_sub, ↓t_call, ↓t_and, ↓t_or, ↓t1_cmp, ↓t1_sub, ↓tr_b, ↓tr_i, ↓u_pair, ↓u_three, ↓m_none, ↓m_some, ↓o_none, ↓o_some, ↓i_list, ↓i_tup, ↓i_range, ↓x_str, ↓x_byt, ↓k_range1, ↓k_range2, ↓k_lenL, ↓k_lenS, ↓k_sum, ↓k_round, ↓k_min, ↓k_max, ↓k_abs, ↓k_int, ↓k_divmod, ↓k_fn, ↓w_count, ↓w_rjust, ↓w_cmp, ↓p_count, ↓p_rjust, ↓p_cmp, ↓z_bhh, ↓z_s0h, ↓z_slh, ↓z_lst, ↓f_nil, ↓f_cons, ↓ts_nil, ↓ts_one, ↓true_and, ↓and_true, ↓if_true, ↓if_false, ne_eq, strEq, String.reduceEq, not_false_eq_true, not_true_eq_false, ↓reduceCtorEq, ↓List.append_nil, ↓reduceIte, List.mem_cons, List.not_mem_nil, or_false, false_or, or_self, mut_eq, decide_true, decide_false, Bool.or_true, Bool.true_or, Bool.or_false, Bool.or_self, List.lookup_cons, strBeq])
    have hlen : x.length = 2 * r + 7 + T.length := by rw [str_len, hx]; simp; omega
    have c1 : (strCut x none (some 3)).cps.toList = [50, 53, 55] := by
      rw [show (3 : Int) = ((3 : Nat) : Int) from rfl, cut_0h (by omega), hx]; rfl
    have c2 : (strCut x (some 3) (some 5)).cps.toList = [32, 34] := by
      rw [show (3 : Int) = ((3 : Nat) : Int) from rfl, show (5 : Int) = ((5 : Nat) : Int) from rfl, cut_lh (by omega) (by omega), hx]; rfl
    refine ⟨by rw [str_len, c1]; simp, fun e => ?_, fun _ => ?_⟩
    · rw [c1] at e; exact absurd e (by decide +kernel)
    refine ⟨by rw [str_len, c2]; simp, fun e => ?_, fun _ => ?_⟩
    · rw [c2] at e; exact absurd e (by decide +kernel)
    refine ⟨by omega, ?_⟩
    have q1 : (Str.ofString "\"").cps.toList = [34] := by decide +kernel
    have hL : ∀ j, j < 2 * r + 1 → x.cps[5 + j]! = 34 := fun j hj => str_at hx (by
      rw [List.append_assoc, List.getElem?_append_right (by simp), List.getElem?_append_left (by simp; omega)]
      simp [List.getElem?_replicate]; omega)
    have hX : x.cps[5 + (2 * r + 1)]! = 120 := str_at hx (by
      rw [List.append_assoc, List.getElem?_append_right (by simp), List.getElem?_append_right (by simp)]
      simp)
    refine ⟨r + 1, while_rule (fun f ρ => ∃ (k : Nat) (u : PySem.Str), f = r + 1 - k ∧ k ≤ r ∧ ρ "resp" = some (.str x) ∧ ρ "dirname" = some (.str u) ∧ u.cps.toList = List.replicate k 34 ∧ ρ "i" = some (.int (5 + 2 * (k : Int))) ∧ ρ "n" = some (.int x.length)) (fun ρ ⟨k, u, h, h2, _⟩ => by omega) ?_ _ _
      ⟨0, Str.ofString "", rfl, Nat.zero_le _, ?_, ?_, by decide +kernel, ?_, setR_here⟩⟩
    · rintro f ρ K ⟨k, u, hf, hk, hresp, hdir, hu, hi, hn⟩ hK
      rw [n_at hi, n_at hn, c_ilt]
      show _ ∧ _
      refine ⟨fun _ => ?_, fun e => ?_⟩
      · rw [n_at hresp, n_at hi, x_str]
        refine ⟨⟨by omega, by omega, by omega⟩, ?_⟩
        have hc : x.cps[(5 + 2 * (k : Int)).toNat]! = 34 := by
          rw [show (5 + 2 * (k : Int)).toNat = 5 + 2 * k by omega]; exact hL _ (by omega)
        rw [hc, m_none, n_at hi, b_iadd, m_none, c_seq, q1]
        refine ⟨trivial, trivial, fun _ => ?_, fun e => by simp at e⟩
        rw [n_at hn, c_ige]
        refine ⟨fun e => ?_, fun _ => ?_⟩
        · have := of_decide_eq_true e; omega
        · rw [n_at hresp, x_str]
          refine ⟨⟨by omega, by omega, by omega⟩, ?_⟩
          by_cases hkr : k = r
          · have hc2 : x.cps[(5 + 2 * (k : Int) + 1).toNat]! = 120 := by
              rw [show (5 + 2 * (k : Int) + 1).toNat = 5 + (2 * r + 1) by omega]; exact hX
            rw [hc2, c_sne, q1]
            refine ⟨fun _ => ?_, fun e => by simp at e⟩
            dsimp only
            rw [r_off (strNe (by decide)), r_off (strNe (by decide)), r_at hdir]
            have : u = ⟨(List.replicate r 34).toArray⟩ := by
              cases u with
              | mk c =>
                simp only at hu
                rw [hkr] at hu
                rw [← hu]
            rw [this]; exact hp
          · have hc2 : x.cps[(5 + 2 * (k : Int) + 1).toNat]! = 34 := by
              rw [show (5 + 2 * (k : Int) + 1).toNat = 5 + (2 * k + 1) by omega]; exact hL _ (by omega)
            rw [hc2, c_sne, q1]
            refine ⟨fun e => by simp at e, fun _ => ?_⟩
            rw [b_iadd, m_none, n_at hdir, b_sadd]
            refine ⟨trivial, ⟨?_, trivial, hK _ ⟨k + 1, u ++ ⟨#[34]⟩, by omega, by omega, ?_, setR_here, ?_, ?_, ?_⟩⟩⟩
            · have : u.length = k := by rw [str_len, hu]; simp
              rw [this]
              show k + 1 ≤ 1000000
              omega
            · rw [setR_off (strNe (by decide)), setR_off (strNe (by decide)), setR_off (strNe (by decide)), setR_off (strNe (by decide))]; exact hresp
            · show (u.cps ++ #[34]).toList = _
              rw [Array.toList_append, hu, List.replicate_succ']
            · rw [setR_off (strNe (by decide)), setR_here]
              exact congrArg (fun i => some (D.int i)) (by omega)
            · rw [setR_off (strNe (by decide)), setR_off (strNe (by decide)), setR_off (strNe (by decide)), setR_off (strNe (by decide))]; exact hn
      · have := of_decide_eq_false e; omega
    · rw [setR_off (strNe (by decide)), setR_off (strNe (by decide)), setR_off (strNe (by decide))]; exact bindR_here
    · rw [setR_off (strNe (by decide)), setR_off (strNe (by decide))]; exact setR_here
    · rw [setR_off (strNe (by decide))]; exact setR_here

section
variable {α β : Type} {ev : Ev} {sc : Names} {ρ : Rho} {P : List D → Prop}
theorem loop_A {x : Str} {ifs : List Expr} {elt : Expr} (g : α → D) (p : α → Bool) (f : α → D) : ∀ {xs : List α} {acc : List D} {P : List D → Prop},
    (∀ a, a ∈ xs → ∀ q : Bool → Prop, q (p a) → testsW ev sc (setR ρ x (g a)) ifs q) → (∀ a, a ∈ xs → p a = true → ∀ q : D → Prop, q (f a) → ev sc (setR ρ x (g a)) elt q) → acc.length + xs.length ≤ 1000000 →
    P (acc ++ (xs.filter p).map f) → loopW ev sc x ifs (emitW ev sc elt) ρ (xs.map g) acc P
  | [], acc, P, _, _, _, h => by
    show P acc
    simpa using h
  | a :: r, acc, P, h1, h2, hl, h => by
    simp only [List.length_cons] at hl
    show testsW ev sc (setR ρ x (g a)) ifs _
    refine h1 a List.mem_cons_self _ ⟨fun hb => ?_, fun hb => ?_⟩
    · refine h2 a List.mem_cons_self hb _ ⟨by omega, ?_⟩
      refine loop_A g p f (fun e he => h1 e (List.mem_cons_of_mem _ he)) (fun e he => h2 e (List.mem_cons_of_mem _ he)) (by simp; omega) ?_
      rw [List.filter_cons_of_pos hb] at h
      simpa using h
    · refine loop_A g p f (fun e he => h1 e (List.mem_cons_of_mem _ he)) (fun e he => h2 e (List.mem_cons_of_mem _ he)) (by omega) ?_
      rw [List.filter_cons_of_neg (by rw [hb]; exact Bool.false_ne_true)] at h
      exact h
theorem comp_A {x : Str} {px it k} {ifs : List Expr} {elt : Expr} (g : α → D) (p : α → Bool) (f : α → D) {xs : List α}
    (h1 : ∀ a, a ∈ xs → ∀ q : Bool → Prop, q (p a) → testsW ev sc (setR ρ x (g a)) ifs q) (h2 : ∀ a, a ∈ xs → p a = true → ∀ q : D → Prop, q (f a) → ev sc (setR ρ x (g a)) elt q) (hl : xs.length ≤ 1000000)
    (h : P ((xs.filter p).map f)) : compW ev sc elt [⟨.Name x px, it, ifs, k⟩] ρ (xs.map g) [] P :=
  loop_A g p f h1 h2 (by simpa using hl) (by simpa using h)
theorem comp_M {x : Str} {px it k} {elt : Expr} (g : α → D) (f : α → D) {xs : List α}
    (h2 : ∀ a, a ∈ xs → ∀ q : D → Prop, q (f a) → ev sc (setR ρ x (g a)) elt q) (hl : xs.length ≤ 1000000)
    (h : P (xs.map f)) : compW ev sc elt [⟨.Name x px, it, [], k⟩] ρ (xs.map g) [] P :=
  loop_A g (fun _ => true) f (fun _ _ q hq => hq) (fun a ha _ => h2 a ha) (by simpa using hl) (by rw [List.filter_eq_self.mpr (fun _ _ => rfl)]; simpa using h)
theorem comp_AA {x y : Str} {px py it jt ifs k k2} {elt : Expr} (g : α → D) (es : α → List β) (g2 : β → D) (p : α → β → Bool) (f : α → β → D) (m : Nat) {xs : List α}
    (h0 : ∀ a, a ∈ xs → ∀ q : List D → Prop, q ((es a).map g2) → ev sc (setR ρ x (g a)) jt fun s => itemsW s q)
    (h1 : ∀ a, a ∈ xs → ∀ b, b ∈ es a → ∀ q : Bool → Prop, q (p a b) → testsW ev sc (setR (setR ρ x (g a)) y (g2 b)) ifs q)
    (h2 : ∀ a, a ∈ xs → ∀ b, b ∈ es a → p a b = true → ∀ q : D → Prop, q (f a b) → ev sc (setR (setR ρ x (g a)) y (g2 b)) elt q) (hm : ∀ a, a ∈ xs → (es a).length ≤ m) (hl : xs.length * m ≤ 1000000)
    (h : P (xs.flatMap fun a => ((es a).filter (p a)).map (f a))) : compW ev sc elt [⟨.Name x px, it, [], k⟩, ⟨.Name y py, jt, ifs, k2⟩] ρ (xs.map g) [] P := by
  show loopW ev sc x [] (fun ρ' acc' post' => ev sc ρ' jt fun s => itemsW s fun es => loopW ev sc y ifs (emitW ev sc elt) ρ' es acc' post') ρ (xs.map g) [] P
  have go : ∀ (xs : List α) (acc : List D) (P : List D → Prop), (∀ a, a ∈ xs → ∀ q : List D → Prop, q ((es a).map g2) → ev sc (setR ρ x (g a)) jt fun s => itemsW s q) →
      (∀ a, a ∈ xs → ∀ b, b ∈ es a → ∀ q : Bool → Prop, q (p a b) → testsW ev sc (setR (setR ρ x (g a)) y (g2 b)) ifs q) →
      (∀ a, a ∈ xs → ∀ b, b ∈ es a → p a b = true → ∀ q : D → Prop, q (f a b) → ev sc (setR (setR ρ x (g a)) y (g2 b)) elt q) → (∀ a, a ∈ xs → (es a).length ≤ m) → acc.length + xs.length * m ≤ 1000000 →
      P (acc ++ xs.flatMap fun a => ((es a).filter (p a)).map (f a)) → loopW ev sc x [] (fun ρ' acc' post' => ev sc ρ' jt fun s => itemsW s fun es => loopW ev sc y ifs (emitW ev sc elt) ρ' es acc' post') ρ (xs.map g) acc P := by
    intro xs
    induction xs with
    | nil => intro acc P _ _ _ _ _ h; show P acc; simpa using h
    | cons a r ih =>
      intro acc P h0 h1 h2 hm hl h
      have hd := hm a List.mem_cons_self
      simp only [List.length_cons, Nat.add_mul, Nat.one_mul] at hl
      show _ ∧ _
      refine ⟨fun _ => ?_, fun e => by cases e⟩
      refine h0 a List.mem_cons_self _ ?_
      refine loop_A g2 (p a) (f a) (h1 a List.mem_cons_self) (h2 a List.mem_cons_self) (by omega) ?_
      refine ih _ _ (fun e he => h0 e (List.mem_cons_of_mem _ he)) (fun e he => h1 e (List.mem_cons_of_mem _ he)) (fun e he => h2 e (List.mem_cons_of_mem _ he)) (fun e he => hm e (List.mem_cons_of_mem _ he)) ?_ ?_
      · have : (((es a).filter (p a)).map (f a)).length ≤ (es a).length := by rw [List.length_map]; exact List.length_filter_le _ _
        simp only [List.length_append]; omega
      · simpa using h
  exact go xs [] P h0 h1 h2 hm (by simpa using hl) (by simpa using h)
theorem x_at {ds : List D} {i : Int} {d : D} {post : D → Prop} (h0 : 0 ≤ i) (hl : ds.length ≤ 1000000) (hd : ds[i.toNat]? = some d) : itemW (.list ds) (.int i) post = post d := by
  rw [x_list]
  have hlt := (List.getElem?_eq_some_iff.mp hd).1
  unfold atD
  rw [if_neg (by omega), hd]
  simp only [eq_iff_iff]
  constructor
  · exact fun h => h.2
  · exact fun h => ⟨⟨by omega, by omega, hl⟩, h⟩
end

noncomputable def duelF (p c q e : Int) (L R : List Int) : Int :=
  if L[p.toNat]! < R[p.toNat]! then -c else if R[p.toNat]! < L[p.toNat]! then c else
  if L[q.toNat]! < R[q.toNat]! then -e else if R[q.toNat]! < L[q.toNat]! then e else 0
noncomputable def duelW (d x y : D) (post : D → Prop) : Prop := ∃ (p c q e : Int) (L R : List Int), d = .list [.tup [.int p, .int c], .tup [.int q, .int e]] ∧ x = .list (L.map D.int) ∧ y = .list (R.map D.int) ∧ L.length = 4 ∧ R.length = 4 ∧ (0 ≤ p ∧ p < 4) ∧ (0 ≤ q ∧ q < 4) ∧ post (.int (duelF p c q e L R))

theorem x_ints {L : List Int} {i : Int} {post : D → Prop} (h0 : 0 ≤ i) (h1 : i < L.length) (hl : L.length ≤ 1000000) : itemW (.list (L.map D.int)) (.int i) post = post (.int L[i.toNat]!) := by
  refine x_at h0 (by simpa using hl) ?_
  have h : i.toNat < L.length := by omega
  rw [List.getElem?_map, List.getElem?_eq_getElem h, getElem!_pos L i.toNat h]
  rfl

set_option maxHeartbeats 4000000 in
theorem d_compare (P : Params) (Φ : Tab) : Def1 P 88 [] Φ (fun ds post => ∃ d x y, ds = [.duel d, x, y] ∧ duelW d x y post) := by
  refine ⟨_, _, [Str.ofString "self", Str.ofString "left", Str.ofString "right"], fun h X => ⟨_, _, X 88 _ rfl, rfl, rfl, rfl, rfl, rfl, rfl, codeRec_of X (by kernel_rfl), len3 fun a b c => rfl⟩, by decide +kernel, by decide +kernel, ?_⟩
  intro ds post hp
  obtain ⟨d, x, y, rfl, p, c, q, e, L, R, rfl, rfl, rfl, hL, hR, hp0, hq0, hpost⟩ := hp
  · refine ⟨rfl, ?_⟩
    simp only [List.zip_cons_cons, List.zip_nil_right]
    (simp only [↓n_here, ↓n_off, ↓n_none, ↓n_bindHere, ↓n_bindOff, ↓n_inner, ↓r_here, ↓r_off, ↓r_mu, ↓is_F, ↓is_I, ↓is_K, ↓e_int, ↓e_flt, ↓e_str, ↓e_byt, ↓e_bool, ↓e_name, ↓e_bin, ↓e_neg, ↓e_list, ↓e_tup, ↓e_dict0, ↓e_dict1, ↓e_cmp, ↓e_and, ↓e_slice, ↓e_sub1, ↓e_sub2, ↓e_sub3, ↓e_sub4, ↓e_att, ↓e_meth, ↓e_call, ↓e_isi, ↓e_comp, ↓e_dcomp, ↓e_ifN, ↓e_ifc, ↓ss_nil, ↓ss_cons, ↓s_nilM, ↓s_dictM, ↓s_dictN, ↓s_bin, ↓s_call, ↓s_comp, ↓s_const, ↓s_list, ↓s_sub, ↓s_neg, ↓s_tup2, ↓s_tup3, ↓s_put, ↓s_aug, ↓s_augput, ↓s_items, ↓s_values, ↓s_for, ↓s_forN, ↓s_forA, ↓s_while, ↓s_clamp, ↓s_ret, ↓s_in, ↓s_ifNotEqRaise, ↓s_ifNotEqRet, ↓s_ifNotEqAsg, ↓s_ifEqIf, ↓s_ifLtRet, ↓s_ifGtRet, ↓s_ifOr, ↓s_ifIsi, ↓s_retT, ↓s_retC, ↓s_retK, ↓s_retU, ↓s_retB, ↓s_app, ↓s_brk, ↓b_iadd, ↓b_isub, ↓b_imul, ↓b_ifd, ↓b_imod, ↓b_ipow, ↓b_idiv, ↓b_fadd, ↓b_fsub, ↓b_fmul, ↓b_ifmul, ↓b_ladd, ↓b_sadd, ↓b_badd, ↓b_smul, ↓c_ieq, ↓c_ine, ↓c_ilt, ↓c_igt, ↓c_ige, ↓c_flt, ↓c_fgt, ↓c_seq, ↓c_sne, ↓c_tgt, ↓l_nil, ↓l_cons, ↓t_cmp, ↓t_name, ↓t_sub, ↓t_call, ↓t_and, ↓t_or, ↓t1_cmp, ↓t1_sub, ↓tr_b, ↓tr_i, ↓u_pair, ↓u_three, ↓m_none, ↓m_some, ↓o_none, ↓o_some, ↓i_list, ↓i_tup, ↓i_range, ↓x_str, ↓x_byt, ↓k_range1, ↓k_range2, ↓k_lenL, ↓k_lenS, ↓k_sum, ↓k_round, ↓k_min, ↓k_max, ↓k_abs, ↓k_int, ↓k_divmod, ↓k_fn, ↓w_count, ↓w_rjust, ↓w_cmp, ↓p_count, ↓p_rjust, ↓p_cmp, ↓z_bhh, ↓z_s0h, ↓z_slh, ↓z_lst, ↓f_nil, ↓f_cons, ↓ts_nil, ↓ts_one, ↓true_and, ↓and_true, ↓if_true, ↓if_false, ne_eq, strEq, String.reduceEq, not_false_eq_true, not_true_eq_false, ↓reduceCtorEq, ↓List.append_nil, ↓reduceIte, List.mem_cons, List.not_mem_nil, or_false, false_or, or_self, mut_eq, decide_true, decide_false, Bool.or_true, Bool.true_or, Bool.or_false, Bool.or_self, List.lookup_cons, strBeq])
    refine ⟨by simp, ?_⟩
    have xL : ∀ {j : Int} {post : D → Prop}, (0 ≤ j ∧ j < 4) → itemW (.list (L.map D.int)) (.int j) post = post (.int L[j.toNat]!) := fun h => x_ints h.1 (by omega) (by omega)
    have xR : ∀ {j : Int} {post : D → Prop}, (0 ≤ j ∧ j < 4) → itemW (.list (R.map D.int)) (.int j) post = post (.int R[j.toNat]!) := fun h => x_ints h.1 (by omega) (by omega)
    rw [xL hp0]
    try (simp only [↓n_here, ↓n_off, ↓n_none, ↓n_bindHere, ↓n_bindOff, ↓n_inner, ↓r_here, ↓r_off, ↓r_mu, ↓is_F, ↓is_I, ↓is_K, ↓e_int, ↓e_flt, ↓e_str, ↓e_byt, ↓e_bool, ↓e_name, ↓e_bin, ↓e_neg, ↓e_list, ↓e_tup, ↓e_dict0, ↓e_dict1, ↓e_cmp, ↓e_and, ↓e_slice, ↓e_sub1, ↓e_sub2, ↓e_sub3, ↓e_sub4, ↓e_att, ↓e_meth, ↓e_call, ↓e_isi, ↓e_comp, ↓e_dcomp, ↓e_ifN, ↓e_ifc, ↓ss_nil, ↓ss_cons, ↓s_nilM, ↓s_dictM, ↓s_dictN, ↓s_bin, ↓s_call, ↓s_comp, ↓s_const, ↓s_list, ↓s_sub, ↓s_neg, ↓s_tup2, ↓s_tup3, ↓s_put, ↓s_aug, ↓s_augput, ↓s_items, ↓s_values, ↓s_for, ↓s_forN, ↓s_forA, ↓s_while, ↓s_clamp, ↓s_ret, ↓s_in, ↓s_ifNotEqRaise, ↓s_ifNotEqRet, ↓s_ifNotEqAsg, ↓s_ifEqIf, ↓s_ifLtRet, ↓s_ifGtRet, ↓s_ifOr, ↓s_ifIsi, ↓s_retT, ↓s_retC, ↓s_retK, ↓s_retU, ↓s_retB, ↓s_app, ↓s_brk, ↓b_iadd, ↓b_isub, ↓b_imul, ↓b_ifd, ↓b_imod, ↓b_ipow, ↓b_idiv, ↓b_fadd, ↓b_fsub, ↓b_fmul, ↓b_ifmul, ↓b_ladd, ↓b_sadd, ↓b_badd, ↓b_smul, ↓c_ieq, ↓c_ine, ↓c_ilt, ↓c_igt, ↓c_ige, ↓c_flt, ↓c_fgt, ↓c_seq, ↓c_sne, ↓c_tgt, ↓l_nil, ↓l_cons, ↓t_cmp, ↓t_name, ↓t_sub, ↓t_call, ↓t_and, ↓t_or, ↓t1_cmp, ↓t1_sub, ↓tr_b, ↓tr_i, ↓u_pair, ↓u_three, ↓m_none, ↓m_some, ↓o_none, ↓o_some, ↓i_list, ↓i_tup, ↓i_range, ↓x_str, ↓x_byt, ↓k_range1, ↓k_range2, ↓k_lenL, ↓k_lenS, ↓k_sum, ↓k_round, ↓k_min, ↓k_max, ↓k_abs, ↓k_int, ↓k_divmod, ↓k_fn, ↓w_count, ↓w_rjust, ↓w_cmp, ↓p_count, ↓p_rjust, ↓p_cmp, ↓z_bhh, ↓z_s0h, ↓z_slh, ↓z_lst, ↓f_nil, ↓f_cons, ↓ts_nil, ↓ts_one, ↓true_and, ↓and_true, ↓if_true, ↓if_false, ne_eq, strEq, String.reduceEq, not_false_eq_true, not_true_eq_false, ↓reduceCtorEq, ↓List.append_nil, ↓reduceIte, List.mem_cons, List.not_mem_nil, or_false, false_or, or_self, mut_eq, decide_true, decide_false, Bool.or_true, Bool.true_or, Bool.or_false, Bool.or_self, List.lookup_cons, strBeq])
    rw [xR hp0]
    try (simp only [↓n_here, ↓n_off, ↓n_none, ↓n_bindHere, ↓n_bindOff, ↓n_inner, ↓r_here, ↓r_off, ↓r_mu, ↓is_F, ↓is_I, ↓is_K, ↓e_int, ↓e_flt, ↓e_str, ↓e_byt, ↓e_bool, ↓e_name, ↓e_bin, ↓e_neg, ↓e_list, ↓e_tup, ↓e_dict0, ↓e_dict1, ↓e_cmp, ↓e_and, ↓e_slice, ↓e_sub1, ↓e_sub2, ↓e_sub3, ↓e_sub4, ↓e_att, ↓e_meth, ↓e_call, ↓e_isi, ↓e_comp, ↓e_dcomp, ↓e_ifN, ↓e_ifc, ↓ss_nil, ↓ss_cons, ↓s_nilM, ↓s_dictM, ↓s_dictN, ↓s_bin, ↓s_call, ↓s_comp, ↓s_const, ↓s_list, ↓s_sub, ↓s_neg, ↓s_tup2, ↓s_tup3, ↓s_put, ↓s_aug, ↓s_augput, ↓s_items, ↓s_values, ↓s_for, ↓s_forN, ↓s_forA, ↓s_while, ↓s_clamp, ↓s_ret, ↓s_in, ↓s_ifNotEqRaise, ↓s_ifNotEqRet, ↓s_ifNotEqAsg, ↓s_ifEqIf, ↓s_ifLtRet, ↓s_ifGtRet, ↓s_ifOr, ↓s_ifIsi, ↓s_retT, ↓s_retC, ↓s_retK, ↓s_retU, ↓s_retB, ↓s_app, ↓s_brk, ↓b_iadd, ↓b_isub, ↓b_imul, ↓b_ifd, ↓b_imod, ↓b_ipow, ↓b_idiv, ↓b_fadd, ↓b_fsub, ↓b_fmul, ↓b_ifmul, ↓b_ladd, ↓b_sadd, ↓b_badd, ↓b_smul, ↓c_ieq, ↓c_ine, ↓c_ilt, ↓c_igt, ↓c_ige, ↓c_flt, ↓c_fgt, ↓c_seq, ↓c_sne, ↓c_tgt, ↓l_nil, ↓l_cons, ↓t_cmp, ↓t_name, ↓t_sub, ↓t_call, ↓t_and, ↓t_or, ↓t1_cmp, ↓t1_sub, ↓tr_b, ↓tr_i, ↓u_pair, ↓u_three, ↓m_none, ↓m_some, ↓o_none, ↓o_some, ↓i_list, ↓i_tup, ↓i_range, ↓x_str, ↓x_byt, ↓k_range1, ↓k_range2, ↓k_lenL, ↓k_lenS, ↓k_sum, ↓k_round, ↓k_min, ↓k_max, ↓k_abs, ↓k_int, ↓k_divmod, ↓k_fn, ↓w_count, ↓w_rjust, ↓w_cmp, ↓p_count, ↓p_rjust, ↓p_cmp, ↓z_bhh, ↓z_s0h, ↓z_slh, ↓z_lst, ↓f_nil, ↓f_cons, ↓ts_nil, ↓ts_one, ↓true_and, ↓and_true, ↓if_true, ↓if_false, ne_eq, strEq, String.reduceEq, not_false_eq_true, not_true_eq_false, ↓reduceCtorEq, ↓List.append_nil, ↓reduceIte, List.mem_cons, List.not_mem_nil, or_false, false_or, or_self, mut_eq, decide_true, decide_false, Bool.or_true, Bool.true_or, Bool.or_false, Bool.or_self, List.lookup_cons, strBeq])
    unfold duelF at hpost
    refine ⟨fun h1 => ?_, fun h1 => ⟨fun h2 => ?_, fun h2 => ?_⟩⟩
    · rw [if_pos (of_decide_eq_true h1)] at hpost; exact hpost
    · rw [if_neg (of_decide_eq_false h1), if_pos (of_decide_eq_true h2)] at hpost; exact hpost
    · rw [if_neg (of_decide_eq_false h1), if_neg (of_decide_eq_false h2)] at hpost
      rw [xL hq0]
      try (simp only [↓n_here, ↓n_off, ↓n_none, ↓n_bindHere, ↓n_bindOff, ↓n_inner, ↓r_here, ↓r_off, ↓r_mu, ↓is_F, ↓is_I, ↓is_K, ↓e_int, ↓e_flt, ↓e_str, ↓e_byt, ↓e_bool, ↓e_name, ↓e_bin, ↓e_neg, ↓e_list, ↓e_tup, ↓e_dict0, ↓e_dict1, ↓e_cmp, ↓e_and, ↓e_slice, ↓e_sub1, ↓e_sub2, ↓e_sub3, ↓e_sub4, ↓e_att, ↓e_meth, ↓e_call, ↓e_isi, ↓e_comp, ↓e_dcomp, ↓e_ifN, ↓e_ifc, ↓ss_nil, ↓ss_cons, ↓s_nilM, ↓s_dictM, ↓s_dictN, ↓s_bin, ↓s_call, ↓s_comp, ↓s_const, ↓s_list, ↓s_sub, ↓s_neg, ↓s_tup2, ↓s_tup3, ↓s_put, ↓s_aug, ↓s_augput, ↓s_items, ↓s_values, ↓s_for, ↓s_forN, ↓s_forA, ↓s_while, ↓s_clamp, ↓s_ret, ↓s_in, ↓s_ifNotEqRaise, ↓s_ifNotEqRet, ↓s_ifNotEqAsg, ↓s_ifEqIf, ↓s_ifLtRet, ↓s_ifGtRet, ↓s_ifOr, ↓s_ifIsi, ↓s_retT, ↓s_retC, ↓s_retK, ↓s_retU, ↓s_retB, ↓s_app, ↓s_brk, ↓b_iadd, ↓b_isub, ↓b_imul, ↓b_ifd, ↓b_imod, ↓b_ipow, ↓b_idiv, ↓b_fadd, ↓b_fsub, ↓b_fmul, ↓b_ifmul, ↓b_ladd, ↓b_sadd, ↓b_badd, ↓b_smul, ↓c_ieq, ↓c_ine, ↓c_ilt, ↓c_igt, ↓c_ige, ↓c_flt, ↓c_fgt, ↓c_seq, ↓c_sne, ↓c_tgt, ↓l_nil, ↓l_cons, ↓t_cmp, ↓t_name, ↓t_sub, ↓t_call, ↓t_and, ↓t_or, ↓t1_cmp, ↓t1_sub, ↓tr_b, ↓tr_i, ↓u_pair, ↓u_three, ↓m_none, ↓m_some, ↓o_none, ↓o_some, ↓i_list, ↓i_tup, ↓i_range, ↓x_str, ↓x_byt, ↓k_range1, ↓k_range2, ↓k_lenL, ↓k_lenS, ↓k_sum, ↓k_round, ↓k_min, ↓k_max, ↓k_abs, ↓k_int, ↓k_divmod, ↓k_fn, ↓w_count, ↓w_rjust, ↓w_cmp, ↓p_count, ↓p_rjust, ↓p_cmp, ↓z_bhh, ↓z_s0h, ↓z_slh, ↓z_lst, ↓f_nil, ↓f_cons, ↓ts_nil, ↓ts_one, ↓true_and, ↓and_true, ↓if_true, ↓if_false, ne_eq, strEq, String.reduceEq, not_false_eq_true, not_true_eq_false, ↓reduceCtorEq, ↓List.append_nil, ↓reduceIte, List.mem_cons, List.not_mem_nil, or_false, false_or, or_self, mut_eq, decide_true, decide_false, Bool.or_true, Bool.true_or, Bool.or_false, Bool.or_self, List.lookup_cons, strBeq])
      rw [xR hq0]
      try (simp only [↓n_here, ↓n_off, ↓n_none, ↓n_bindHere, ↓n_bindOff, ↓n_inner, ↓r_here, ↓r_off, ↓r_mu, ↓is_F, ↓is_I, ↓is_K, ↓e_int, ↓e_flt, ↓e_str, ↓e_byt, ↓e_bool, ↓e_name, ↓e_bin, ↓e_neg, ↓e_list, ↓e_tup, ↓e_dict0, ↓e_dict1, ↓e_cmp, ↓e_and, ↓e_slice, ↓e_sub1, ↓e_sub2, ↓e_sub3, ↓e_sub4, ↓e_att, ↓e_meth, ↓e_call, ↓e_isi, ↓e_comp, ↓e_dcomp, ↓e_ifN, ↓e_ifc, ↓ss_nil, ↓ss_cons, ↓s_nilM, ↓s_dictM, ↓s_dictN, ↓s_bin, ↓s_call, ↓s_comp, ↓s_const, ↓s_list, ↓s_sub, ↓s_neg, ↓s_tup2, ↓s_tup3, ↓s_put, ↓s_aug, ↓s_augput, ↓s_items, ↓s_values, ↓s_for, ↓s_forN, ↓s_forA, ↓s_while, ↓s_clamp, ↓s_ret, ↓s_in, ↓s_ifNotEqRaise, ↓s_ifNotEqRet, ↓s_ifNotEqAsg, ↓s_ifEqIf, ↓s_ifLtRet, ↓s_ifGtRet, ↓s_ifOr, ↓s_ifIsi, ↓s_retT, ↓s_retC, ↓s_retK, ↓s_retU, ↓s_retB, ↓s_app, ↓s_brk, ↓b_iadd, ↓b_isub, ↓b_imul, ↓b_ifd, ↓b_imod, ↓b_ipow, ↓b_idiv, ↓b_fadd, ↓b_fsub, ↓b_fmul, ↓b_ifmul, ↓b_ladd, ↓b_sadd, ↓b_badd, ↓b_smul, ↓c_ieq, ↓c_ine, ↓c_ilt, ↓c_igt, ↓c_ige, ↓c_flt, ↓c_fgt, ↓c_seq, ↓c_sne, ↓c_tgt, ↓l_nil, ↓l_cons, ↓t_cmp, ↓t_name, ↓t_sub, ↓t_call, ↓t_and, ↓t_or, ↓t1_cmp, ↓t1_sub, ↓tr_b, ↓tr_i, ↓u_pair, ↓u_three, ↓m_none, ↓m_some, ↓o_none, ↓o_some, ↓i_list, ↓i_tup, ↓i_range, ↓x_str, ↓x_byt, ↓k_range1, ↓k_range2, ↓k_lenL, ↓k_lenS, ↓k_sum, ↓k_round, ↓k_min, ↓k_max, ↓k_abs, ↓k_int, ↓k_divmod, ↓k_fn, ↓w_count, ↓w_rjust, ↓w_cmp, ↓p_count, ↓p_rjust, ↓p_cmp, ↓z_bhh, ↓z_s0h, ↓z_slh, ↓z_lst, ↓f_nil, ↓f_cons, ↓ts_nil, ↓ts_one, ↓true_and, ↓and_true, ↓if_true, ↓if_false, ne_eq, strEq, String.reduceEq, not_false_eq_true, not_true_eq_false, ↓reduceCtorEq, ↓List.append_nil, ↓reduceIte, List.mem_cons, List.not_mem_nil, or_false, false_or, or_self, mut_eq, decide_true, decide_false, Bool.or_true, Bool.true_or, Bool.or_false, Bool.or_self, List.lookup_cons, strBeq])
      refine ⟨fun h1 => ?_, fun h1 => ⟨fun h2 => ?_, fun h2 => ?_⟩⟩
      · rw [if_pos (of_decide_eq_true h1)] at hpost; exact hpost
      · rw [if_neg (of_decide_eq_false h1), if_pos (of_decide_eq_true h2)] at hpost; exact hpost
      · rw [if_neg (of_decide_eq_false h1), if_neg (of_decide_eq_false h2)] at hpost; exact hpost

noncomputable abbrev dI (xs : List Int) : D := .list (xs.map D.int)
noncomputable abbrev dII (xss : List (List Int)) : D := .list (xss.map dI)
noncomputable abbrev dB (bs : List Bool) : D := .list (bs.map D.bool)
noncomputable abbrev dBB (bss : List (List Bool)) : D := .list (bss.map dB)

theorem intsD_of (ns : List Int) : intsD (ns.map D.int) = some ns := by
  induction ns with
  | nil => rfl
  | cons n r ih => simp [intsD, ih]
theorem sub_ints {es : List D} {ns : List Int} (h : ∀ d, d ∈ es → d ∈ ns.map D.int) : ∃ ms : List Int, es = ms.map D.int := by
  induction es with
  | nil => exact ⟨[], rfl⟩
  | cons e r ih =>
    obtain ⟨ms, rfl⟩ := ih fun d hd => h d (List.mem_cons_of_mem _ hd)
    obtain ⟨i, _, hi⟩ := List.mem_map.mp (h e List.mem_cons_self)
    exact ⟨i :: ms, by rw [← hi]; rfl⟩

noncomputable def lampsW (ds : List D) (post : D → Prop) : Prop := ∃ ns : List Int, ds = [.list (ns.map D.int)] ∧ ns.length ≤ 63 ∧ ∀ ls : List (List Int), ls.length = 5 → (∀ l, l ∈ ls → l.length = 3 ∧ ∀ x, x ∈ l → -4 ≤ x ∧ x ≤ 20) → post (dII ls)

set_option maxHeartbeats 4000000 in
theorem d_lamps (P : Params) (Φ : Tab) : Def1 P 114 [] Φ lampsW := by
  refine ⟨_, _, [Str.ofString "script"], fun h X => ⟨_, _, X 114 _ rfl, rfl, rfl, rfl, rfl, rfl, rfl, codeRec_of X (by kernel_rfl), len1 fun a => rfl⟩, by decide +kernel, by decide +kernel, ?_⟩
  intro ds post hp
  obtain ⟨ns, rfl, hlen, hpost⟩ := hp
  · refine ⟨rfl, ?_⟩
    simp only [List.zip_cons_cons, List.zip_nil_right]
    (simp only [↓n_here, ↓n_off, ↓n_none, ↓n_bindHere, ↓n_bindOff, ↓n_inner, ↓r_here, ↓r_off, ↓r_mu, ↓is_F, ↓is_I, ↓is_K, ↓e_int, ↓e_flt, ↓e_str, ↓e_byt, ↓e_bool, ↓e_name, ↓e_bin, ↓e_neg, ↓e_list, ↓e_tup, ↓e_dict0, ↓e_dict1, ↓e_cmp, ↓e_and, ↓e_slice, ↓e_sub1, ↓e_sub2, ↓e_sub3, ↓e_sub4, ↓e_att, ↓e_meth, ↓e_call, ↓e_isi, ↓e_comp, ↓e_dcomp, ↓e_ifN, ↓e_ifc, ↓ss_nil, ↓ss_cons, ↓s_nilM, ↓s_dictM, ↓s_dictN, ↓s_bin, ↓s_call, ↓s_comp, ↓s_const, ↓s_list, ↓s_sub, ↓s_neg, ↓s_tup2, ↓s_tup3, ↓s_put, ↓s_aug, ↓s_augput, ↓s_items, ↓s_values, ↓s_for, ↓s_forN, ↓s_forA, ↓s_while, ↓s_clamp, ↓s_ret, ↓s_in, ↓s_ifNotEqRaise, ↓s_ifNotEqRet, ↓s_ifNotEqAsg, ↓s_ifEqIf, ↓s_ifLtRet, ↓s_ifGtRet, ↓s_ifOr, ↓s_ifIsi, ↓s_retT, ↓s_retC, ↓s_retK, ↓s_retU, ↓s_retB, ↓s_app, ↓s_brk, ↓b_iadd, ↓b_isub, ↓b_imul, ↓b_ifd, ↓b_imod, ↓b_ipow, ↓b_idiv, ↓b_fadd, ↓b_fsub, ↓b_fmul, ↓b_ifmul, ↓b_ladd, ↓b_sadd, ↓b_badd, ↓b_smul, ↓c_ieq, ↓c_ine, ↓c_ilt, ↓c_igt, ↓c_ige, ↓c_flt, ↓c_fgt, ↓c_seq, ↓c_sne, ↓c_tgt, ↓l_nil, ↓l_cons, ↓t_cmp, ↓t_name, ↓t_sub, ↓t_call, ↓t_and, ↓t_or, ↓t1_cmp, ↓t1_sub, ↓tr_b, ↓tr_i, ↓u_pair, ↓u_three, ↓m_none, ↓m_some, ↓o_none, ↓o_some, ↓i_list, ↓i_tup, ↓i_range, ↓x_str, ↓x_byt, ↓k_range1, ↓k_range2, ↓k_lenL, ↓k_lenS, ↓k_sum, ↓k_round, ↓k_min, ↓k_max, ↓k_abs, ↓k_int, ↓k_divmod, ↓k_fn, ↓w_count, ↓w_rjust, ↓w_cmp, ↓p_count, ↓p_rjust, ↓p_cmp, ↓z_bhh, ↓z_s0h, ↓z_slh, ↓z_lst, ↓f_nil, ↓f_cons, ↓ts_nil, ↓ts_one, ↓true_and, ↓and_true, ↓if_true, ↓if_false, ne_eq, strEq, String.reduceEq, not_false_eq_true, not_true_eq_false, ↓reduceCtorEq, ↓List.append_nil, ↓reduceIte, List.mem_cons, List.not_mem_nil, or_false, false_or, or_self, mut_eq, decide_true, decide_false, Bool.or_true, Bool.true_or, Bool.or_false, Bool.or_self, List.lookup_cons, strBeq])
    refine ⟨by simp, by decide, ?_⟩
    refine for_rule (fun ds ρ μ => ∃ (acc : List (List Int)) (r : List Nat), μ = some (("lamps" : Str), dII acc) ∧ ds = r.map (fun i : Nat => D.int (0 + (i : Int))) ∧ (∀ i, i ∈ r → i < 5) ∧ acc.length + r.length = 5 ∧ (∀ l, l ∈ acc → l.length = 3 ∧ ∀ x, x ∈ l → -4 ≤ x ∧ x ≤ 20) ∧
        ρ "lamps" = none ∧ ρ "heaps" = some (.list (([8324, 4313, 13432, 10146, 1660] : List Int).map D.int)) ∧ ρ "script" = some (.list (ns.map D.int))) ?_ ?_ _ _ _
      ⟨[], List.range 5, rfl, rfl, by decide, by decide, by simp, noneR_here, ?_, ?_⟩
    · rintro ρ μ ⟨acc, r, rfl, hr, _, hl, hb, hn, _, _⟩
      cases r with
      | cons _ _ => cases hr
      | nil =>
      dsimp only
      have e : ∀ q : D → Prop, retW ρ (some (("lamps" : Str), dII acc)) "lamps" q = q (dII acc) := fun q => by
        unfold retW; rw [hn]; simp
      rw [e]
      exact hpost acc (by simpa using hl) hb
    · rintro d r ρ μ K ⟨acc, rr, rfl, hr, hr5, hl, hb, hn, hheaps, hscript⟩ hK
      cases rr with
      | nil => cases hr
      | cons i rr =>
      simp only [List.map_cons, List.cons.injEq] at hr
      obtain ⟨rfl, rfl⟩ := hr
      have hi5 := hr5 i List.mem_cons_self
      rw [m_some (strNe (by decide)), n_at hheaps, x_ints (by omega) (by simp; omega) (by simp), n_at hscript, z_lst]
      refine ⟨trivial, ⟨by decide, by simp; omega⟩, fun es hes hel => ?_⟩
      obtain ⟨ms, rfl⟩ := sub_ints hes
      rw [i_list]
      refine ⟨by simp at hel ⊢; omega, ?_⟩
      refine comp_M D.int (fun x => .int (x.fmod 1000000)) (fun x hx q hq => ?_) (by simp at hel ⊢; omega) ?_
      · (simp only [↓n_here, ↓n_off, ↓n_none, ↓n_bindHere, ↓n_bindOff, ↓n_inner, ↓r_here, ↓r_off, ↓r_mu, ↓is_F, ↓is_I, ↓is_K, ↓e_int, ↓e_flt, ↓e_str, ↓e_byt, ↓e_bool, ↓e_name, ↓e_bin, ↓e_neg, ↓e_list, ↓e_tup, ↓e_dict0, ↓e_dict1, ↓e_cmp, ↓e_and, ↓e_slice, ↓e_sub1, ↓e_sub2, ↓e_sub3, ↓e_sub4, ↓e_att, ↓e_meth, ↓e_call, ↓e_isi, ↓e_comp, ↓e_dcomp, ↓e_ifN, ↓e_ifc, ↓ss_nil, ↓ss_cons, ↓s_nilM, ↓s_dictM, ↓s_dictN, ↓s_bin, ↓s_call, ↓s_comp, ↓s_const, ↓s_list, ↓s_sub, ↓s_neg, ↓s_tup2, ↓s_tup3, ↓s_put, ↓s_aug, ↓s_augput, ↓s_items, ↓s_values, ↓s_for, ↓s_forN, ↓s_forA, ↓s_while, ↓s_clamp, ↓s_ret, ↓s_in, ↓s_ifNotEqRaise, ↓s_ifNotEqRet, ↓s_ifNotEqAsg, ↓s_ifEqIf, ↓s_ifLtRet, ↓s_ifGtRet, ↓s_ifOr, ↓s_ifIsi, ↓s_retT, ↓s_retC, ↓s_retK, ↓s_retU, ↓s_retB, ↓s_app, ↓s_brk, ↓b_iadd, ↓b_isub, ↓b_imul, ↓b_ifd, ↓b_imod, ↓b_ipow, ↓b_idiv, ↓b_fadd, ↓b_fsub, ↓b_fmul, ↓b_ifmul, ↓b_ladd, ↓b_sadd, ↓b_badd, ↓b_smul, ↓c_ieq, ↓c_ine, ↓c_ilt, ↓c_igt, ↓c_ige, ↓c_flt, ↓c_fgt, ↓c_seq, ↓c_sne, ↓c_tgt, ↓l_nil, ↓l_cons, ↓t_cmp, ↓t_name, ↓t_sub, ↓t_call, ↓t_and, ↓t_or, ↓t1_cmp, ↓t1_sub, ↓tr_b, ↓tr_i, ↓u_pair, ↓u_three, ↓m_none, ↓m_some, ↓o_none, ↓o_some, ↓i_list, ↓i_tup, ↓i_range, ↓x_str, ↓x_byt, ↓k_range1, ↓k_range2, ↓k_lenL, ↓k_lenS, ↓k_sum, ↓k_round, ↓k_min, ↓k_max, ↓k_abs, ↓k_int, ↓k_divmod, ↓k_fn, ↓w_count, ↓w_rjust, ↓w_cmp, ↓p_count, ↓p_rjust, ↓p_cmp, ↓z_bhh, ↓z_s0h, ↓z_slh, ↓z_lst, ↓f_nil, ↓f_cons, ↓ts_nil, ↓ts_one, ↓true_and, ↓and_true, ↓if_true, ↓if_false, ne_eq, strEq, String.reduceEq, not_false_eq_true, not_true_eq_false, ↓reduceCtorEq, ↓List.append_nil, ↓reduceIte, List.mem_cons, List.not_mem_nil, or_false, false_or, or_self, mut_eq, decide_true, decide_false, Bool.or_true, Bool.true_or, Bool.or_false, Bool.or_self, List.lookup_cons, strBeq])
        exact ⟨by decide, by decide, hq⟩
      · have e1 : ms.map (fun x => D.int (x.fmod 1000000)) = (ms.map fun x => x.fmod 1000000).map D.int := by simp
        rw [e1, intsD_of]
        (simp only [↓n_here, ↓n_off, ↓n_none, ↓n_bindHere, ↓n_bindOff, ↓n_inner, ↓r_here, ↓r_off, ↓r_mu, ↓is_F, ↓is_I, ↓is_K, ↓e_int, ↓e_flt, ↓e_str, ↓e_byt, ↓e_bool, ↓e_name, ↓e_bin, ↓e_neg, ↓e_list, ↓e_tup, ↓e_dict0, ↓e_dict1, ↓e_cmp, ↓e_and, ↓e_slice, ↓e_sub1, ↓e_sub2, ↓e_sub3, ↓e_sub4, ↓e_att, ↓e_meth, ↓e_call, ↓e_isi, ↓e_comp, ↓e_dcomp, ↓e_ifN, ↓e_ifc, ↓ss_nil, ↓ss_cons, ↓s_nilM, ↓s_dictM, ↓s_dictN, ↓s_bin, ↓s_call, ↓s_comp, ↓s_const, ↓s_list, ↓s_sub, ↓s_neg, ↓s_tup2, ↓s_tup3, ↓s_put, ↓s_aug, ↓s_augput, ↓s_items, ↓s_values, ↓s_for, ↓s_forN, ↓s_forA, ↓s_while, ↓s_clamp, ↓s_ret, ↓s_in, ↓s_ifNotEqRaise, ↓s_ifNotEqRet, ↓s_ifNotEqAsg, ↓s_ifEqIf, ↓s_ifLtRet, ↓s_ifGtRet, ↓s_ifOr, ↓s_ifIsi, ↓s_retT, ↓s_retC, ↓s_retK, ↓s_retU, ↓s_retB, ↓s_app, ↓s_brk, ↓b_iadd, ↓b_isub, ↓b_imul, ↓b_ifd, ↓b_imod, ↓b_ipow, ↓b_idiv, ↓b_fadd, ↓b_fsub, ↓b_fmul, ↓b_ifmul, ↓b_ladd, ↓b_sadd, ↓b_badd, ↓b_smul, ↓c_ieq, ↓c_ine, ↓c_ilt, ↓c_igt, ↓c_ige, ↓c_flt, ↓c_fgt, ↓c_seq, ↓c_sne, ↓c_tgt, ↓l_nil, ↓l_cons, ↓t_cmp, ↓t_name, ↓t_sub, ↓t_call, ↓t_and, ↓t_or, ↓t1_cmp, ↓t1_sub, ↓tr_b, ↓tr_i, ↓u_pair, ↓u_three, ↓m_none, ↓m_some, ↓o_none, ↓o_some, ↓i_list, ↓i_tup, ↓i_range, ↓x_str, ↓x_byt, ↓k_range1, ↓k_range2, ↓k_lenL, ↓k_lenS, ↓k_sum, ↓k_round, ↓k_min, ↓k_max, ↓k_abs, ↓k_int, ↓k_divmod, ↓k_fn, ↓w_count, ↓w_rjust, ↓w_cmp, ↓p_count, ↓p_rjust, ↓p_cmp, ↓z_bhh, ↓z_s0h, ↓z_slh, ↓z_lst, ↓f_nil, ↓f_cons, ↓ts_nil, ↓ts_one, ↓true_and, ↓and_true, ↓if_true, ↓if_false, ne_eq, strEq, String.reduceEq, not_false_eq_true, not_true_eq_false, ↓reduceCtorEq, ↓List.append_nil, ↓reduceIte, List.mem_cons, List.not_mem_nil, or_false, false_or, or_self, mut_eq, decide_true, decide_false, Bool.or_true, Bool.true_or, Bool.or_false, Bool.or_self, List.lookup_cons, strBeq])
        generalize ([8324, 4313, 13432, 10146, 1660] : List Int)[(0 + (i : Int)).toNat]! + (ms.map fun x => x.fmod 1000000).sum = heap
        refine ⟨by decide, ?_⟩
        refine comp_M (fun i : Nat => D.int (0 + (i : Int))) (fun j => .int ((heap.fdiv (25 ^ j)).fmod 25 - 4)) (fun j hj q hq => ?_) (by simp) ?_
        · (simp only [↓n_here, ↓n_off, ↓n_none, ↓n_bindHere, ↓n_bindOff, ↓n_inner, ↓r_here, ↓r_off, ↓r_mu, ↓is_F, ↓is_I, ↓is_K, ↓e_int, ↓e_flt, ↓e_str, ↓e_byt, ↓e_bool, ↓e_name, ↓e_bin, ↓e_neg, ↓e_list, ↓e_tup, ↓e_dict0, ↓e_dict1, ↓e_cmp, ↓e_and, ↓e_slice, ↓e_sub1, ↓e_sub2, ↓e_sub3, ↓e_sub4, ↓e_att, ↓e_meth, ↓e_call, ↓e_isi, ↓e_comp, ↓e_dcomp, ↓e_ifN, ↓e_ifc, ↓ss_nil, ↓ss_cons, ↓s_nilM, ↓s_dictM, ↓s_dictN, ↓s_bin, ↓s_call, ↓s_comp, ↓s_const, ↓s_list, ↓s_sub, ↓s_neg, ↓s_tup2, ↓s_tup3, ↓s_put, ↓s_aug, ↓s_augput, ↓s_items, ↓s_values, ↓s_for, ↓s_forN, ↓s_forA, ↓s_while, ↓s_clamp, ↓s_ret, ↓s_in, ↓s_ifNotEqRaise, ↓s_ifNotEqRet, ↓s_ifNotEqAsg, ↓s_ifEqIf, ↓s_ifLtRet, ↓s_ifGtRet, ↓s_ifOr, ↓s_ifIsi, ↓s_retT, ↓s_retC, ↓s_retK, ↓s_retU, ↓s_retB, ↓s_app, ↓s_brk, ↓b_iadd, ↓b_isub, ↓b_imul, ↓b_ifd, ↓b_imod, ↓b_ipow, ↓b_idiv, ↓b_fadd, ↓b_fsub, ↓b_fmul, ↓b_ifmul, ↓b_ladd, ↓b_sadd, ↓b_badd, ↓b_smul, ↓c_ieq, ↓c_ine, ↓c_ilt, ↓c_igt, ↓c_ige, ↓c_flt, ↓c_fgt, ↓c_seq, ↓c_sne, ↓c_tgt, ↓l_nil, ↓l_cons, ↓t_cmp, ↓t_name, ↓t_sub, ↓t_call, ↓t_and, ↓t_or, ↓t1_cmp, ↓t1_sub, ↓tr_b, ↓tr_i, ↓u_pair, ↓u_three, ↓m_none, ↓m_some, ↓o_none, ↓o_some, ↓i_list, ↓i_tup, ↓i_range, ↓x_str, ↓x_byt, ↓k_range1, ↓k_range2, ↓k_lenL, ↓k_lenS, ↓k_sum, ↓k_round, ↓k_min, ↓k_max, ↓k_abs, ↓k_int, ↓k_divmod, ↓k_fn, ↓w_count, ↓w_rjust, ↓w_cmp, ↓p_count, ↓p_rjust, ↓p_cmp, ↓z_bhh, ↓z_s0h, ↓z_slh, ↓z_lst, ↓f_nil, ↓f_cons, ↓ts_nil, ↓ts_one, ↓true_and, ↓and_true, ↓if_true, ↓if_false, ne_eq, strEq, String.reduceEq, not_false_eq_true, not_true_eq_false, ↓reduceCtorEq, ↓List.append_nil, ↓reduceIte, List.mem_cons, List.not_mem_nil, or_false, false_or, or_self, mut_eq, decide_true, decide_false, Bool.or_true, Bool.true_or, Bool.or_false, Bool.or_self, List.lookup_cons, strBeq])
          have hj3 : j < 3 := by simpa using hj
          refine ⟨⟨by omega, by omega, by decide⟩, ⟨?_, ?_⟩, by decide, ?_⟩
          · rw [show (0 + (j : Int)).toNat = j by omega]
            exact Int.pow_ne_zero (by decide)
          · rw [show (0 + (j : Int)).toNat = j by omega]
            have : j = 0 ∨ j = 1 ∨ j = 2 := by omega
            rcases this with rfl | rfl | rfl <;> exact PyProof.noPylong_small (by decide)
          · rw [show (0 + (j : Int)).toNat = j by omega]
            exact hq
        · refine ⟨by simp at hl ⊢; omega, hK _ _ ⟨acc ++ [(List.range 3).map fun j => (heap.fdiv (25 ^ j)).fmod 25 - 4], rr, ?_, rfl, fun i hi => hr5 i (List.mem_cons_of_mem _ hi), by simp at hl ⊢; omega, ?_, ?_, ?_, ?_⟩⟩
          · simp [dII, dI, Function.comp_def]
          · intro l hl'
            rcases List.mem_append.mp hl' with h | h
            · exact hb l h
            · rw [List.mem_singleton.mp h]
              refine ⟨by simp, fun x hx => ?_⟩
              obtain ⟨j, _, rfl⟩ := List.mem_map.mp hx
              have h1 := Int.fmod_nonneg_of_pos (heap.fdiv (25 ^ j)) (show (0 : Int) < 25 by decide)
              have h2 := Int.fmod_lt_of_pos (heap.fdiv (25 ^ j)) (show (0 : Int) < 25 by decide)
              omega
          · rw [setR_off (strNe (by decide)), setR_off (strNe (by decide))]; exact hn
          · rw [setR_off (strNe (by decide)), setR_off (strNe (by decide))]; exact hheaps
          · rw [setR_off (strNe (by decide)), setR_off (strNe (by decide))]; exact hscript
    · rw [noneR_off (strNe (by decide))]; exact setR_here
    · rw [noneR_off (strNe (by decide)), setR_off (strNe (by decide))]; exact bindR_here

theorem x_map {α : Type} [Inhabited α] (g : α → D) {L : List α} {i : Int} {post : D → Prop} (h0 : 0 ≤ i) (h1 : i < L.length) (hl : L.length ≤ 1000000) : itemW (.list (L.map g)) (.int i) post = post (g L[i.toNat]!) := by
  refine x_at h0 (by simpa using hl) ?_
  have h : i.toNat < L.length := by omega
  rw [List.getElem?_map, List.getElem?_eq_getElem h, getElem!_pos L i.toNat h]
  rfl

noncomputable def rowN (row : List Bool) (p : Nat) (os : List Nat) (f : Int) : Int := os.foldl (fun f o => if o = p then f else 2 * f + (if row[o]! then 1 else 0)) f
noncomputable def numN (bb : List (List Bool)) (ps : List Nat) (n : Int) : Int := ps.foldl (fun n p => 16 * n + rowN bb[p]! p (List.range 5) 0) n
noncomputable def numberW (ds : List D) (post : D → Prop) : Prop := ∃ bb : List (List Bool), ds = [dBB bb] ∧ bb.length = 5 ∧ (∀ r, r ∈ bb → r.length = 5) ∧ post (.int (numN bb (List.range 5) 0))

theorem get_mem {α : Type} [Inhabited α] {L : List α} {i : Nat} (h : i < L.length) : L[i]! ∈ L := by rw [getElem!_pos L i h]; exact List.getElem_mem h

set_option maxHeartbeats 4000000 in
theorem d_number (P : Params) (Φ : Tab) : Def1 P 131 [] Φ numberW := by
  refine ⟨_, _, [Str.ofString "beats"], fun h X => ⟨_, _, X 131 _ rfl, rfl, rfl, rfl, rfl, rfl, rfl, codeRec_of X (by kernel_rfl), len1 fun a => rfl⟩, by decide +kernel, by decide +kernel, ?_⟩
  intro ds post hp
  obtain ⟨bb, rfl, hl, hr, hpost⟩ := hp
  · refine ⟨rfl, ?_⟩
    simp only [List.zip_cons_cons, List.zip_nil_right]
    (simp only [↓n_here, ↓n_off, ↓n_none, ↓n_bindHere, ↓n_bindOff, ↓n_inner, ↓r_here, ↓r_off, ↓r_mu, ↓is_F, ↓is_I, ↓is_K, ↓e_int, ↓e_flt, ↓e_str, ↓e_byt, ↓e_bool, ↓e_name, ↓e_bin, ↓e_neg, ↓e_list, ↓e_tup, ↓e_dict0, ↓e_dict1, ↓e_cmp, ↓e_and, ↓e_slice, ↓e_sub1, ↓e_sub2, ↓e_sub3, ↓e_sub4, ↓e_att, ↓e_meth, ↓e_call, ↓e_isi, ↓e_comp, ↓e_dcomp, ↓e_ifN, ↓e_ifc, ↓ss_nil, ↓ss_cons, ↓s_nilM, ↓s_dictM, ↓s_dictN, ↓s_bin, ↓s_call, ↓s_comp, ↓s_const, ↓s_list, ↓s_sub, ↓s_neg, ↓s_tup2, ↓s_tup3, ↓s_put, ↓s_aug, ↓s_augput, ↓s_items, ↓s_values, ↓s_for, ↓s_forN, ↓s_forA, ↓s_while, ↓s_clamp, ↓s_ret, ↓s_in, ↓s_ifNotEqRaise, ↓s_ifNotEqRet, ↓s_ifNotEqAsg, ↓s_ifEqIf, ↓s_ifLtRet, ↓s_ifGtRet, ↓s_ifOr, ↓s_ifIsi, ↓s_retT, ↓s_retC, ↓s_retK, ↓s_retU, ↓s_retB, ↓s_app, ↓s_brk, ↓b_iadd, ↓b_isub, ↓b_imul, ↓b_ifd, ↓b_imod, ↓b_ipow, ↓b_idiv, ↓b_fadd, ↓b_fsub, ↓b_fmul, ↓b_ifmul, ↓b_ladd, ↓b_sadd, ↓b_badd, ↓b_smul, ↓c_ieq, ↓c_ine, ↓c_ilt, ↓c_igt, ↓c_ige, ↓c_flt, ↓c_fgt, ↓c_seq, ↓c_sne, ↓c_tgt, ↓l_nil, ↓l_cons, ↓t_cmp, ↓t_name, ↓t_sub, ↓t_call, ↓t_and, ↓t_or, ↓t1_cmp, ↓t1_sub, ↓tr_b, ↓tr_i, ↓u_pair, ↓u_three, ↓m_none, ↓m_some, ↓o_none, ↓o_some, ↓i_list, ↓i_tup, ↓i_range, ↓x_str, ↓x_byt, ↓k_range1, ↓k_range2, ↓k_lenL, ↓k_lenS, ↓k_sum, ↓k_round, ↓k_min, ↓k_max, ↓k_abs, ↓k_int, ↓k_divmod, ↓k_fn, ↓w_count, ↓w_rjust, ↓w_cmp, ↓p_count, ↓p_rjust, ↓p_cmp, ↓z_bhh, ↓z_s0h, ↓z_slh, ↓z_lst, ↓f_nil, ↓f_cons, ↓ts_nil, ↓ts_one, ↓true_and, ↓and_true, ↓if_true, ↓if_false, ne_eq, strEq, String.reduceEq, not_false_eq_true, not_true_eq_false, ↓reduceCtorEq, ↓List.append_nil, ↓reduceIte, List.mem_cons, List.not_mem_nil, or_false, false_or, or_self, mut_eq, decide_true, decide_false, Bool.or_true, Bool.true_or, Bool.or_false, Bool.or_self, List.lookup_cons, strBeq])
    refine ⟨by decide, ?_⟩
    refine for_rule (fun ds ρ μ => ∃ (n : Int) (ps : List Nat), μ = none ∧ ds = ps.map (fun i : Nat => D.int (0 + (i : Int))) ∧ (∀ i, i ∈ ps → i < 5) ∧ ρ "number" = some (.int n) ∧ ρ "beats" = some (dBB bb) ∧ numN bb ps n = numN bb (List.range 5) 0) ?_ ?_ _ _ _
      ⟨0, List.range 5, rfl, rfl, by decide, setR_here, ?_, rfl⟩
    · rintro ρ μ ⟨n, ps, rfl, hps, _, hn, _, he⟩
      cases ps with
      | cons _ _ => cases hps
      | nil =>
      dsimp only
      rw [r_at hn]
      have : n = numN bb (List.range 5) 0 := he
      rw [this]; exact hpost
    · rintro d r ρ μ K ⟨n, ps, rfl, hps, h5, hn, hbb, he⟩ hK
      cases ps with
      | nil => cases hps
      | cons p ps =>
      simp only [List.map_cons, List.cons.injEq] at hps
      obtain ⟨rfl, rfl⟩ := hps
      have hp5 := h5 p List.mem_cons_self
      rw [m_none, m_none]
      refine ⟨trivial, trivial, by decide, ?_⟩
      refine for_rule (fun ds ρ μ => ∃ (f : Int) (os : List Nat), μ = none ∧ ds = os.map (fun i : Nat => D.int (0 + (i : Int))) ∧ (∀ i, i ∈ os → i < 5) ∧ ρ "number" = some (.int n) ∧ ρ "figure" = some (.int f) ∧ ρ "place" = some (.int (0 + (p : Int))) ∧ ρ "beats" = some (dBB bb) ∧
          rowN bb[p]! p os f = rowN bb[p]! p (List.range 5) 0) ?_ ?_ _ _ _ ⟨0, List.range 5, rfl, rfl, by decide, ?_, setR_here, ?_, ?_, rfl⟩
      · rintro ρ μ ⟨f, os, rfl, hos, _, hn, hf, hp, hbb, hfe⟩
        cases os with
        | cons _ _ => cases hos
        | nil =>
        dsimp only
        have hf' : f = rowN bb[p]! p (List.range 5) 0 := hfe
        rw [n_at hn, b_imul, n_at hf, b_iadd, m_none]
        refine ⟨.of_left (by decide), trivial, hK _ _ ⟨16 * n + f, ps, rfl, rfl, fun i hi => h5 i (List.mem_cons_of_mem _ hi), setR_here, ?_, ?_⟩⟩
        · rw [setR_off (strNe (by decide))]; exact hbb
        · rw [hf']
          exact he
      · rintro d r ρ μ K' ⟨f, os, rfl, hos, ho5, hn, hf, hp, hbb, hfe⟩ hK'
        cases os with
        | nil => cases hos
        | cons o os =>
        simp only [List.map_cons, List.cons.injEq] at hos
        obtain ⟨rfl, rfl⟩ := hos
        have ho := ho5 o List.mem_cons_self
        rw [m_none, n_at hp, c_ine]
        refine ⟨trivial, fun hne => ?_, fun hne => ?_⟩
        · have hop : ¬ o = p := by
            rintro rfl; simp at hne
          have hrow : bb[p]!.length = 5 := hr _ (get_mem (by omega))
          rw [n_at hf, b_imul, n_at hbb, n_at hp]
          refine ⟨.of_left (by decide), ?_⟩
          rw [x_map dB (by omega) (by omega) (by omega), x_map D.bool (by omega) (by rw [show (0 + (p : Int)).toNat = p by omega]; omega) (by rw [show (0 + (p : Int)).toNat = p by omega]; omega), tr_b, b_iadd, m_none]
          rw [show (0 + (p : Int)).toNat = p by omega, show (0 + (o : Int)).toNat = o by omega]
          refine ⟨trivial, hK' _ _ ⟨2 * f + (if bb[p]![o]! then 1 else 0), os, rfl, rfl, fun i hi => ho5 i (List.mem_cons_of_mem _ hi), ?_, setR_here, ?_, ?_, ?_⟩⟩
          · rw [setR_off (strNe (by decide)), setR_off (strNe (by decide))]; exact hn
          · rw [setR_off (strNe (by decide)), setR_off (strNe (by decide))]; exact hp
          · rw [setR_off (strNe (by decide)), setR_off (strNe (by decide))]; exact hbb
          · unfold rowN at hfe ⊢
            rw [List.foldl_cons, if_neg hop] at hfe
            exact hfe
        · have hop : o = p := by
            simp at hne; omega
          refine hK' _ _ ⟨f, os, rfl, rfl, fun i hi => ho5 i (List.mem_cons_of_mem _ hi), ?_, ?_, ?_, ?_, ?_⟩
          · rw [setR_off (strNe (by decide))]; exact hn
          · rw [setR_off (strNe (by decide))]; exact hf
          · rw [setR_off (strNe (by decide))]; exact hp
          · rw [setR_off (strNe (by decide))]; exact hbb
          · unfold rowN at hfe ⊢
            rw [List.foldl_cons, if_pos hop] at hfe
            exact hfe
      · rw [setR_off (strNe (by decide)), setR_off (strNe (by decide))]; exact hn
      · rw [setR_off (strNe (by decide))]; exact setR_here
      · rw [setR_off (strNe (by decide)), setR_off (strNe (by decide))]; exact hbb
    · rw [setR_off (strNe (by decide))]; exact bindR_here

noncomputable def othersF (p : Nat) : List Int := ((List.range 5).filter fun o : Nat => (0 + (o : Int)) != (0 + (p : Int))).map fun o : Nat => 0 + (o : Int)
noncomputable def bitF (c : UInt8) (k : Nat) : Bool := ((((c.toNat : Int) - 65).fdiv (2 ^ (3 - k))).fmod 2) == 1
noncomputable def winF (c : UInt8) (p : Nat) : List Int := ((List.range 4).filter (bitF c)).map fun k => (othersF p)[k]!
noncomputable def winsF (word : List UInt8) (ps : List Nat) : List (List Int) := ps.map fun p => winF (word.getD p 0) p
noncomputable def winsW (ds : List D) (post : D → Prop) : Prop := ∃ word, ds = [.byt word] ∧ word.length = 5 ∧ post (dII (winsF word (List.range 5)))

set_option maxHeartbeats 4000000 in
theorem d_wins (P : Params) (Φ : Tab) : Def1 P 136 [] Φ winsW := by
  refine ⟨_, _, [Str.ofString "word"], fun h X => ⟨_, _, X 136 _ rfl, rfl, rfl, rfl, rfl, rfl, rfl, codeRec_of X (by kernel_rfl), len1 fun a => rfl⟩, by decide +kernel, by decide +kernel, ?_⟩
  intro ds post hp
  obtain ⟨word, rfl, hl, hpost⟩ := hp
  · refine ⟨rfl, ?_⟩
    simp only [List.zip_cons_cons, List.zip_nil_right]
    (simp only [↓n_here, ↓n_off, ↓n_none, ↓n_bindHere, ↓n_bindOff, ↓n_inner, ↓r_here, ↓r_off, ↓r_mu, ↓is_F, ↓is_I, ↓is_K, ↓e_int, ↓e_flt, ↓e_str, ↓e_byt, ↓e_bool, ↓e_name, ↓e_bin, ↓e_neg, ↓e_list, ↓e_tup, ↓e_dict0, ↓e_dict1, ↓e_cmp, ↓e_and, ↓e_slice, ↓e_sub1, ↓e_sub2, ↓e_sub3, ↓e_sub4, ↓e_att, ↓e_meth, ↓e_call, ↓e_isi, ↓e_comp, ↓e_dcomp, ↓e_ifN, ↓e_ifc, ↓ss_nil, ↓ss_cons, ↓s_nilM, ↓s_dictM, ↓s_dictN, ↓s_bin, ↓s_call, ↓s_comp, ↓s_const, ↓s_list, ↓s_sub, ↓s_neg, ↓s_tup2, ↓s_tup3, ↓s_put, ↓s_aug, ↓s_augput, ↓s_items, ↓s_values, ↓s_for, ↓s_forN, ↓s_forA, ↓s_while, ↓s_clamp, ↓s_ret, ↓s_in, ↓s_ifNotEqRaise, ↓s_ifNotEqRet, ↓s_ifNotEqAsg, ↓s_ifEqIf, ↓s_ifLtRet, ↓s_ifGtRet, ↓s_ifOr, ↓s_ifIsi, ↓s_retT, ↓s_retC, ↓s_retK, ↓s_retU, ↓s_retB, ↓s_app, ↓s_brk, ↓b_iadd, ↓b_isub, ↓b_imul, ↓b_ifd, ↓b_imod, ↓b_ipow, ↓b_idiv, ↓b_fadd, ↓b_fsub, ↓b_fmul, ↓b_ifmul, ↓b_ladd, ↓b_sadd, ↓b_badd, ↓b_smul, ↓c_ieq, ↓c_ine, ↓c_ilt, ↓c_igt, ↓c_ige, ↓c_flt, ↓c_fgt, ↓c_seq, ↓c_sne, ↓c_tgt, ↓l_nil, ↓l_cons, ↓t_cmp, ↓t_name, ↓t_sub, ↓t_call, ↓t_and, ↓t_or, ↓t1_cmp, ↓t1_sub, ↓tr_b, ↓tr_i, ↓u_pair, ↓u_three, ↓m_none, ↓m_some, ↓o_none, ↓o_some, ↓i_list, ↓i_tup, ↓i_range, ↓x_str, ↓x_byt, ↓k_range1, ↓k_range2, ↓k_lenL, ↓k_lenS, ↓k_sum, ↓k_round, ↓k_min, ↓k_max, ↓k_abs, ↓k_int, ↓k_divmod, ↓k_fn, ↓w_count, ↓w_rjust, ↓w_cmp, ↓p_count, ↓p_rjust, ↓p_cmp, ↓z_bhh, ↓z_s0h, ↓z_slh, ↓z_lst, ↓f_nil, ↓f_cons, ↓ts_nil, ↓ts_one, ↓true_and, ↓and_true, ↓if_true, ↓if_false, ne_eq, strEq, String.reduceEq, not_false_eq_true, not_true_eq_false, ↓reduceCtorEq, ↓List.append_nil, ↓reduceIte, List.mem_cons, List.not_mem_nil, or_false, false_or, or_self, mut_eq, decide_true, decide_false, Bool.or_true, Bool.true_or, Bool.or_false, Bool.or_self, List.lookup_cons, strBeq])
    refine ⟨by decide, ?_⟩
    refine for_rule (fun ds ρ μ => ∃ (acc : List (List Int)) (ps : List Nat), μ = some (("wins" : Str), dII acc) ∧ ds = ps.map (fun i : Nat => D.int (0 + (i : Int))) ∧ (∀ i, i ∈ ps → i < 5) ∧ acc.length + ps.length = 5 ∧ ρ "wins" = none ∧ ρ "word" = some (.byt word) ∧
        acc ++ winsF word ps = winsF word (List.range 5)) ?_ ?_ _ _ _
      ⟨[], List.range 5, rfl, rfl, by decide, by decide, noneR_here, ?_, rfl⟩
    · rintro ρ μ ⟨acc, ps, rfl, hps, _, _, hn, _, he⟩
      cases ps with
      | cons _ _ => cases hps
      | nil =>
      dsimp only
      have e : ∀ q : D → Prop, retW ρ (some (("wins" : Str), dII acc)) "wins" q = q (dII acc) := fun q => by
        unfold retW; rw [hn]; simp
      rw [e]
      have : acc = winsF word (List.range 5) := by simpa [winsF] using he
      rw [this]; exact hpost
    · rintro d r ρ μ K ⟨acc, ps, rfl, hps, h5, hlen, hn, hw, he⟩ hK
      cases ps with
      | nil => cases hps
      | cons p ps =>
      simp only [List.map_cons, List.cons.injEq] at hps
      obtain ⟨rfl, rfl⟩ := hps
      have hp5 := h5 p List.mem_cons_self
      rw [m_some (strNe (by decide))]
      refine ⟨trivial, by decide, ?_⟩
      refine comp_A (fun i : Nat => D.int (0 + (i : Int))) (fun o => (0 + (o : Int)) != (0 + (p : Int))) (fun o => .int (0 + (o : Int))) (fun o ho q hq => ?_) (fun o ho _ q hq => ?_) (by simp) ?_
      · (simp only [↓n_here, ↓n_off, ↓n_none, ↓n_bindHere, ↓n_bindOff, ↓n_inner, ↓r_here, ↓r_off, ↓r_mu, ↓is_F, ↓is_I, ↓is_K, ↓e_int, ↓e_flt, ↓e_str, ↓e_byt, ↓e_bool, ↓e_name, ↓e_bin, ↓e_neg, ↓e_list, ↓e_tup, ↓e_dict0, ↓e_dict1, ↓e_cmp, ↓e_and, ↓e_slice, ↓e_sub1, ↓e_sub2, ↓e_sub3, ↓e_sub4, ↓e_att, ↓e_meth, ↓e_call, ↓e_isi, ↓e_comp, ↓e_dcomp, ↓e_ifN, ↓e_ifc, ↓ss_nil, ↓ss_cons, ↓s_nilM, ↓s_dictM, ↓s_dictN, ↓s_bin, ↓s_call, ↓s_comp, ↓s_const, ↓s_list, ↓s_sub, ↓s_neg, ↓s_tup2, ↓s_tup3, ↓s_put, ↓s_aug, ↓s_augput, ↓s_items, ↓s_values, ↓s_for, ↓s_forN, ↓s_forA, ↓s_while, ↓s_clamp, ↓s_ret, ↓s_in, ↓s_ifNotEqRaise, ↓s_ifNotEqRet, ↓s_ifNotEqAsg, ↓s_ifEqIf, ↓s_ifLtRet, ↓s_ifGtRet, ↓s_ifOr, ↓s_ifIsi, ↓s_retT, ↓s_retC, ↓s_retK, ↓s_retU, ↓s_retB, ↓s_app, ↓s_brk, ↓b_iadd, ↓b_isub, ↓b_imul, ↓b_ifd, ↓b_imod, ↓b_ipow, ↓b_idiv, ↓b_fadd, ↓b_fsub, ↓b_fmul, ↓b_ifmul, ↓b_ladd, ↓b_sadd, ↓b_badd, ↓b_smul, ↓c_ieq, ↓c_ine, ↓c_ilt, ↓c_igt, ↓c_ige, ↓c_flt, ↓c_fgt, ↓c_seq, ↓c_sne, ↓c_tgt, ↓l_nil, ↓l_cons, ↓t_cmp, ↓t_name, ↓t_sub, ↓t_call, ↓t_and, ↓t_or, ↓t1_cmp, ↓t1_sub, ↓tr_b, ↓tr_i, ↓u_pair, ↓u_three, ↓m_none, ↓m_some, ↓o_none, ↓o_some, ↓i_list, ↓i_tup, ↓i_range, ↓x_str, ↓x_byt, ↓k_range1, ↓k_range2, ↓k_lenL, ↓k_lenS, ↓k_sum, ↓k_round, ↓k_min, ↓k_max, ↓k_abs, ↓k_int, ↓k_divmod, ↓k_fn, ↓w_count, ↓w_rjust, ↓w_cmp, ↓p_count, ↓p_rjust, ↓p_cmp, ↓z_bhh, ↓z_s0h, ↓z_slh, ↓z_lst, ↓f_nil, ↓f_cons, ↓ts_nil, ↓ts_one, ↓true_and, ↓and_true, ↓if_true, ↓if_false, ne_eq, strEq, String.reduceEq, not_false_eq_true, not_true_eq_false, ↓reduceCtorEq, ↓List.append_nil, ↓reduceIte, List.mem_cons, List.not_mem_nil, or_false, false_or, or_self, mut_eq, decide_true, decide_false, Bool.or_true, Bool.true_or, Bool.or_false, Bool.or_self, List.lookup_cons, strBeq])
        exact hq
      · (simp only [↓n_here, ↓n_off, ↓n_none, ↓n_bindHere, ↓n_bindOff, ↓n_inner, ↓r_here, ↓r_off, ↓r_mu, ↓is_F, ↓is_I, ↓is_K, ↓e_int, ↓e_flt, ↓e_str, ↓e_byt, ↓e_bool, ↓e_name, ↓e_bin, ↓e_neg, ↓e_list, ↓e_tup, ↓e_dict0, ↓e_dict1, ↓e_cmp, ↓e_and, ↓e_slice, ↓e_sub1, ↓e_sub2, ↓e_sub3, ↓e_sub4, ↓e_att, ↓e_meth, ↓e_call, ↓e_isi, ↓e_comp, ↓e_dcomp, ↓e_ifN, ↓e_ifc, ↓ss_nil, ↓ss_cons, ↓s_nilM, ↓s_dictM, ↓s_dictN, ↓s_bin, ↓s_call, ↓s_comp, ↓s_const, ↓s_list, ↓s_sub, ↓s_neg, ↓s_tup2, ↓s_tup3, ↓s_put, ↓s_aug, ↓s_augput, ↓s_items, ↓s_values, ↓s_for, ↓s_forN, ↓s_forA, ↓s_while, ↓s_clamp, ↓s_ret, ↓s_in, ↓s_ifNotEqRaise, ↓s_ifNotEqRet, ↓s_ifNotEqAsg, ↓s_ifEqIf, ↓s_ifLtRet, ↓s_ifGtRet, ↓s_ifOr, ↓s_ifIsi, ↓s_retT, ↓s_retC, ↓s_retK, ↓s_retU, ↓s_retB, ↓s_app, ↓s_brk, ↓b_iadd, ↓b_isub, ↓b_imul, ↓b_ifd, ↓b_imod, ↓b_ipow, ↓b_idiv, ↓b_fadd, ↓b_fsub, ↓b_fmul, ↓b_ifmul, ↓b_ladd, ↓b_sadd, ↓b_badd, ↓b_smul, ↓c_ieq, ↓c_ine, ↓c_ilt, ↓c_igt, ↓c_ige, ↓c_flt, ↓c_fgt, ↓c_seq, ↓c_sne, ↓c_tgt, ↓l_nil, ↓l_cons, ↓t_cmp, ↓t_name, ↓t_sub, ↓t_call, ↓t_and, ↓t_or, ↓t1_cmp, ↓t1_sub, ↓tr_b, ↓tr_i, ↓u_pair, ↓u_three, ↓m_none, ↓m_some, ↓o_none, ↓o_some, ↓i_list, ↓i_tup, ↓i_range, ↓x_str, ↓x_byt, ↓k_range1, ↓k_range2, ↓k_lenL, ↓k_lenS, ↓k_sum, ↓k_round, ↓k_min, ↓k_max, ↓k_abs, ↓k_int, ↓k_divmod, ↓k_fn, ↓w_count, ↓w_rjust, ↓w_cmp, ↓p_count, ↓p_rjust, ↓p_cmp, ↓z_bhh, ↓z_s0h, ↓z_slh, ↓z_lst, ↓f_nil, ↓f_cons, ↓ts_nil, ↓ts_one, ↓true_and, ↓and_true, ↓if_true, ↓if_false, ne_eq, strEq, String.reduceEq, not_false_eq_true, not_true_eq_false, ↓reduceCtorEq, ↓List.append_nil, ↓reduceIte, List.mem_cons, List.not_mem_nil, or_false, false_or, or_self, mut_eq, decide_true, decide_false, Bool.or_true, Bool.true_or, Bool.or_false, Bool.or_self, List.lookup_cons, strBeq])
        exact hq
      · rw [m_some (strNe (by decide))]
        refine ⟨trivial, ?_⟩
        have eO : D.list (List.map (fun o : Nat => D.int (0 + (o : Int))) (List.filter (fun o : Nat => (0 + (o : Int)) != (0 + (p : Int))) (List.range (5 - 0 : Int).toNat))) = dI (othersF p) := by
          unfold othersF dI
          rw [List.map_map]
          rfl
        rw [eO]
        have hO : (othersF p).length = 4 := by
          have : ∀ p, p < 5 → (othersF p).length = 4 := by decide +kernel
          exact this p hp5
        (simp only [↓n_here, ↓n_off, ↓n_none, ↓n_bindHere, ↓n_bindOff, ↓n_inner, ↓r_here, ↓r_off, ↓r_mu, ↓is_F, ↓is_I, ↓is_K, ↓e_int, ↓e_flt, ↓e_str, ↓e_byt, ↓e_bool, ↓e_name, ↓e_bin, ↓e_neg, ↓e_list, ↓e_tup, ↓e_dict0, ↓e_dict1, ↓e_cmp, ↓e_and, ↓e_slice, ↓e_sub1, ↓e_sub2, ↓e_sub3, ↓e_sub4, ↓e_att, ↓e_meth, ↓e_call, ↓e_isi, ↓e_comp, ↓e_dcomp, ↓e_ifN, ↓e_ifc, ↓ss_nil, ↓ss_cons, ↓s_nilM, ↓s_dictM, ↓s_dictN, ↓s_bin, ↓s_call, ↓s_comp, ↓s_const, ↓s_list, ↓s_sub, ↓s_neg, ↓s_tup2, ↓s_tup3, ↓s_put, ↓s_aug, ↓s_augput, ↓s_items, ↓s_values, ↓s_for, ↓s_forN, ↓s_forA, ↓s_while, ↓s_clamp, ↓s_ret, ↓s_in, ↓s_ifNotEqRaise, ↓s_ifNotEqRet, ↓s_ifNotEqAsg, ↓s_ifEqIf, ↓s_ifLtRet, ↓s_ifGtRet, ↓s_ifOr, ↓s_ifIsi, ↓s_retT, ↓s_retC, ↓s_retK, ↓s_retU, ↓s_retB, ↓s_app, ↓s_brk, ↓b_iadd, ↓b_isub, ↓b_imul, ↓b_ifd, ↓b_imod, ↓b_ipow, ↓b_idiv, ↓b_fadd, ↓b_fsub, ↓b_fmul, ↓b_ifmul, ↓b_ladd, ↓b_sadd, ↓b_badd, ↓b_smul, ↓c_ieq, ↓c_ine, ↓c_ilt, ↓c_igt, ↓c_ige, ↓c_flt, ↓c_fgt, ↓c_seq, ↓c_sne, ↓c_tgt, ↓l_nil, ↓l_cons, ↓t_cmp, ↓t_name, ↓t_sub, ↓t_call, ↓t_and, ↓t_or, ↓t1_cmp, ↓t1_sub, ↓tr_b, ↓tr_i, ↓u_pair, ↓u_three, ↓m_none, ↓m_some, ↓o_none, ↓o_some, ↓i_list, ↓i_tup, ↓i_range, ↓x_str, ↓x_byt, ↓k_range1, ↓k_range2, ↓k_lenL, ↓k_lenS, ↓k_sum, ↓k_round, ↓k_min, ↓k_max, ↓k_abs, ↓k_int, ↓k_divmod, ↓k_fn, ↓w_count, ↓w_rjust, ↓w_cmp, ↓p_count, ↓p_rjust, ↓p_cmp, ↓z_bhh, ↓z_s0h, ↓z_slh, ↓z_lst, ↓f_nil, ↓f_cons, ↓ts_nil, ↓ts_one, ↓true_and, ↓and_true, ↓if_true, ↓if_false, ne_eq, strEq, String.reduceEq, not_false_eq_true, not_true_eq_false, ↓reduceCtorEq, ↓List.append_nil, ↓reduceIte, List.mem_cons, List.not_mem_nil, or_false, false_or, or_self, mut_eq, decide_true, decide_false, Bool.or_true, Bool.true_or, Bool.or_false, Bool.or_self, List.lookup_cons, strBeq])
        refine ⟨by decide, ?_⟩
        refine comp_A (fun i : Nat => D.int (0 + (i : Int))) (bitF (word.getD p 0)) (fun k => .int (othersF p)[k]!) (fun k hk q hq => ?_) (fun k hk _ q hq => ?_) (by simp) ?_
        · have hk4 : k < 4 := by simpa using hk
          (simp only [↓n_here, ↓n_off, ↓n_none, ↓n_bindHere, ↓n_bindOff, ↓n_inner, ↓r_here, ↓r_off, ↓r_mu, ↓is_F, ↓is_I, ↓is_K, ↓e_int, ↓e_flt, ↓e_str, ↓e_byt, ↓e_bool, ↓e_name, ↓e_bin, ↓e_neg, ↓e_list, ↓e_tup, ↓e_dict0, ↓e_dict1, ↓e_cmp, ↓e_and, ↓e_slice, ↓e_sub1, ↓e_sub2, ↓e_sub3, ↓e_sub4, ↓e_att, ↓e_meth, ↓e_call, ↓e_isi, ↓e_comp, ↓e_dcomp, ↓e_ifN, ↓e_ifc, ↓ss_nil, ↓ss_cons, ↓s_nilM, ↓s_dictM, ↓s_dictN, ↓s_bin, ↓s_call, ↓s_comp, ↓s_const, ↓s_list, ↓s_sub, ↓s_neg, ↓s_tup2, ↓s_tup3, ↓s_put, ↓s_aug, ↓s_augput, ↓s_items, ↓s_values, ↓s_for, ↓s_forN, ↓s_forA, ↓s_while, ↓s_clamp, ↓s_ret, ↓s_in, ↓s_ifNotEqRaise, ↓s_ifNotEqRet, ↓s_ifNotEqAsg, ↓s_ifEqIf, ↓s_ifLtRet, ↓s_ifGtRet, ↓s_ifOr, ↓s_ifIsi, ↓s_retT, ↓s_retC, ↓s_retK, ↓s_retU, ↓s_retB, ↓s_app, ↓s_brk, ↓b_iadd, ↓b_isub, ↓b_imul, ↓b_ifd, ↓b_imod, ↓b_ipow, ↓b_idiv, ↓b_fadd, ↓b_fsub, ↓b_fmul, ↓b_ifmul, ↓b_ladd, ↓b_sadd, ↓b_badd, ↓b_smul, ↓c_ieq, ↓c_ine, ↓c_ilt, ↓c_igt, ↓c_ige, ↓c_flt, ↓c_fgt, ↓c_seq, ↓c_sne, ↓c_tgt, ↓l_nil, ↓l_cons, ↓t_cmp, ↓t_name, ↓t_sub, ↓t_call, ↓t_and, ↓t_or, ↓t1_cmp, ↓t1_sub, ↓tr_b, ↓tr_i, ↓u_pair, ↓u_three, ↓m_none, ↓m_some, ↓o_none, ↓o_some, ↓i_list, ↓i_tup, ↓i_range, ↓x_str, ↓x_byt, ↓k_range1, ↓k_range2, ↓k_lenL, ↓k_lenS, ↓k_sum, ↓k_round, ↓k_min, ↓k_max, ↓k_abs, ↓k_int, ↓k_divmod, ↓k_fn, ↓w_count, ↓w_rjust, ↓w_cmp, ↓p_count, ↓p_rjust, ↓p_cmp, ↓z_bhh, ↓z_s0h, ↓z_slh, ↓z_lst, ↓f_nil, ↓f_cons, ↓ts_nil, ↓ts_one, ↓true_and, ↓and_true, ↓if_true, ↓if_false, ne_eq, strEq, String.reduceEq, not_false_eq_true, not_true_eq_false, ↓reduceCtorEq, ↓List.append_nil, ↓reduceIte, List.mem_cons, List.not_mem_nil, or_false, false_or, or_self, mut_eq, decide_true, decide_false, Bool.or_true, Bool.true_or, Bool.or_false, Bool.or_self, List.lookup_cons, strBeq])
          rw [n_at hw, x_byt]
          refine ⟨⟨by omega, by omega, by omega⟩, ?_⟩
          rw [b_isub]
          refine ⟨⟨by omega, by omega, by decide⟩, ?_⟩
          rw [show (3 - (0 + (k : Int))).toNat = 3 - k by omega, show (0 + (p : Int)).toNat = p by omega, b_ifd]
          have hpow : (2 : Int) ^ (3 - k) ≠ 0 ∧ Builtin.divisionGoesByPylong (((word.getD p 0).toNat : Int) - 65) (2 ^ (3 - k)) = false := by
            have : k = 0 ∨ k = 1 ∨ k = 2 ∨ k = 3 := by omega
            rcases this with rfl | rfl | rfl | rfl <;> exact ⟨by decide, PyProof.noPylong_small (by decide)⟩
          refine ⟨hpow, ?_⟩
          rw [b_imod, c_ieq]
          exact ⟨by decide, hq⟩
        · have hk4 : k < 4 := by simpa using hk
          (simp only [↓n_here, ↓n_off, ↓n_none, ↓n_bindHere, ↓n_bindOff, ↓n_inner, ↓r_here, ↓r_off, ↓r_mu, ↓is_F, ↓is_I, ↓is_K, ↓e_int, ↓e_flt, ↓e_str, ↓e_byt, ↓e_bool, ↓e_name, ↓e_bin, ↓e_neg, ↓e_list, ↓e_tup, ↓e_dict0, ↓e_dict1, ↓e_cmp, ↓e_and, ↓e_slice, ↓e_sub1, ↓e_sub2, ↓e_sub3, ↓e_sub4, ↓e_att, ↓e_meth, ↓e_call, ↓e_isi, ↓e_comp, ↓e_dcomp, ↓e_ifN, ↓e_ifc, ↓ss_nil, ↓ss_cons, ↓s_nilM, ↓s_dictM, ↓s_dictN, ↓s_bin, ↓s_call, ↓s_comp, ↓s_const, ↓s_list, ↓s_sub, ↓s_neg, ↓s_tup2, ↓s_tup3, ↓s_put, ↓s_aug, ↓s_augput, ↓s_items, ↓s_values, ↓s_for, ↓s_forN, ↓s_forA, ↓s_while, ↓s_clamp, ↓s_ret, ↓s_in, ↓s_ifNotEqRaise, ↓s_ifNotEqRet, ↓s_ifNotEqAsg, ↓s_ifEqIf, ↓s_ifLtRet, ↓s_ifGtRet, ↓s_ifOr, ↓s_ifIsi, ↓s_retT, ↓s_retC, ↓s_retK, ↓s_retU, ↓s_retB, ↓s_app, ↓s_brk, ↓b_iadd, ↓b_isub, ↓b_imul, ↓b_ifd, ↓b_imod, ↓b_ipow, ↓b_idiv, ↓b_fadd, ↓b_fsub, ↓b_fmul, ↓b_ifmul, ↓b_ladd, ↓b_sadd, ↓b_badd, ↓b_smul, ↓c_ieq, ↓c_ine, ↓c_ilt, ↓c_igt, ↓c_ige, ↓c_flt, ↓c_fgt, ↓c_seq, ↓c_sne, ↓c_tgt, ↓l_nil, ↓l_cons, ↓t_cmp, ↓t_name, ↓t_sub, ↓t_call, ↓t_and, ↓t_or, ↓t1_cmp, ↓t1_sub, ↓tr_b, ↓tr_i, ↓u_pair, ↓u_three, ↓m_none, ↓m_some, ↓o_none, ↓o_some, ↓i_list, ↓i_tup, ↓i_range, ↓x_str, ↓x_byt, ↓k_range1, ↓k_range2, ↓k_lenL, ↓k_lenS, ↓k_sum, ↓k_round, ↓k_min, ↓k_max, ↓k_abs, ↓k_int, ↓k_divmod, ↓k_fn, ↓w_count, ↓w_rjust, ↓w_cmp, ↓p_count, ↓p_rjust, ↓p_cmp, ↓z_bhh, ↓z_s0h, ↓z_slh, ↓z_lst, ↓f_nil, ↓f_cons, ↓ts_nil, ↓ts_one, ↓true_and, ↓and_true, ↓if_true, ↓if_false, ne_eq, strEq, String.reduceEq, not_false_eq_true, not_true_eq_false, ↓reduceCtorEq, ↓List.append_nil, ↓reduceIte, List.mem_cons, List.not_mem_nil, or_false, false_or, or_self, mut_eq, decide_true, decide_false, Bool.or_true, Bool.true_or, Bool.or_false, Bool.or_self, List.lookup_cons, strBeq])
          rw [x_ints (by omega) (by omega) (by omega)]
          rw [show (0 + (k : Int)).toNat = k by omega]
          exact hq
        · have e4 : List.map (fun k => D.int (othersF p)[k]!) (List.filter (bitF (word.getD p 0)) (List.range (4 - 0 : Int).toNat)) = (winF (word.getD p 0) p).map D.int := by
            unfold winF
            rw [List.map_map]
            rfl
          refine ⟨by simp at hlen ⊢; omega, hK _ _ ⟨acc ++ [winF (word.getD p 0) p], ps, ?_, rfl, fun i hi => h5 i (List.mem_cons_of_mem _ hi), by simp at hlen ⊢; omega, ?_, ?_, ?_⟩⟩
          · rw [e4]; simp [dII, dI]
          · rw [setR_off (strNe (by decide)), setR_off (strNe (by decide))]; exact hn
          · rw [setR_off (strNe (by decide)), setR_off (strNe (by decide))]; exact hw
          · rw [← he]
            simp [winsF]
    · rw [noneR_off (strNe (by decide))]; exact bindR_here

noncomputable abbrev pairD (q : Int × Int) : D := .tup [.int q.1, .int q.2]
noncomputable abbrev rankD (r : List (Int × Int)) : D := .list (r.map pairD)
noncomputable def rankF (cut : List (List Int)) (p : Nat) : List (Int × Int) := (List.range 3).map fun part : Nat => ((cut[p]!)[part]!, (0 + (p : Int)) * (2 * ((0 + (part : Int)).fmod 2) - 1))
noncomputable def ranksF (cut : List (List Int)) : List (List (Int × Int)) := (List.range 5).map (rankF cut)
noncomputable def gtF (a b : Int × Int) : Bool := if a.1 == b.1 then decide (b.2 < a.2) else decide (b.1 < a.1)
noncomputable def aheadF (one other : List (Int × Int)) : Bool := decide ((1 : Int) < (((List.range 3).filter fun part => gtF one[part]! other[part]!).length : Int))
noncomputable def plainF (cut : List (List Int)) : List (List Bool) := (ranksF cut).map fun one => (ranksF cut).map fun other => aheadF one other
noncomputable def plainW (ds : List D) (post : D → Prop) : Prop := ∃ cut : List (List Int), ds = [dII cut] ∧ cut.length = 5 ∧ (∀ r, r ∈ cut → r.length = 3) ∧ post (dBB (plainF cut))

set_option maxHeartbeats 4000000 in
theorem d_plain (P : Params) (Φ : Tab) : Def1 P 141 [] Φ plainW := by
  refine ⟨_, _, [Str.ofString "cut"], fun h X => ⟨_, _, X 141 _ rfl, rfl, rfl, rfl, rfl, rfl, rfl, codeRec_of X (by kernel_rfl), len1 fun a => rfl⟩, by decide +kernel, by decide +kernel, ?_⟩
  intro ds post hp
  obtain ⟨cut, rfl, hl, hr, hpost⟩ := hp
  · refine ⟨rfl, ?_⟩
    simp only [List.zip_cons_cons, List.zip_nil_right]
    (simp only [↓n_here, ↓n_off, ↓n_none, ↓n_bindHere, ↓n_bindOff, ↓n_inner, ↓r_here, ↓r_off, ↓r_mu, ↓is_F, ↓is_I, ↓is_K, ↓e_int, ↓e_flt, ↓e_str, ↓e_byt, ↓e_bool, ↓e_name, ↓e_bin, ↓e_neg, ↓e_list, ↓e_tup, ↓e_dict0, ↓e_dict1, ↓e_cmp, ↓e_and, ↓e_slice, ↓e_sub1, ↓e_sub2, ↓e_sub3, ↓e_sub4, ↓e_att, ↓e_meth, ↓e_call, ↓e_isi, ↓e_comp, ↓e_dcomp, ↓e_ifN, ↓e_ifc, ↓ss_nil, ↓ss_cons, ↓s_nilM, ↓s_dictM, ↓s_dictN, ↓s_bin, ↓s_call, ↓s_comp, ↓s_const, ↓s_list, ↓s_sub, ↓s_neg, ↓s_tup2, ↓s_tup3, ↓s_put, ↓s_aug, ↓s_augput, ↓s_items, ↓s_values, ↓s_for, ↓s_forN, ↓s_forA, ↓s_while, ↓s_clamp, ↓s_ret, ↓s_in, ↓s_ifNotEqRaise, ↓s_ifNotEqRet, ↓s_ifNotEqAsg, ↓s_ifEqIf, ↓s_ifLtRet, ↓s_ifGtRet, ↓s_ifOr, ↓s_ifIsi, ↓s_retT, ↓s_retC, ↓s_retK, ↓s_retU, ↓s_retB, ↓s_app, ↓s_brk, ↓b_iadd, ↓b_isub, ↓b_imul, ↓b_ifd, ↓b_imod, ↓b_ipow, ↓b_idiv, ↓b_fadd, ↓b_fsub, ↓b_fmul, ↓b_ifmul, ↓b_ladd, ↓b_sadd, ↓b_badd, ↓b_smul, ↓c_ieq, ↓c_ine, ↓c_ilt, ↓c_igt, ↓c_ige, ↓c_flt, ↓c_fgt, ↓c_seq, ↓c_sne, ↓c_tgt, ↓l_nil, ↓l_cons, ↓t_cmp, ↓t_name, ↓t_sub, ↓t_call, ↓t_and, ↓t_or, ↓t1_cmp, ↓t1_sub, ↓tr_b, ↓tr_i, ↓u_pair, ↓u_three, ↓m_none, ↓m_some, ↓o_none, ↓o_some, ↓i_list, ↓i_tup, ↓i_range, ↓x_str, ↓x_byt, ↓k_range1, ↓k_range2, ↓k_lenL, ↓k_lenS, ↓k_sum, ↓k_round, ↓k_min, ↓k_max, ↓k_abs, ↓k_int, ↓k_divmod, ↓k_fn, ↓w_count, ↓w_rjust, ↓w_cmp, ↓p_count, ↓p_rjust, ↓p_cmp, ↓z_bhh, ↓z_s0h, ↓z_slh, ↓z_lst, ↓f_nil, ↓f_cons, ↓ts_nil, ↓ts_one, ↓true_and, ↓and_true, ↓if_true, ↓if_false, ne_eq, strEq, String.reduceEq, not_false_eq_true, not_true_eq_false, ↓reduceCtorEq, ↓List.append_nil, ↓reduceIte, List.mem_cons, List.not_mem_nil, or_false, false_or, or_self, mut_eq, decide_true, decide_false, Bool.or_true, Bool.true_or, Bool.or_false, Bool.or_self, List.lookup_cons, strBeq])
    refine ⟨by decide, ?_⟩
    refine comp_M (fun i : Nat => D.int (0 + (i : Int))) (fun p => rankD (rankF cut p)) (fun p hp q hq => ?_) (by simp) ?_
    · have hp5 : p < 5 := by simpa using hp
      have hrow : cut[p]!.length = 3 := hr _ (get_mem (by omega))
      (simp only [↓n_here, ↓n_off, ↓n_none, ↓n_bindHere, ↓n_bindOff, ↓n_inner, ↓r_here, ↓r_off, ↓r_mu, ↓is_F, ↓is_I, ↓is_K, ↓e_int, ↓e_flt, ↓e_str, ↓e_byt, ↓e_bool, ↓e_name, ↓e_bin, ↓e_neg, ↓e_list, ↓e_tup, ↓e_dict0, ↓e_dict1, ↓e_cmp, ↓e_and, ↓e_slice, ↓e_sub1, ↓e_sub2, ↓e_sub3, ↓e_sub4, ↓e_att, ↓e_meth, ↓e_call, ↓e_isi, ↓e_comp, ↓e_dcomp, ↓e_ifN, ↓e_ifc, ↓ss_nil, ↓ss_cons, ↓s_nilM, ↓s_dictM, ↓s_dictN, ↓s_bin, ↓s_call, ↓s_comp, ↓s_const, ↓s_list, ↓s_sub, ↓s_neg, ↓s_tup2, ↓s_tup3, ↓s_put, ↓s_aug, ↓s_augput, ↓s_items, ↓s_values, ↓s_for, ↓s_forN, ↓s_forA, ↓s_while, ↓s_clamp, ↓s_ret, ↓s_in, ↓s_ifNotEqRaise, ↓s_ifNotEqRet, ↓s_ifNotEqAsg, ↓s_ifEqIf, ↓s_ifLtRet, ↓s_ifGtRet, ↓s_ifOr, ↓s_ifIsi, ↓s_retT, ↓s_retC, ↓s_retK, ↓s_retU, ↓s_retB, ↓s_app, ↓s_brk, ↓b_iadd, ↓b_isub, ↓b_imul, ↓b_ifd, ↓b_imod, ↓b_ipow, ↓b_idiv, ↓b_fadd, ↓b_fsub, ↓b_fmul, ↓b_ifmul, ↓b_ladd, ↓b_sadd, ↓b_badd, ↓b_smul, ↓c_ieq, ↓c_ine, ↓c_ilt, ↓c_igt, ↓c_ige, ↓c_flt, ↓c_fgt, ↓c_seq, ↓c_sne, ↓c_tgt, ↓l_nil, ↓l_cons, ↓t_cmp, ↓t_name, ↓t_sub, ↓t_call, ↓t_and, ↓t_or, ↓t1_cmp, ↓t1_sub, ↓tr_b, ↓tr_i, ↓u_pair, ↓u_three, ↓m_none, ↓m_some, ↓o_none, ↓o_some, ↓i_list, ↓i_tup, ↓i_range, ↓x_str, ↓x_byt, ↓k_range1, ↓k_range2, ↓k_lenL, ↓k_lenS, ↓k_sum, ↓k_round, ↓k_min, ↓k_max, ↓k_abs, ↓k_int, ↓k_divmod, ↓k_fn, ↓w_count, ↓w_rjust, ↓w_cmp, ↓p_count, ↓p_rjust, ↓p_cmp, ↓z_bhh, ↓z_s0h, ↓z_slh, ↓z_lst, ↓f_nil, ↓f_cons, ↓ts_nil, ↓ts_one, ↓true_and, ↓and_true, ↓if_true, ↓if_false, ne_eq, strEq, String.reduceEq, not_false_eq_true, not_true_eq_false, ↓reduceCtorEq, ↓List.append_nil, ↓reduceIte, List.mem_cons, List.not_mem_nil, or_false, false_or, or_self, mut_eq, decide_true, decide_false, Bool.or_true, Bool.true_or, Bool.or_false, Bool.or_self, List.lookup_cons, strBeq])
      refine ⟨by decide, ?_⟩
      refine comp_M (fun i : Nat => D.int (0 + (i : Int))) (fun part => pairD ((cut[p]!)[part]!, (0 + (p : Int)) * (2 * ((0 + (part : Int)).fmod 2) - 1))) (fun j hj q hq => ?_) (by simp) ?_
      · have hj3 : j < 3 := by simpa using hj
        (simp only [↓n_here, ↓n_off, ↓n_none, ↓n_bindHere, ↓n_bindOff, ↓n_inner, ↓r_here, ↓r_off, ↓r_mu, ↓is_F, ↓is_I, ↓is_K, ↓e_int, ↓e_flt, ↓e_str, ↓e_byt, ↓e_bool, ↓e_name, ↓e_bin, ↓e_neg, ↓e_list, ↓e_tup, ↓e_dict0, ↓e_dict1, ↓e_cmp, ↓e_and, ↓e_slice, ↓e_sub1, ↓e_sub2, ↓e_sub3, ↓e_sub4, ↓e_att, ↓e_meth, ↓e_call, ↓e_isi, ↓e_comp, ↓e_dcomp, ↓e_ifN, ↓e_ifc, ↓ss_nil, ↓ss_cons, ↓s_nilM, ↓s_dictM, ↓s_dictN, ↓s_bin, ↓s_call, ↓s_comp, ↓s_const, ↓s_list, ↓s_sub, ↓s_neg, ↓s_tup2, ↓s_tup3, ↓s_put, ↓s_aug, ↓s_augput, ↓s_items, ↓s_values, ↓s_for, ↓s_forN, ↓s_forA, ↓s_while, ↓s_clamp, ↓s_ret, ↓s_in, ↓s_ifNotEqRaise, ↓s_ifNotEqRet, ↓s_ifNotEqAsg, ↓s_ifEqIf, ↓s_ifLtRet, ↓s_ifGtRet, ↓s_ifOr, ↓s_ifIsi, ↓s_retT, ↓s_retC, ↓s_retK, ↓s_retU, ↓s_retB, ↓s_app, ↓s_brk, ↓b_iadd, ↓b_isub, ↓b_imul, ↓b_ifd, ↓b_imod, ↓b_ipow, ↓b_idiv, ↓b_fadd, ↓b_fsub, ↓b_fmul, ↓b_ifmul, ↓b_ladd, ↓b_sadd, ↓b_badd, ↓b_smul, ↓c_ieq, ↓c_ine, ↓c_ilt, ↓c_igt, ↓c_ige, ↓c_flt, ↓c_fgt, ↓c_seq, ↓c_sne, ↓c_tgt, ↓l_nil, ↓l_cons, ↓t_cmp, ↓t_name, ↓t_sub, ↓t_call, ↓t_and, ↓t_or, ↓t1_cmp, ↓t1_sub, ↓tr_b, ↓tr_i, ↓u_pair, ↓u_three, ↓m_none, ↓m_some, ↓o_none, ↓o_some, ↓i_list, ↓i_tup, ↓i_range, ↓x_str, ↓x_byt, ↓k_range1, ↓k_range2, ↓k_lenL, ↓k_lenS, ↓k_sum, ↓k_round, ↓k_min, ↓k_max, ↓k_abs, ↓k_int, ↓k_divmod, ↓k_fn, ↓w_count, ↓w_rjust, ↓w_cmp, ↓p_count, ↓p_rjust, ↓p_cmp, ↓z_bhh, ↓z_s0h, ↓z_slh, ↓z_lst, ↓f_nil, ↓f_cons, ↓ts_nil, ↓ts_one, ↓true_and, ↓and_true, ↓if_true, ↓if_false, ne_eq, strEq, String.reduceEq, not_false_eq_true, not_true_eq_false, ↓reduceCtorEq, ↓List.append_nil, ↓reduceIte, List.mem_cons, List.not_mem_nil, or_false, false_or, or_self, mut_eq, decide_true, decide_false, Bool.or_true, Bool.true_or, Bool.or_false, Bool.or_self, List.lookup_cons, strBeq])
        rw [x_map dI (by omega) (by omega) (by omega), x_map D.int (by omega) (by rw [show (0 + (p : Int)).toNat = p by omega]; omega) (by rw [show (0 + (p : Int)).toNat = p by omega]; omega)]
        rw [show (0 + (p : Int)).toNat = p by omega, show (0 + (j : Int)).toNat = j by omega]
        try (simp only [↓n_here, ↓n_off, ↓n_none, ↓n_bindHere, ↓n_bindOff, ↓n_inner, ↓r_here, ↓r_off, ↓r_mu, ↓is_F, ↓is_I, ↓is_K, ↓e_int, ↓e_flt, ↓e_str, ↓e_byt, ↓e_bool, ↓e_name, ↓e_bin, ↓e_neg, ↓e_list, ↓e_tup, ↓e_dict0, ↓e_dict1, ↓e_cmp, ↓e_and, ↓e_slice, ↓e_sub1, ↓e_sub2, ↓e_sub3, ↓e_sub4, ↓e_att, ↓e_meth, ↓e_call, ↓e_isi, ↓e_comp, ↓e_dcomp, ↓e_ifN, ↓e_ifc, ↓ss_nil, ↓ss_cons, ↓s_nilM, ↓s_dictM, ↓s_dictN, ↓s_bin, ↓s_call, ↓s_comp, ↓s_const, ↓s_list, ↓s_sub, ↓s_neg, ↓s_tup2, ↓s_tup3, ↓s_put, ↓s_aug, ↓s_augput, ↓s_items, ↓s_values, ↓s_for, ↓s_forN, ↓s_forA, ↓s_while, ↓s_clamp, ↓s_ret, ↓s_in, ↓s_ifNotEqRaise, ↓s_ifNotEqRet, ↓s_ifNotEqAsg, ↓s_ifEqIf, ↓s_ifLtRet, ↓s_ifGtRet, ↓s_ifOr, ↓s_ifIsi, ↓s_retT, ↓s_retC, ↓s_retK, ↓s_retU, ↓s_retB, ↓s_app, ↓s_brk, ↓b_iadd, ↓b_isub, ↓b_imul, ↓b_ifd, ↓b_imod, ↓b_ipow, ↓b_idiv, ↓b_fadd, ↓b_fsub, ↓b_fmul, ↓b_ifmul, ↓b_ladd, ↓b_sadd, ↓b_badd, ↓b_smul, ↓c_ieq, ↓c_ine, ↓c_ilt, ↓c_igt, ↓c_ige, ↓c_flt, ↓c_fgt, ↓c_seq, ↓c_sne, ↓c_tgt, ↓l_nil, ↓l_cons, ↓t_cmp, ↓t_name, ↓t_sub, ↓t_call, ↓t_and, ↓t_or, ↓t1_cmp, ↓t1_sub, ↓tr_b, ↓tr_i, ↓u_pair, ↓u_three, ↓m_none, ↓m_some, ↓o_none, ↓o_some, ↓i_list, ↓i_tup, ↓i_range, ↓x_str, ↓x_byt, ↓k_range1, ↓k_range2, ↓k_lenL, ↓k_lenS, ↓k_sum, ↓k_round, ↓k_min, ↓k_max, ↓k_abs, ↓k_int, ↓k_divmod, ↓k_fn, ↓w_count, ↓w_rjust, ↓w_cmp, ↓p_count, ↓p_rjust, ↓p_cmp, ↓z_bhh, ↓z_s0h, ↓z_slh, ↓z_lst, ↓f_nil, ↓f_cons, ↓ts_nil, ↓ts_one, ↓true_and, ↓and_true, ↓if_true, ↓if_false, ne_eq, strEq, String.reduceEq, not_false_eq_true, not_true_eq_false, ↓reduceCtorEq, ↓List.append_nil, ↓reduceIte, List.mem_cons, List.not_mem_nil, or_false, false_or, or_self, mut_eq, decide_true, decide_false, Bool.or_true, Bool.true_or, Bool.or_false, Bool.or_self, List.lookup_cons, strBeq])
        have hm : ∀ z, IntMulOk (0 + (p : Int)) z := fun z => .of_left (by
          have : p = 0 ∨ p = 1 ∨ p = 2 ∨ p = 3 ∨ p = 4 := by omega
          rcases this with rfl | rfl | rfl | rfl | rfl <;> decide)
        exact ⟨by decide, .of_left (by decide), hm _, by simp, hq⟩
      · have e : (List.range (3 - 0 : Int).toNat).map (fun part : Nat => pairD ((cut[p]!)[part]!, (0 + (p : Int)) * (2 * ((0 + (part : Int)).fmod 2) - 1))) = (rankF cut p).map pairD := by
          unfold rankF
          rw [List.map_map]
          rfl
        rw [e]; exact hq
    · have e : (List.range (5 - 0 : Int).toNat).map (fun p => rankD (rankF cut p)) = (ranksF cut).map rankD := by
        unfold ranksF
        rw [List.map_map]
        rfl
      rw [e]
      have hRl : (ranksF cut).length = 5 := by unfold ranksF; simp
      have hR3 : ∀ r, r ∈ ranksF cut → r.length = 3 := fun r h => by
        unfold ranksF at h
        obtain ⟨p, _, rfl⟩ := List.mem_map.mp h
        unfold rankF; simp
      refine ⟨by simp [hRl], ?_⟩
      refine comp_M rankD (fun one => dB ((ranksF cut).map fun other => aheadF one other)) (fun one ho q hq => ?_) (by omega) ?_
      · (simp only [↓n_here, ↓n_off, ↓n_none, ↓n_bindHere, ↓n_bindOff, ↓n_inner, ↓r_here, ↓r_off, ↓r_mu, ↓is_F, ↓is_I, ↓is_K, ↓e_int, ↓e_flt, ↓e_str, ↓e_byt, ↓e_bool, ↓e_name, ↓e_bin, ↓e_neg, ↓e_list, ↓e_tup, ↓e_dict0, ↓e_dict1, ↓e_cmp, ↓e_and, ↓e_slice, ↓e_sub1, ↓e_sub2, ↓e_sub3, ↓e_sub4, ↓e_att, ↓e_meth, ↓e_call, ↓e_isi, ↓e_comp, ↓e_dcomp, ↓e_ifN, ↓e_ifc, ↓ss_nil, ↓ss_cons, ↓s_nilM, ↓s_dictM, ↓s_dictN, ↓s_bin, ↓s_call, ↓s_comp, ↓s_const, ↓s_list, ↓s_sub, ↓s_neg, ↓s_tup2, ↓s_tup3, ↓s_put, ↓s_aug, ↓s_augput, ↓s_items, ↓s_values, ↓s_for, ↓s_forN, ↓s_forA, ↓s_while, ↓s_clamp, ↓s_ret, ↓s_in, ↓s_ifNotEqRaise, ↓s_ifNotEqRet, ↓s_ifNotEqAsg, ↓s_ifEqIf, ↓s_ifLtRet, ↓s_ifGtRet, ↓s_ifOr, ↓s_ifIsi, ↓s_retT, ↓s_retC, ↓s_retK, ↓s_retU, ↓s_retB, ↓s_app, ↓s_brk, ↓b_iadd, ↓b_isub, ↓b_imul, ↓b_ifd, ↓b_imod, ↓b_ipow, ↓b_idiv, ↓b_fadd, ↓b_fsub, ↓b_fmul, ↓b_ifmul, ↓b_ladd, ↓b_sadd, ↓b_badd, ↓b_smul, ↓c_ieq, ↓c_ine, ↓c_ilt, ↓c_igt, ↓c_ige, ↓c_flt, ↓c_fgt, ↓c_seq, ↓c_sne, ↓c_tgt, ↓l_nil, ↓l_cons, ↓t_cmp, ↓t_name, ↓t_sub, ↓t_call, ↓t_and, ↓t_or, ↓t1_cmp, ↓t1_sub, ↓tr_b, ↓tr_i, ↓u_pair, ↓u_three, ↓m_none, ↓m_some, ↓o_none, ↓o_some, ↓i_list, ↓i_tup, ↓i_range, ↓x_str, ↓x_byt, ↓k_range1, ↓k_range2, ↓k_lenL, ↓k_lenS, ↓k_sum, ↓k_round, ↓k_min, ↓k_max, ↓k_abs, ↓k_int, ↓k_divmod, ↓k_fn, ↓w_count, ↓w_rjust, ↓w_cmp, ↓p_count, ↓p_rjust, ↓p_cmp, ↓z_bhh, ↓z_s0h, ↓z_slh, ↓z_lst, ↓f_nil, ↓f_cons, ↓ts_nil, ↓ts_one, ↓true_and, ↓and_true, ↓if_true, ↓if_false, ne_eq, strEq, String.reduceEq, not_false_eq_true, not_true_eq_false, ↓reduceCtorEq, ↓List.append_nil, ↓reduceIte, List.mem_cons, List.not_mem_nil, or_false, false_or, or_self, mut_eq, decide_true, decide_false, Bool.or_true, Bool.true_or, Bool.or_false, Bool.or_self, List.lookup_cons, strBeq])
        refine ⟨by simp [hRl], ?_⟩
        refine comp_M rankD (fun other => D.bool (aheadF one other)) (fun other hot q hq => ?_) (by omega) ?_
        · (simp only [↓n_here, ↓n_off, ↓n_none, ↓n_bindHere, ↓n_bindOff, ↓n_inner, ↓r_here, ↓r_off, ↓r_mu, ↓is_F, ↓is_I, ↓is_K, ↓e_int, ↓e_flt, ↓e_str, ↓e_byt, ↓e_bool, ↓e_name, ↓e_bin, ↓e_neg, ↓e_list, ↓e_tup, ↓e_dict0, ↓e_dict1, ↓e_cmp, ↓e_and, ↓e_slice, ↓e_sub1, ↓e_sub2, ↓e_sub3, ↓e_sub4, ↓e_att, ↓e_meth, ↓e_call, ↓e_isi, ↓e_comp, ↓e_dcomp, ↓e_ifN, ↓e_ifc, ↓ss_nil, ↓ss_cons, ↓s_nilM, ↓s_dictM, ↓s_dictN, ↓s_bin, ↓s_call, ↓s_comp, ↓s_const, ↓s_list, ↓s_sub, ↓s_neg, ↓s_tup2, ↓s_tup3, ↓s_put, ↓s_aug, ↓s_augput, ↓s_items, ↓s_values, ↓s_for, ↓s_forN, ↓s_forA, ↓s_while, ↓s_clamp, ↓s_ret, ↓s_in, ↓s_ifNotEqRaise, ↓s_ifNotEqRet, ↓s_ifNotEqAsg, ↓s_ifEqIf, ↓s_ifLtRet, ↓s_ifGtRet, ↓s_ifOr, ↓s_ifIsi, ↓s_retT, ↓s_retC, ↓s_retK, ↓s_retU, ↓s_retB, ↓s_app, ↓s_brk, ↓b_iadd, ↓b_isub, ↓b_imul, ↓b_ifd, ↓b_imod, ↓b_ipow, ↓b_idiv, ↓b_fadd, ↓b_fsub, ↓b_fmul, ↓b_ifmul, ↓b_ladd, ↓b_sadd, ↓b_badd, ↓b_smul, ↓c_ieq, ↓c_ine, ↓c_ilt, ↓c_igt, ↓c_ige, ↓c_flt, ↓c_fgt, ↓c_seq, ↓c_sne, ↓c_tgt, ↓l_nil, ↓l_cons, ↓t_cmp, ↓t_name, ↓t_sub, ↓t_call, ↓t_and, ↓t_or, ↓t1_cmp, ↓t1_sub, ↓tr_b, ↓tr_i, ↓u_pair, ↓u_three, ↓m_none, ↓m_some, ↓o_none, ↓o_some, ↓i_list, ↓i_tup, ↓i_range, ↓x_str, ↓x_byt, ↓k_range1, ↓k_range2, ↓k_lenL, ↓k_lenS, ↓k_sum, ↓k_round, ↓k_min, ↓k_max, ↓k_abs, ↓k_int, ↓k_divmod, ↓k_fn, ↓w_count, ↓w_rjust, ↓w_cmp, ↓p_count, ↓p_rjust, ↓p_cmp, ↓z_bhh, ↓z_s0h, ↓z_slh, ↓z_lst, ↓f_nil, ↓f_cons, ↓ts_nil, ↓ts_one, ↓true_and, ↓and_true, ↓if_true, ↓if_false, ne_eq, strEq, String.reduceEq, not_false_eq_true, not_true_eq_false, ↓reduceCtorEq, ↓List.append_nil, ↓reduceIte, List.mem_cons, List.not_mem_nil, or_false, false_or, or_self, mut_eq, decide_true, decide_false, Bool.or_true, Bool.true_or, Bool.or_false, Bool.or_self, List.lookup_cons, strBeq])
          refine ⟨by decide, ?_⟩
          refine comp_A (fun i : Nat => D.int (0 + (i : Int))) (fun part => gtF one[part]! other[part]!) (fun part => .int (0 + (part : Int))) (fun j hj q hq => ?_) (fun j hj _ q hq => ?_) (by simp) ?_
          · have hj3 : j < 3 := by simpa using hj
            have h1 := hR3 _ ho
            have h2 := hR3 _ hot
            (simp only [↓n_here, ↓n_off, ↓n_none, ↓n_bindHere, ↓n_bindOff, ↓n_inner, ↓r_here, ↓r_off, ↓r_mu, ↓is_F, ↓is_I, ↓is_K, ↓e_int, ↓e_flt, ↓e_str, ↓e_byt, ↓e_bool, ↓e_name, ↓e_bin, ↓e_neg, ↓e_list, ↓e_tup, ↓e_dict0, ↓e_dict1, ↓e_cmp, ↓e_and, ↓e_slice, ↓e_sub1, ↓e_sub2, ↓e_sub3, ↓e_sub4, ↓e_att, ↓e_meth, ↓e_call, ↓e_isi, ↓e_comp, ↓e_dcomp, ↓e_ifN, ↓e_ifc, ↓ss_nil, ↓ss_cons, ↓s_nilM, ↓s_dictM, ↓s_dictN, ↓s_bin, ↓s_call, ↓s_comp, ↓s_const, ↓s_list, ↓s_sub, ↓s_neg, ↓s_tup2, ↓s_tup3, ↓s_put, ↓s_aug, ↓s_augput, ↓s_items, ↓s_values, ↓s_for, ↓s_forN, ↓s_forA, ↓s_while, ↓s_clamp, ↓s_ret, ↓s_in, ↓s_ifNotEqRaise, ↓s_ifNotEqRet, ↓s_ifNotEqAsg, ↓s_ifEqIf, ↓s_ifLtRet, ↓s_ifGtRet, ↓s_ifOr, ↓s_ifIsi, ↓s_retT, ↓s_retC, ↓s_retK, ↓s_retU, ↓s_retB, ↓s_app, ↓s_brk, ↓b_iadd, ↓b_isub, ↓b_imul, ↓b_ifd, ↓b_imod, ↓b_ipow, ↓b_idiv, ↓b_fadd, ↓b_fsub, ↓b_fmul, ↓b_ifmul, ↓b_ladd, ↓b_sadd, ↓b_badd, ↓b_smul, ↓c_ieq, ↓c_ine, ↓c_ilt, ↓c_igt, ↓c_ige, ↓c_flt, ↓c_fgt, ↓c_seq, ↓c_sne, ↓c_tgt, ↓l_nil, ↓l_cons, ↓t_cmp, ↓t_name, ↓t_sub, ↓t_call, ↓t_and, ↓t_or, ↓t1_cmp, ↓t1_sub, ↓tr_b, ↓tr_i, ↓u_pair, ↓u_three, ↓m_none, ↓m_some, ↓o_none, ↓o_some, ↓i_list, ↓i_tup, ↓i_range, ↓x_str, ↓x_byt, ↓k_range1, ↓k_range2, ↓k_lenL, ↓k_lenS, ↓k_sum, ↓k_round, ↓k_min, ↓k_max, ↓k_abs, ↓k_int, ↓k_divmod, ↓k_fn, ↓w_count, ↓w_rjust, ↓w_cmp, ↓p_count, ↓p_rjust, ↓p_cmp, ↓z_bhh, ↓z_s0h, ↓z_slh, ↓z_lst, ↓f_nil, ↓f_cons, ↓ts_nil, ↓ts_one, ↓true_and, ↓and_true, ↓if_true, ↓if_false, ne_eq, strEq, String.reduceEq, not_false_eq_true, not_true_eq_false, ↓reduceCtorEq, ↓List.append_nil, ↓reduceIte, List.mem_cons, List.not_mem_nil, or_false, false_or, or_self, mut_eq, decide_true, decide_false, Bool.or_true, Bool.true_or, Bool.or_false, Bool.or_self, List.lookup_cons, strBeq])
            rw [x_map pairD (by omega) (by omega) (by omega), x_map pairD (by omega) (by omega) (by omega)]
            rw [show (0 + (j : Int)).toNat = j by omega, c_tgt]
            exact hq
          · (simp only [↓n_here, ↓n_off, ↓n_none, ↓n_bindHere, ↓n_bindOff, ↓n_inner, ↓r_here, ↓r_off, ↓r_mu, ↓is_F, ↓is_I, ↓is_K, ↓e_int, ↓e_flt, ↓e_str, ↓e_byt, ↓e_bool, ↓e_name, ↓e_bin, ↓e_neg, ↓e_list, ↓e_tup, ↓e_dict0, ↓e_dict1, ↓e_cmp, ↓e_and, ↓e_slice, ↓e_sub1, ↓e_sub2, ↓e_sub3, ↓e_sub4, ↓e_att, ↓e_meth, ↓e_call, ↓e_isi, ↓e_comp, ↓e_dcomp, ↓e_ifN, ↓e_ifc, ↓ss_nil, ↓ss_cons, ↓s_nilM, ↓s_dictM, ↓s_dictN, ↓s_bin, ↓s_call, ↓s_comp, ↓s_const, ↓s_list, ↓s_sub, ↓s_neg, ↓s_tup2, ↓s_tup3, ↓s_put, ↓s_aug, ↓s_augput, ↓s_items, ↓s_values, ↓s_for, ↓s_forN, ↓s_forA, ↓s_while, ↓s_clamp, ↓s_ret, ↓s_in, ↓s_ifNotEqRaise, ↓s_ifNotEqRet, ↓s_ifNotEqAsg, ↓s_ifEqIf, ↓s_ifLtRet, ↓s_ifGtRet, ↓s_ifOr, ↓s_ifIsi, ↓s_retT, ↓s_retC, ↓s_retK, ↓s_retU, ↓s_retB, ↓s_app, ↓s_brk, ↓b_iadd, ↓b_isub, ↓b_imul, ↓b_ifd, ↓b_imod, ↓b_ipow, ↓b_idiv, ↓b_fadd, ↓b_fsub, ↓b_fmul, ↓b_ifmul, ↓b_ladd, ↓b_sadd, ↓b_badd, ↓b_smul, ↓c_ieq, ↓c_ine, ↓c_ilt, ↓c_igt, ↓c_ige, ↓c_flt, ↓c_fgt, ↓c_seq, ↓c_sne, ↓c_tgt, ↓l_nil, ↓l_cons, ↓t_cmp, ↓t_name, ↓t_sub, ↓t_call, ↓t_and, ↓t_or, ↓t1_cmp, ↓t1_sub, ↓tr_b, ↓tr_i, ↓u_pair, ↓u_three, ↓m_none, ↓m_some, ↓o_none, ↓o_some, ↓i_list, ↓i_tup, ↓i_range, ↓x_str, ↓x_byt, ↓k_range1, ↓k_range2, ↓k_lenL, ↓k_lenS, ↓k_sum, ↓k_round, ↓k_min, ↓k_max, ↓k_abs, ↓k_int, ↓k_divmod, ↓k_fn, ↓w_count, ↓w_rjust, ↓w_cmp, ↓p_count, ↓p_rjust, ↓p_cmp, ↓z_bhh, ↓z_s0h, ↓z_slh, ↓z_lst, ↓f_nil, ↓f_cons, ↓ts_nil, ↓ts_one, ↓true_and, ↓and_true, ↓if_true, ↓if_false, ne_eq, strEq, String.reduceEq, not_false_eq_true, not_true_eq_false, ↓reduceCtorEq, ↓List.append_nil, ↓reduceIte, List.mem_cons, List.not_mem_nil, or_false, false_or, or_self, mut_eq, decide_true, decide_false, Bool.or_true, Bool.true_or, Bool.or_false, Bool.or_self, List.lookup_cons, strBeq])
            exact hq
          · refine ⟨Nat.le_trans (by rw [List.length_map]; exact List.length_filter_le _ _) (by simp), ?_⟩
            rw [List.length_map]
            exact hq
        · have e2 : (ranksF cut).map (fun other => D.bool (aheadF one other)) = ((ranksF cut).map fun other => aheadF one other).map D.bool := by rw [List.map_map]; rfl
          rw [e2]; exact hq
      · have e3 : (ranksF cut).map (fun one => dB ((ranksF cut).map fun other => aheadF one other)) = (plainF cut).map dB := by unfold plainF; rw [List.map_map]; rfl
        rw [e3]; exact hpost

noncomputable def lastI (L : List Int) : Int := L[L.length - 1]!
theorem x_last {L : List Int} {post : D → Prop} (h : L ≠ []) (hl : L.length ≤ 1000000) : itemW (.list (L.map D.int)) (.int (-1)) post = post (.int (lastI L)) := by
  have hpos : 0 < L.length := List.length_pos_iff.mpr h
  rw [x_list]
  unfold atD
  rw [if_pos (by decide), if_neg (by rw [List.length_map]; omega), List.length_map, show ((-1 : Int) + (L.length : Int)).toNat = L.length - 1 by omega, List.getElem?_map, List.getElem?_eq_getElem (by omega)]
  unfold lastI
  rw [getElem!_pos L (L.length - 1) (by omega)]
  simp only [Option.map_some, eq_iff_iff]
  exact ⟨fun h => h.2, fun h => ⟨⟨by decide, by decide, by simpa using hl⟩, h⟩⟩
theorem c_notin {x : Int} {ns : List Int} {pb : Bool → Prop} : cmpW .NotIn (.int x) (.list (ns.map D.int)) pb = pb (!ns.contains x) := by
  show (match intsD (ns.map D.int) with | some ns => pb (!ns.contains x) | none => False) = _
  rw [intsD_of]

noncomputable def mayF (bb : List (List Bool)) (f : Nat) (row : List Int) (x : Nat) : Bool := !row.contains (0 + (f : Int) + 1 + (x : Int)) && (bb[(lastI row).toNat]!)[(0 + (f : Int) + 1 + (x : Int)).toNat]!
noncomputable def stepF (bb : List (List Bool)) (f : Nat) (rows : List (List Int)) : List (List Int) :=
  rows.flatMap fun row => ((List.range (5 - (0 + (f : Int) + 1)).toNat).filter (mayF bb f row)).map fun x : Nat => row ++ [0 + (f : Int) + 1 + (x : Int)]
noncomputable def rowsF (bb : List (List Bool)) (f : Nat) (steps : List Nat) (rows : List (List Int)) : List (List Int) := steps.foldl (fun rows _ => stepF bb f rows) rows
noncomputable def closeF (bb : List (List Bool)) (f : Nat) (row : List Int) : Bool := (bb[(lastI row).toNat]!)[(0 + (f : Int)).toNat]!
noncomputable def ringsF (bb : List (List Bool)) (size : Int) (fs : List Nat) (found : Int) : Int := fs.foldl (fun n f => n + (((rowsF bb f (List.range (size - 1 - 0).toNat) [[0 + (f : Int)]]).filter (closeF bb f)).length : Int)) found
noncomputable def ringsW (ds : List D) (post : D → Prop) : Prop := ∃ (bb : List (List Bool)) (size : Int), ds = [dBB bb, .int size] ∧ bb.length = 5 ∧ (∀ r, r ∈ bb → r.length = 5) ∧ (size = 3 ∨ size = 5) ∧ post (.int (ringsF bb size (List.range (6 - size - 0).toNat) 0))

theorem lastI_mem {L : List Int} (h : L ≠ []) (hel : ∀ x, x ∈ L → 0 ≤ x ∧ x < 5) : 0 ≤ lastI L ∧ lastI L < 5 := by
  have hpos : 0 < L.length := List.length_pos_iff.mpr h
  exact hel _ (get_mem (by omega))
theorem sum_le {α : Type} (f : α → Nat) (m : Nat) : ∀ {l : List α}, (∀ a, a ∈ l → f a ≤ m) → (l.map f).sum ≤ l.length * m
  | [], _ => by simp
  | a :: l, h => by
    have := sum_le f m (l := l) fun b hb => h b (List.mem_cons_of_mem _ hb)
    have := h a List.mem_cons_self
    simp only [List.map_cons, List.sum_cons, List.length_cons, Nat.add_mul, Nat.one_mul]
    omega

set_option maxHeartbeats 4000000 in
theorem d_rings (P : Params) (Φ : Tab) : Def1 P 146 [] Φ ringsW := by
  refine ⟨_, _, [Str.ofString "beats", Str.ofString "size"], fun h X => ⟨_, _, X 146 _ rfl, rfl, rfl, rfl, rfl, rfl, rfl, codeRec_of X (by kernel_rfl), len2 fun a b => rfl⟩, by decide +kernel, by decide +kernel, ?_⟩
  intro ds post hp
  obtain ⟨bb, size, rfl, hl, hr, hs, hpost⟩ := hp
  · refine ⟨rfl, ?_⟩
    simp only [List.zip_cons_cons, List.zip_nil_right]
    (simp only [↓n_here, ↓n_off, ↓n_none, ↓n_bindHere, ↓n_bindOff, ↓n_inner, ↓r_here, ↓r_off, ↓r_mu, ↓is_F, ↓is_I, ↓is_K, ↓e_int, ↓e_flt, ↓e_str, ↓e_byt, ↓e_bool, ↓e_name, ↓e_bin, ↓e_neg, ↓e_list, ↓e_tup, ↓e_dict0, ↓e_dict1, ↓e_cmp, ↓e_and, ↓e_slice, ↓e_sub1, ↓e_sub2, ↓e_sub3, ↓e_sub4, ↓e_att, ↓e_meth, ↓e_call, ↓e_isi, ↓e_comp, ↓e_dcomp, ↓e_ifN, ↓e_ifc, ↓ss_nil, ↓ss_cons, ↓s_nilM, ↓s_dictM, ↓s_dictN, ↓s_bin, ↓s_call, ↓s_comp, ↓s_const, ↓s_list, ↓s_sub, ↓s_neg, ↓s_tup2, ↓s_tup3, ↓s_put, ↓s_aug, ↓s_augput, ↓s_items, ↓s_values, ↓s_for, ↓s_forN, ↓s_forA, ↓s_while, ↓s_clamp, ↓s_ret, ↓s_in, ↓s_ifNotEqRaise, ↓s_ifNotEqRet, ↓s_ifNotEqAsg, ↓s_ifEqIf, ↓s_ifLtRet, ↓s_ifGtRet, ↓s_ifOr, ↓s_ifIsi, ↓s_retT, ↓s_retC, ↓s_retK, ↓s_retU, ↓s_retB, ↓s_app, ↓s_brk, ↓b_iadd, ↓b_isub, ↓b_imul, ↓b_ifd, ↓b_imod, ↓b_ipow, ↓b_idiv, ↓b_fadd, ↓b_fsub, ↓b_fmul, ↓b_ifmul, ↓b_ladd, ↓b_sadd, ↓b_badd, ↓b_smul, ↓c_ieq, ↓c_ine, ↓c_ilt, ↓c_igt, ↓c_ige, ↓c_flt, ↓c_fgt, ↓c_seq, ↓c_sne, ↓c_tgt, ↓l_nil, ↓l_cons, ↓t_cmp, ↓t_name, ↓t_sub, ↓t_call, ↓t_and, ↓t_or, ↓t1_cmp, ↓t1_sub, ↓tr_b, ↓tr_i, ↓u_pair, ↓u_three, ↓m_none, ↓m_some, ↓o_none, ↓o_some, ↓i_list, ↓i_tup, ↓i_range, ↓x_str, ↓x_byt, ↓k_range1, ↓k_range2, ↓k_lenL, ↓k_lenS, ↓k_sum, ↓k_round, ↓k_min, ↓k_max, ↓k_abs, ↓k_int, ↓k_divmod, ↓k_fn, ↓w_count, ↓w_rjust, ↓w_cmp, ↓p_count, ↓p_rjust, ↓p_cmp, ↓z_bhh, ↓z_s0h, ↓z_slh, ↓z_lst, ↓f_nil, ↓f_cons, ↓ts_nil, ↓ts_one, ↓true_and, ↓and_true, ↓if_true, ↓if_false, ne_eq, strEq, String.reduceEq, not_false_eq_true, not_true_eq_false, ↓reduceCtorEq, ↓List.append_nil, ↓reduceIte, List.mem_cons, List.not_mem_nil, or_false, false_or, or_self, mut_eq, decide_true, decide_false, Bool.or_true, Bool.true_or, Bool.or_false, Bool.or_self, List.lookup_cons, strBeq])
    refine ⟨⟨by omega, by omega, by omega, by omega⟩, ?_⟩
    refine for_rule (fun ds ρ μ => ∃ (n : Int) (fs : List Nat), μ = none ∧ ds = fs.map (fun i : Nat => D.int (0 + (i : Int))) ∧ (∀ i, i ∈ fs → i < 5) ∧ ρ "found" = some (.int n) ∧ ρ "beats" = some (dBB bb) ∧ ρ "size" = some (.int size) ∧
        ringsF bb size fs n = ringsF bb size (List.range (6 - size - 0).toNat) 0) ?_ ?_ _ _ _ ⟨0, List.range (6 - size - 0).toNat, rfl, rfl, fun i hi => ?_, setR_here, ?_, ?_, rfl⟩
    · rintro ρ μ ⟨n, fs, rfl, hfs, _, hn, _, _, he⟩
      cases fs with
      | cons _ _ => cases hfs
      | nil =>
      dsimp only
      rw [r_at hn]
      have : n = ringsF bb size (List.range (6 - size - 0).toNat) 0 := he
      rw [this]; exact hpost
    · rintro d r ρ μ K ⟨n, fs, rfl, hfs, h5, hn, hbb, hsz, he⟩ hK
      cases fs with
      | nil => cases hfs
      | cons f fs =>
      simp only [List.map_cons, List.cons.injEq] at hfs
      obtain ⟨rfl, rfl⟩ := hfs
      have hf5 := h5 f List.mem_cons_self
      rw [m_none, m_none, n_at hsz, b_isub, k_range1, i_range]
      refine ⟨trivial, by simp, by simp, trivial, ⟨by omega, by omega, by omega, by omega⟩, ?_⟩
      refine for_rule (fun ds ρ μ => ∃ (rows : List (List Int)) (st : List Nat), μ = none ∧ ds = st.map (fun i : Nat => D.int (0 + (i : Int))) ∧ (∀ row, row ∈ rows → row ≠ [] ∧ row.length + st.length ≤ 6 ∧ ∀ x, x ∈ row → 0 ≤ x ∧ x < 5) ∧ rows.length * 5 ^ st.length ≤ 3125 ∧
          ρ "found" = some (.int n) ∧ ρ "beats" = some (dBB bb) ∧ ρ "size" = some (.int size) ∧ ρ "first" = some (.int (0 + (f : Int))) ∧ ρ "rows" = some (dII rows) ∧
          rowsF bb f st rows = rowsF bb f (List.range (size - 1 - 0).toNat) [[0 + (f : Int)]]) ?_ ?_ _ _ _
        ⟨[[0 + (f : Int)]], List.range (size - 1 - 0).toNat, rfl, rfl, ?_, ?_, ?_, ?_, ?_, ?_, setR_here, rfl⟩
      · rintro ρ μ ⟨rows, st, rfl, hst, hgood, hcnt, hn, hbb, hsz, hf, hrows, hre⟩
        cases st with
        | cons _ _ => cases hst
        | nil =>
        dsimp only
        have hre' : rows = rowsF bb f (List.range (size - 1 - 0).toNat) [[0 + (f : Int)]] := hre
        have hcl : rows.length ≤ 3125 := by simpa using hcnt
        rw [n_at hn, is_I, n_at hrows, i_list]
        refine ⟨by simp; omega, ?_⟩
        refine comp_A dI (closeF bb f) dI (fun row hrow q hq => ?_) (fun row hrow _ q hq => ?_) (by omega) ?_
        · obtain ⟨hne, hln, hel⟩ := hgood row hrow
          (simp only [↓n_here, ↓n_off, ↓n_none, ↓n_bindHere, ↓n_bindOff, ↓n_inner, ↓r_here, ↓r_off, ↓r_mu, ↓is_F, ↓is_I, ↓is_K, ↓e_int, ↓e_flt, ↓e_str, ↓e_byt, ↓e_bool, ↓e_name, ↓e_bin, ↓e_neg, ↓e_list, ↓e_tup, ↓e_dict0, ↓e_dict1, ↓e_cmp, ↓e_and, ↓e_slice, ↓e_sub1, ↓e_sub2, ↓e_sub3, ↓e_sub4, ↓e_att, ↓e_meth, ↓e_call, ↓e_isi, ↓e_comp, ↓e_dcomp, ↓e_ifN, ↓e_ifc, ↓ss_nil, ↓ss_cons, ↓s_nilM, ↓s_dictM, ↓s_dictN, ↓s_bin, ↓s_call, ↓s_comp, ↓s_const, ↓s_list, ↓s_sub, ↓s_neg, ↓s_tup2, ↓s_tup3, ↓s_put, ↓s_aug, ↓s_augput, ↓s_items, ↓s_values, ↓s_for, ↓s_forN, ↓s_forA, ↓s_while, ↓s_clamp, ↓s_ret, ↓s_in, ↓s_ifNotEqRaise, ↓s_ifNotEqRet, ↓s_ifNotEqAsg, ↓s_ifEqIf, ↓s_ifLtRet, ↓s_ifGtRet, ↓s_ifOr, ↓s_ifIsi, ↓s_retT, ↓s_retC, ↓s_retK, ↓s_retU, ↓s_retB, ↓s_app, ↓s_brk, ↓b_iadd, ↓b_isub, ↓b_imul, ↓b_ifd, ↓b_imod, ↓b_ipow, ↓b_idiv, ↓b_fadd, ↓b_fsub, ↓b_fmul, ↓b_ifmul, ↓b_ladd, ↓b_sadd, ↓b_badd, ↓b_smul, ↓c_ieq, ↓c_ine, ↓c_ilt, ↓c_igt, ↓c_ige, ↓c_flt, ↓c_fgt, ↓c_seq, ↓c_sne, ↓c_tgt, ↓l_nil, ↓l_cons, ↓t_cmp, ↓t_name, ↓t_sub, ↓t_call, ↓t_and, ↓t_or, ↓t1_cmp, ↓t1_sub, ↓tr_b, ↓tr_i, ↓u_pair, ↓u_three, ↓m_none, ↓m_some, ↓o_none, ↓o_some, ↓i_list, ↓i_tup, ↓i_range, ↓x_str, ↓x_byt, ↓k_range1, ↓k_range2, ↓k_lenL, ↓k_lenS, ↓k_sum, ↓k_round, ↓k_min, ↓k_max, ↓k_abs, ↓k_int, ↓k_divmod, ↓k_fn, ↓w_count, ↓w_rjust, ↓w_cmp, ↓p_count, ↓p_rjust, ↓p_cmp, ↓z_bhh, ↓z_s0h, ↓z_slh, ↓z_lst, ↓f_nil, ↓f_cons, ↓ts_nil, ↓ts_one, ↓true_and, ↓and_true, ↓if_true, ↓if_false, ne_eq, strEq, String.reduceEq, not_false_eq_true, not_true_eq_false, ↓reduceCtorEq, ↓List.append_nil, ↓reduceIte, List.mem_cons, List.not_mem_nil, or_false, false_or, or_self, mut_eq, decide_true, decide_false, Bool.or_true, Bool.true_or, Bool.or_false, Bool.or_self, List.lookup_cons, strBeq])
          have hla := lastI_mem hne hel
          rw [n_at hbb, x_last hne (by omega), x_map dB hla.1 (by omega) (by omega), n_at hf]
          have hrl : bb[(lastI row).toNat]!.length = 5 := hr _ (get_mem (by omega))
          rw [x_map D.bool (by omega) (by omega) (by omega), tr_b]
          exact hq
        · (simp only [↓n_here, ↓n_off, ↓n_none, ↓n_bindHere, ↓n_bindOff, ↓n_inner, ↓r_here, ↓r_off, ↓r_mu, ↓is_F, ↓is_I, ↓is_K, ↓e_int, ↓e_flt, ↓e_str, ↓e_byt, ↓e_bool, ↓e_name, ↓e_bin, ↓e_neg, ↓e_list, ↓e_tup, ↓e_dict0, ↓e_dict1, ↓e_cmp, ↓e_and, ↓e_slice, ↓e_sub1, ↓e_sub2, ↓e_sub3, ↓e_sub4, ↓e_att, ↓e_meth, ↓e_call, ↓e_isi, ↓e_comp, ↓e_dcomp, ↓e_ifN, ↓e_ifc, ↓ss_nil, ↓ss_cons, ↓s_nilM, ↓s_dictM, ↓s_dictN, ↓s_bin, ↓s_call, ↓s_comp, ↓s_const, ↓s_list, ↓s_sub, ↓s_neg, ↓s_tup2, ↓s_tup3, ↓s_put, ↓s_aug, ↓s_augput, ↓s_items, ↓s_values, ↓s_for, ↓s_forN, ↓s_forA, ↓s_while, ↓s_clamp, ↓s_ret, ↓s_in, ↓s_ifNotEqRaise, ↓s_ifNotEqRet, ↓s_ifNotEqAsg, ↓s_ifEqIf, ↓s_ifLtRet, ↓s_ifGtRet, ↓s_ifOr, ↓s_ifIsi, ↓s_retT, ↓s_retC, ↓s_retK, ↓s_retU, ↓s_retB, ↓s_app, ↓s_brk, ↓b_iadd, ↓b_isub, ↓b_imul, ↓b_ifd, ↓b_imod, ↓b_ipow, ↓b_idiv, ↓b_fadd, ↓b_fsub, ↓b_fmul, ↓b_ifmul, ↓b_ladd, ↓b_sadd, ↓b_badd, ↓b_smul, ↓c_ieq, ↓c_ine, ↓c_ilt, ↓c_igt, ↓c_ige, ↓c_flt, ↓c_fgt, ↓c_seq, ↓c_sne, ↓c_tgt, ↓l_nil, ↓l_cons, ↓t_cmp, ↓t_name, ↓t_sub, ↓t_call, ↓t_and, ↓t_or, ↓t1_cmp, ↓t1_sub, ↓tr_b, ↓tr_i, ↓u_pair, ↓u_three, ↓m_none, ↓m_some, ↓o_none, ↓o_some, ↓i_list, ↓i_tup, ↓i_range, ↓x_str, ↓x_byt, ↓k_range1, ↓k_range2, ↓k_lenL, ↓k_lenS, ↓k_sum, ↓k_round, ↓k_min, ↓k_max, ↓k_abs, ↓k_int, ↓k_divmod, ↓k_fn, ↓w_count, ↓w_rjust, ↓w_cmp, ↓p_count, ↓p_rjust, ↓p_cmp, ↓z_bhh, ↓z_s0h, ↓z_slh, ↓z_lst, ↓f_nil, ↓f_cons, ↓ts_nil, ↓ts_one, ↓true_and, ↓and_true, ↓if_true, ↓if_false, ne_eq, strEq, String.reduceEq, not_false_eq_true, not_true_eq_false, ↓reduceCtorEq, ↓List.append_nil, ↓reduceIte, List.mem_cons, List.not_mem_nil, or_false, false_or, or_self, mut_eq, decide_true, decide_false, Bool.or_true, Bool.true_or, Bool.or_false, Bool.or_self, List.lookup_cons, strBeq])
          exact hq
        · refine ⟨Nat.le_trans (by rw [List.length_map]; exact List.length_filter_le _ _) (by omega), ?_⟩
          rw [m_none, List.length_map]
          refine ⟨trivial, hK _ _ ⟨_, fs, rfl, rfl, fun i hi => h5 i (List.mem_cons_of_mem _ hi), setR_here, ?_, ?_, ?_⟩⟩
          · rw [setR_off (strNe (by decide))]; exact hbb
          · rw [setR_off (strNe (by decide))]; exact hsz
          · rw [hre']
            exact he
      · rintro d r ρ μ K' ⟨rows, st, rfl, hst, hgood, hcnt, hn, hbb, hsz, hf, hrows, hre⟩ hK'
        cases st with
        | nil => cases hst
        | cons s0 st =>
        simp only [List.map_cons, List.cons.injEq] at hst
        obtain ⟨rfl, rfl⟩ := hst
        rw [m_none, n_at hrows, i_list]
        have hcl : rows.length * 5 ≤ 3125 := by
          rw [List.length_cons, Nat.pow_succ] at hcnt
          have : 1 ≤ 5 ^ st.length := Nat.one_le_pow _ _ (by decide)
          calc rows.length * 5 = rows.length * (1 * 5) := by rw [Nat.one_mul]
            _ ≤ rows.length * (5 ^ st.length * 5) := Nat.mul_le_mul_left _ (Nat.mul_le_mul_right _ this)
            _ ≤ 3125 := hcnt
        refine ⟨trivial, by simp; omega, ?_⟩
        refine comp_AA dI (fun _ => List.range (5 - (0 + (f : Int) + 1)).toNat) (fun x : Nat => D.int (0 + (f : Int) + 1 + (x : Int))) (mayF bb f) (fun row x => dI (row ++ [0 + (f : Int) + 1 + (x : Int)])) 5 (fun row hrow q hq => ?_) (fun row hrow x hx q hq => ?_) (fun row hrow x hx _ q hq => ?_) (fun row hrow => by simp; omega) (by omega) ?_
        · (simp only [↓n_here, ↓n_off, ↓n_none, ↓n_bindHere, ↓n_bindOff, ↓n_inner, ↓r_here, ↓r_off, ↓r_mu, ↓is_F, ↓is_I, ↓is_K, ↓e_int, ↓e_flt, ↓e_str, ↓e_byt, ↓e_bool, ↓e_name, ↓e_bin, ↓e_neg, ↓e_list, ↓e_tup, ↓e_dict0, ↓e_dict1, ↓e_cmp, ↓e_and, ↓e_slice, ↓e_sub1, ↓e_sub2, ↓e_sub3, ↓e_sub4, ↓e_att, ↓e_meth, ↓e_call, ↓e_isi, ↓e_comp, ↓e_dcomp, ↓e_ifN, ↓e_ifc, ↓ss_nil, ↓ss_cons, ↓s_nilM, ↓s_dictM, ↓s_dictN, ↓s_bin, ↓s_call, ↓s_comp, ↓s_const, ↓s_list, ↓s_sub, ↓s_neg, ↓s_tup2, ↓s_tup3, ↓s_put, ↓s_aug, ↓s_augput, ↓s_items, ↓s_values, ↓s_for, ↓s_forN, ↓s_forA, ↓s_while, ↓s_clamp, ↓s_ret, ↓s_in, ↓s_ifNotEqRaise, ↓s_ifNotEqRet, ↓s_ifNotEqAsg, ↓s_ifEqIf, ↓s_ifLtRet, ↓s_ifGtRet, ↓s_ifOr, ↓s_ifIsi, ↓s_retT, ↓s_retC, ↓s_retK, ↓s_retU, ↓s_retB, ↓s_app, ↓s_brk, ↓b_iadd, ↓b_isub, ↓b_imul, ↓b_ifd, ↓b_imod, ↓b_ipow, ↓b_idiv, ↓b_fadd, ↓b_fsub, ↓b_fmul, ↓b_ifmul, ↓b_ladd, ↓b_sadd, ↓b_badd, ↓b_smul, ↓c_ieq, ↓c_ine, ↓c_ilt, ↓c_igt, ↓c_ige, ↓c_flt, ↓c_fgt, ↓c_seq, ↓c_sne, ↓c_tgt, ↓l_nil, ↓l_cons, ↓t_cmp, ↓t_name, ↓t_sub, ↓t_call, ↓t_and, ↓t_or, ↓t1_cmp, ↓t1_sub, ↓tr_b, ↓tr_i, ↓u_pair, ↓u_three, ↓m_none, ↓m_some, ↓o_none, ↓o_some, ↓i_list, ↓i_tup, ↓i_range, ↓x_str, ↓x_byt, ↓k_range1, ↓k_range2, ↓k_lenL, ↓k_lenS, ↓k_sum, ↓k_round, ↓k_min, ↓k_max, ↓k_abs, ↓k_int, ↓k_divmod, ↓k_fn, ↓w_count, ↓w_rjust, ↓w_cmp, ↓p_count, ↓p_rjust, ↓p_cmp, ↓z_bhh, ↓z_s0h, ↓z_slh, ↓z_lst, ↓f_nil, ↓f_cons, ↓ts_nil, ↓ts_one, ↓true_and, ↓and_true, ↓if_true, ↓if_false, ne_eq, strEq, String.reduceEq, not_false_eq_true, not_true_eq_false, ↓reduceCtorEq, ↓List.append_nil, ↓reduceIte, List.mem_cons, List.not_mem_nil, or_false, false_or, or_self, mut_eq, decide_true, decide_false, Bool.or_true, Bool.true_or, Bool.or_false, Bool.or_self, List.lookup_cons, strBeq])
          rw [n_at hf, b_iadd, k_range2, i_range]
          exact ⟨⟨by omega, by omega, by omega, by omega⟩, hq⟩
        · (simp only [↓n_here, ↓n_off, ↓n_none, ↓n_bindHere, ↓n_bindOff, ↓n_inner, ↓r_here, ↓r_off, ↓r_mu, ↓is_F, ↓is_I, ↓is_K, ↓e_int, ↓e_flt, ↓e_str, ↓e_byt, ↓e_bool, ↓e_name, ↓e_bin, ↓e_neg, ↓e_list, ↓e_tup, ↓e_dict0, ↓e_dict1, ↓e_cmp, ↓e_and, ↓e_slice, ↓e_sub1, ↓e_sub2, ↓e_sub3, ↓e_sub4, ↓e_att, ↓e_meth, ↓e_call, ↓e_isi, ↓e_comp, ↓e_dcomp, ↓e_ifN, ↓e_ifc, ↓ss_nil, ↓ss_cons, ↓s_nilM, ↓s_dictM, ↓s_dictN, ↓s_bin, ↓s_call, ↓s_comp, ↓s_const, ↓s_list, ↓s_sub, ↓s_neg, ↓s_tup2, ↓s_tup3, ↓s_put, ↓s_aug, ↓s_augput, ↓s_items, ↓s_values, ↓s_for, ↓s_forN, ↓s_forA, ↓s_while, ↓s_clamp, ↓s_ret, ↓s_in, ↓s_ifNotEqRaise, ↓s_ifNotEqRet, ↓s_ifNotEqAsg, ↓s_ifEqIf, ↓s_ifLtRet, ↓s_ifGtRet, ↓s_ifOr, ↓s_ifIsi, ↓s_retT, ↓s_retC, ↓s_retK, ↓s_retU, ↓s_retB, ↓s_app, ↓s_brk, ↓b_iadd, ↓b_isub, ↓b_imul, ↓b_ifd, ↓b_imod, ↓b_ipow, ↓b_idiv, ↓b_fadd, ↓b_fsub, ↓b_fmul, ↓b_ifmul, ↓b_ladd, ↓b_sadd, ↓b_badd, ↓b_smul, ↓c_ieq, ↓c_ine, ↓c_ilt, ↓c_igt, ↓c_ige, ↓c_flt, ↓c_fgt, ↓c_seq, ↓c_sne, ↓c_tgt, ↓l_nil, ↓l_cons, ↓t_cmp, ↓t_name, ↓t_sub, ↓t_call, ↓t_and, ↓t_or, ↓t1_cmp, ↓t1_sub, ↓tr_b, ↓tr_i, ↓u_pair, ↓u_three, ↓m_none, ↓m_some, ↓o_none, ↓o_some, ↓i_list, ↓i_tup, ↓i_range, ↓x_str, ↓x_byt, ↓k_range1, ↓k_range2, ↓k_lenL, ↓k_lenS, ↓k_sum, ↓k_round, ↓k_min, ↓k_max, ↓k_abs, ↓k_int, ↓k_divmod, ↓k_fn, ↓w_count, ↓w_rjust, ↓w_cmp, ↓p_count, ↓p_rjust, ↓p_cmp, ↓z_bhh, ↓z_s0h, ↓z_slh, ↓z_lst, ↓f_nil, ↓f_cons, ↓ts_nil, ↓ts_one, ↓true_and, ↓and_true, ↓if_true, ↓if_false, ne_eq, strEq, String.reduceEq, not_false_eq_true, not_true_eq_false, ↓reduceCtorEq, ↓List.append_nil, ↓reduceIte, List.mem_cons, List.not_mem_nil, or_false, false_or, or_self, mut_eq, decide_true, decide_false, Bool.or_true, Bool.true_or, Bool.or_false, Bool.or_self, List.lookup_cons, strBeq])
          obtain ⟨hne, hln, hel⟩ := hgood row hrow
          have hx5 : (x : Int) < 5 - (0 + (f : Int) + 1) := by
            have := List.mem_range.mp hx; omega
          rw [c_notin]
          unfold mayF at hq
          refine ⟨fun hb => ?_, fun hb => ?_⟩
          · have hla := lastI_mem hne hel
            rw [n_at hbb, x_last hne (by omega), x_map dB hla.1 (by omega) (by omega)]
            have hrl : bb[(lastI row).toNat]!.length = 5 := hr _ (get_mem (by omega))
            rw [x_map D.bool (by omega) (by omega) (by omega), tr_b]
            rw [hb, Bool.true_and] at hq
            exact hq
          · rw [hb, Bool.false_and] at hq
            exact hq
        · (simp only [↓n_here, ↓n_off, ↓n_none, ↓n_bindHere, ↓n_bindOff, ↓n_inner, ↓r_here, ↓r_off, ↓r_mu, ↓is_F, ↓is_I, ↓is_K, ↓e_int, ↓e_flt, ↓e_str, ↓e_byt, ↓e_bool, ↓e_name, ↓e_bin, ↓e_neg, ↓e_list, ↓e_tup, ↓e_dict0, ↓e_dict1, ↓e_cmp, ↓e_and, ↓e_slice, ↓e_sub1, ↓e_sub2, ↓e_sub3, ↓e_sub4, ↓e_att, ↓e_meth, ↓e_call, ↓e_isi, ↓e_comp, ↓e_dcomp, ↓e_ifN, ↓e_ifc, ↓ss_nil, ↓ss_cons, ↓s_nilM, ↓s_dictM, ↓s_dictN, ↓s_bin, ↓s_call, ↓s_comp, ↓s_const, ↓s_list, ↓s_sub, ↓s_neg, ↓s_tup2, ↓s_tup3, ↓s_put, ↓s_aug, ↓s_augput, ↓s_items, ↓s_values, ↓s_for, ↓s_forN, ↓s_forA, ↓s_while, ↓s_clamp, ↓s_ret, ↓s_in, ↓s_ifNotEqRaise, ↓s_ifNotEqRet, ↓s_ifNotEqAsg, ↓s_ifEqIf, ↓s_ifLtRet, ↓s_ifGtRet, ↓s_ifOr, ↓s_ifIsi, ↓s_retT, ↓s_retC, ↓s_retK, ↓s_retU, ↓s_retB, ↓s_app, ↓s_brk, ↓b_iadd, ↓b_isub, ↓b_imul, ↓b_ifd, ↓b_imod, ↓b_ipow, ↓b_idiv, ↓b_fadd, ↓b_fsub, ↓b_fmul, ↓b_ifmul, ↓b_ladd, ↓b_sadd, ↓b_badd, ↓b_smul, ↓c_ieq, ↓c_ine, ↓c_ilt, ↓c_igt, ↓c_ige, ↓c_flt, ↓c_fgt, ↓c_seq, ↓c_sne, ↓c_tgt, ↓l_nil, ↓l_cons, ↓t_cmp, ↓t_name, ↓t_sub, ↓t_call, ↓t_and, ↓t_or, ↓t1_cmp, ↓t1_sub, ↓tr_b, ↓tr_i, ↓u_pair, ↓u_three, ↓m_none, ↓m_some, ↓o_none, ↓o_some, ↓i_list, ↓i_tup, ↓i_range, ↓x_str, ↓x_byt, ↓k_range1, ↓k_range2, ↓k_lenL, ↓k_lenS, ↓k_sum, ↓k_round, ↓k_min, ↓k_max, ↓k_abs, ↓k_int, ↓k_divmod, ↓k_fn, ↓w_count, ↓w_rjust, ↓w_cmp, ↓p_count, ↓p_rjust, ↓p_cmp, ↓z_bhh, ↓z_s0h, ↓z_slh, ↓z_lst, ↓f_nil, ↓f_cons, ↓ts_nil, ↓ts_one, ↓true_and, ↓and_true, ↓if_true, ↓if_false, ne_eq, strEq, String.reduceEq, not_false_eq_true, not_true_eq_false, ↓reduceCtorEq, ↓List.append_nil, ↓reduceIte, List.mem_cons, List.not_mem_nil, or_false, false_or, or_self, mut_eq, decide_true, decide_false, Bool.or_true, Bool.true_or, Bool.or_false, Bool.or_self, List.lookup_cons, strBeq])
          obtain ⟨hne, hln, hel⟩ := hgood row hrow
          refine ⟨by simp, by simp; omega, ?_⟩
          have e : D.list (row.map D.int ++ [D.int (0 + (f : Int) + 1 + (x : Int))]) = dI (row ++ [0 + (f : Int) + 1 + (x : Int)]) := by simp [dI]
          rw [e]; exact hq
        · rw [m_none]
          have em : (rows.flatMap fun row => ((List.range (5 - (0 + (f : Int) + 1)).toNat).filter (mayF bb f row)).map fun x : Nat => dI (row ++ [0 + (f : Int) + 1 + (x : Int)])) = (stepF bb f rows).map dI := by
            unfold stepF
            rw [List.map_flatMap]
            simp only [List.map_map]
            rfl
          rw [em]
          refine ⟨trivial, hK' _ _ ⟨stepF bb f rows, st, rfl, rfl, ?_, ?_, ?_, ?_, ?_, ?_, setR_here, hre⟩⟩
          · intro row' h'
            unfold stepF at h'
            obtain ⟨row, h1, h2⟩ := List.mem_flatMap.mp h'
            obtain ⟨x, h3, rfl⟩ := List.mem_map.mp h2
            obtain ⟨hne, hln, hel⟩ := hgood row h1
            have hx := List.mem_range.mp (List.mem_filter.mp h3).1
            rw [List.length_cons] at hln
            refine ⟨by simp, by rw [List.length_append, List.length_singleton]; omega, fun y hy => ?_⟩
            rcases List.mem_append.mp hy with h | h
            · exact hel y h
            · rw [List.mem_singleton.mp h]; omega
          · rw [List.length_cons, Nat.pow_succ] at hcnt
            have hsl : (stepF bb f rows).length ≤ rows.length * 5 := by
              unfold stepF
              rw [List.length_flatMap]
              refine sum_le _ _ fun row _ => ?_
              rw [List.length_map]
              exact Nat.le_trans (List.length_filter_le _ _) (by simp; omega)
            calc (stepF bb f rows).length * 5 ^ st.length ≤ rows.length * 5 * 5 ^ st.length := Nat.mul_le_mul_right _ hsl
              _ = rows.length * (5 ^ st.length * 5) := by rw [Nat.mul_assoc, Nat.mul_comm 5]
              _ ≤ 3125 := hcnt
          · rw [setR_off (strNe (by decide)), setR_off (strNe (by decide))]; exact hn
          · rw [setR_off (strNe (by decide)), setR_off (strNe (by decide))]; exact hbb
          · rw [setR_off (strNe (by decide)), setR_off (strNe (by decide))]; exact hsz
          · rw [setR_off (strNe (by decide)), setR_off (strNe (by decide))]; exact hf
      · intro row h
        rw [List.mem_singleton.mp h]
        refine ⟨by simp, by simp; omega, fun x hx => ?_⟩
        rw [List.mem_singleton.mp hx]; omega
      · rcases hs with rfl | rfl <;> simp [List.length_cons]
      · rw [setR_off (strNe (by decide)), setR_off (strNe (by decide))]; exact hn
      · rw [setR_off (strNe (by decide)), setR_off (strNe (by decide))]; exact hbb
      · rw [setR_off (strNe (by decide)), setR_off (strNe (by decide))]; exact hsz
      · rw [setR_off (strNe (by decide))]; exact setR_here
    · have := List.mem_range.mp hi; omega
    · rw [setR_off (strNe (by decide))]; exact bindR_here
    · rw [setR_off (strNe (by decide)), bindR_off (strNe (by decide))]; exact bindR_here

noncomputable def selD (j : Nat) : D := .list [.tup [.int (0 + (j : Int)), .int (-1)], .tup [.int 3, .int (1 - 2 * ((0 + (j : Int)).fmod 2))]]
noncomputable def rowOf (films : List (List Int)) (p : Nat) : List Int := films[p]! ++ [0 + (p : Int)]
noncomputable def rowsOf (films : List (List Int)) : List (List Int) := (List.range 5).map (rowOf films)
noncomputable def beatF (one other : List Int) : Bool := decide ((1 : Int) < ((((List.range 3).map fun j : Nat => duelF (0 + (j : Int)) (-1) 3 (1 - 2 * ((0 + (j : Int)).fmod 2)) one other).count (-1) : Nat) : Int))
noncomputable def duelsF (films : List (List Int)) : List (List Bool) := (rowsOf films).map fun one => (rowsOf films).map fun other => beatF one other
noncomputable def duelsW (ds : List D) (post : D → Prop) : Prop := ∃ films : List (List Int), ds = [dII films] ∧ films.length = 5 ∧ (∀ r, r ∈ films → r.length = 3) ∧ post (dBB (duelsF films))

set_option maxHeartbeats 4000000 in
theorem d_duels (P : Params) (Φ : Tab) (h1 : ∀ d post, post (.duel d) → Φ.fn "TupleComp" [d] post) (h2 : ∀ d x y post, duelW d x y post → Φ.cmp d x y post) : Def1 P 124 ["TupleComp", "compare"] Φ duelsW := by
  refine ⟨_, _, [Str.ofString "films"], fun h X => ⟨_, _, X 124 _ rfl, rfl, rfl, rfl, rfl, rfl, rfl, codeRec_of X (by kernel_rfl), len1 fun a => rfl⟩, by decide +kernel, by decide +kernel, ?_⟩
  intro ds post hp
  obtain ⟨films, rfl, hl, hr, hpost⟩ := hp
  · refine ⟨rfl, ?_⟩
    simp only [List.zip_cons_cons, List.zip_nil_right]
    (simp only [↓n_here, ↓n_off, ↓n_none, ↓n_bindHere, ↓n_bindOff, ↓n_inner, ↓r_here, ↓r_off, ↓r_mu, ↓is_F, ↓is_I, ↓is_K, ↓e_int, ↓e_flt, ↓e_str, ↓e_byt, ↓e_bool, ↓e_name, ↓e_bin, ↓e_neg, ↓e_list, ↓e_tup, ↓e_dict0, ↓e_dict1, ↓e_cmp, ↓e_and, ↓e_slice, ↓e_sub1, ↓e_sub2, ↓e_sub3, ↓e_sub4, ↓e_att, ↓e_meth, ↓e_call, ↓e_isi, ↓e_comp, ↓e_dcomp, ↓e_ifN, ↓e_ifc, ↓ss_nil, ↓ss_cons, ↓s_nilM, ↓s_dictM, ↓s_dictN, ↓s_bin, ↓s_call, ↓s_comp, ↓s_const, ↓s_list, ↓s_sub, ↓s_neg, ↓s_tup2, ↓s_tup3, ↓s_put, ↓s_aug, ↓s_augput, ↓s_items, ↓s_values, ↓s_for, ↓s_forN, ↓s_forA, ↓s_while, ↓s_clamp, ↓s_ret, ↓s_in, ↓s_ifNotEqRaise, ↓s_ifNotEqRet, ↓s_ifNotEqAsg, ↓s_ifEqIf, ↓s_ifLtRet, ↓s_ifGtRet, ↓s_ifOr, ↓s_ifIsi, ↓s_retT, ↓s_retC, ↓s_retK, ↓s_retU, ↓s_retB, ↓s_app, ↓s_brk, ↓b_iadd, ↓b_isub, ↓b_imul, ↓b_ifd, ↓b_imod, ↓b_ipow, ↓b_idiv, ↓b_fadd, ↓b_fsub, ↓b_fmul, ↓b_ifmul, ↓b_ladd, ↓b_sadd, ↓b_badd, ↓b_smul, ↓c_ieq, ↓c_ine, ↓c_ilt, ↓c_igt, ↓c_ige, ↓c_flt, ↓c_fgt, ↓c_seq, ↓c_sne, ↓c_tgt, ↓l_nil, ↓l_cons, ↓t_cmp, ↓t_name, ↓t_sub, ↓t_call, ↓t_and, ↓t_or, ↓t1_cmp, ↓t1_sub, ↓tr_b, ↓tr_i, ↓u_pair, ↓u_three, ↓m_none, ↓m_some, ↓o_none, ↓o_some, ↓i_list, ↓i_tup, ↓i_range, ↓x_str, ↓x_byt, ↓k_range1, ↓k_range2, ↓k_lenL, ↓k_lenS, ↓k_sum, ↓k_round, ↓k_min, ↓k_max, ↓k_abs, ↓k_int, ↓k_divmod, ↓k_fn, ↓w_count, ↓w_rjust, ↓w_cmp, ↓p_count, ↓p_rjust, ↓p_cmp, ↓z_bhh, ↓z_s0h, ↓z_slh, ↓z_lst, ↓f_nil, ↓f_cons, ↓ts_nil, ↓ts_one, ↓true_and, ↓and_true, ↓if_true, ↓if_false, ne_eq, strEq, String.reduceEq, not_false_eq_true, not_true_eq_false, ↓reduceCtorEq, ↓List.append_nil, ↓reduceIte, List.mem_cons, List.not_mem_nil, or_false, false_or, or_self, mut_eq, decide_true, decide_false, Bool.or_true, Bool.true_or, Bool.or_false, Bool.or_self, List.lookup_cons, strBeq])
    refine ⟨by decide, ?_⟩
    refine comp_M (fun i : Nat => D.int (0 + (i : Int))) (fun j => D.duel (selD j)) (fun j hj q hq => ?_) (by simp) ?_
    · (simp only [↓n_here, ↓n_off, ↓n_none, ↓n_bindHere, ↓n_bindOff, ↓n_inner, ↓r_here, ↓r_off, ↓r_mu, ↓is_F, ↓is_I, ↓is_K, ↓e_int, ↓e_flt, ↓e_str, ↓e_byt, ↓e_bool, ↓e_name, ↓e_bin, ↓e_neg, ↓e_list, ↓e_tup, ↓e_dict0, ↓e_dict1, ↓e_cmp, ↓e_and, ↓e_slice, ↓e_sub1, ↓e_sub2, ↓e_sub3, ↓e_sub4, ↓e_att, ↓e_meth, ↓e_call, ↓e_isi, ↓e_comp, ↓e_dcomp, ↓e_ifN, ↓e_ifc, ↓ss_nil, ↓ss_cons, ↓s_nilM, ↓s_dictM, ↓s_dictN, ↓s_bin, ↓s_call, ↓s_comp, ↓s_const, ↓s_list, ↓s_sub, ↓s_neg, ↓s_tup2, ↓s_tup3, ↓s_put, ↓s_aug, ↓s_augput, ↓s_items, ↓s_values, ↓s_for, ↓s_forN, ↓s_forA, ↓s_while, ↓s_clamp, ↓s_ret, ↓s_in, ↓s_ifNotEqRaise, ↓s_ifNotEqRet, ↓s_ifNotEqAsg, ↓s_ifEqIf, ↓s_ifLtRet, ↓s_ifGtRet, ↓s_ifOr, ↓s_ifIsi, ↓s_retT, ↓s_retC, ↓s_retK, ↓s_retU, ↓s_retB, ↓s_app, ↓s_brk, ↓b_iadd, ↓b_isub, ↓b_imul, ↓b_ifd, ↓b_imod, ↓b_ipow, ↓b_idiv, ↓b_fadd, ↓b_fsub, ↓b_fmul, ↓b_ifmul, ↓b_ladd, ↓b_sadd, ↓b_badd, ↓b_smul, ↓c_ieq, ↓c_ine, ↓c_ilt, ↓c_igt, ↓c_ige, ↓c_flt, ↓c_fgt, ↓c_seq, ↓c_sne, ↓c_tgt, ↓l_nil, ↓l_cons, ↓t_cmp, ↓t_name, ↓t_sub, ↓t_call, ↓t_and, ↓t_or, ↓t1_cmp, ↓t1_sub, ↓tr_b, ↓tr_i, ↓u_pair, ↓u_three, ↓m_none, ↓m_some, ↓o_none, ↓o_some, ↓i_list, ↓i_tup, ↓i_range, ↓x_str, ↓x_byt, ↓k_range1, ↓k_range2, ↓k_lenL, ↓k_lenS, ↓k_sum, ↓k_round, ↓k_min, ↓k_max, ↓k_abs, ↓k_int, ↓k_divmod, ↓k_fn, ↓w_count, ↓w_rjust, ↓w_cmp, ↓p_count, ↓p_rjust, ↓p_cmp, ↓z_bhh, ↓z_s0h, ↓z_slh, ↓z_lst, ↓f_nil, ↓f_cons, ↓ts_nil, ↓ts_one, ↓true_and, ↓and_true, ↓if_true, ↓if_false, ne_eq, strEq, String.reduceEq, not_false_eq_true, not_true_eq_false, ↓reduceCtorEq, ↓List.append_nil, ↓reduceIte, List.mem_cons, List.not_mem_nil, or_false, false_or, or_self, mut_eq, decide_true, decide_false, Bool.or_true, Bool.true_or, Bool.or_false, Bool.or_self, List.lookup_cons, strBeq])
      exact ⟨by simp, by decide, .of_left (by decide), by simp, by simp, h1 _ _ hq⟩
    · try (simp only [↓n_here, ↓n_off, ↓n_none, ↓n_bindHere, ↓n_bindOff, ↓n_inner, ↓r_here, ↓r_off, ↓r_mu, ↓is_F, ↓is_I, ↓is_K, ↓e_int, ↓e_flt, ↓e_str, ↓e_byt, ↓e_bool, ↓e_name, ↓e_bin, ↓e_neg, ↓e_list, ↓e_tup, ↓e_dict0, ↓e_dict1, ↓e_cmp, ↓e_and, ↓e_slice, ↓e_sub1, ↓e_sub2, ↓e_sub3, ↓e_sub4, ↓e_att, ↓e_meth, ↓e_call, ↓e_isi, ↓e_comp, ↓e_dcomp, ↓e_ifN, ↓e_ifc, ↓ss_nil, ↓ss_cons, ↓s_nilM, ↓s_dictM, ↓s_dictN, ↓s_bin, ↓s_call, ↓s_comp, ↓s_const, ↓s_list, ↓s_sub, ↓s_neg, ↓s_tup2, ↓s_tup3, ↓s_put, ↓s_aug, ↓s_augput, ↓s_items, ↓s_values, ↓s_for, ↓s_forN, ↓s_forA, ↓s_while, ↓s_clamp, ↓s_ret, ↓s_in, ↓s_ifNotEqRaise, ↓s_ifNotEqRet, ↓s_ifNotEqAsg, ↓s_ifEqIf, ↓s_ifLtRet, ↓s_ifGtRet, ↓s_ifOr, ↓s_ifIsi, ↓s_retT, ↓s_retC, ↓s_retK, ↓s_retU, ↓s_retB, ↓s_app, ↓s_brk, ↓b_iadd, ↓b_isub, ↓b_imul, ↓b_ifd, ↓b_imod, ↓b_ipow, ↓b_idiv, ↓b_fadd, ↓b_fsub, ↓b_fmul, ↓b_ifmul, ↓b_ladd, ↓b_sadd, ↓b_badd, ↓b_smul, ↓c_ieq, ↓c_ine, ↓c_ilt, ↓c_igt, ↓c_ige, ↓c_flt, ↓c_fgt, ↓c_seq, ↓c_sne, ↓c_tgt, ↓l_nil, ↓l_cons, ↓t_cmp, ↓t_name, ↓t_sub, ↓t_call, ↓t_and, ↓t_or, ↓t1_cmp, ↓t1_sub, ↓tr_b, ↓tr_i, ↓u_pair, ↓u_three, ↓m_none, ↓m_some, ↓o_none, ↓o_some, ↓i_list, ↓i_tup, ↓i_range, ↓x_str, ↓x_byt, ↓k_range1, ↓k_range2, ↓k_lenL, ↓k_lenS, ↓k_sum, ↓k_round, ↓k_min, ↓k_max, ↓k_abs, ↓k_int, ↓k_divmod, ↓k_fn, ↓w_count, ↓w_rjust, ↓w_cmp, ↓p_count, ↓p_rjust, ↓p_cmp, ↓z_bhh, ↓z_s0h, ↓z_slh, ↓z_lst, ↓f_nil, ↓f_cons, ↓ts_nil, ↓ts_one, ↓true_and, ↓and_true, ↓if_true, ↓if_false, ne_eq, strEq, String.reduceEq, not_false_eq_true, not_true_eq_false, ↓reduceCtorEq, ↓List.append_nil, ↓reduceIte, List.mem_cons, List.not_mem_nil, or_false, false_or, or_self, mut_eq, decide_true, decide_false, Bool.or_true, Bool.true_or, Bool.or_false, Bool.or_self, List.lookup_cons, strBeq])
      refine ⟨by decide, ?_⟩
      refine comp_M (fun i : Nat => D.int (0 + (i : Int))) (fun p => dI (rowOf films p)) (fun p hp q hq => ?_) (by simp) ?_
      · have hp5 : p < 5 := by simpa using hp
        have hrow : films[p]!.length = 3 := hr _ (get_mem (by omega))
        (simp only [↓n_here, ↓n_off, ↓n_none, ↓n_bindHere, ↓n_bindOff, ↓n_inner, ↓r_here, ↓r_off, ↓r_mu, ↓is_F, ↓is_I, ↓is_K, ↓e_int, ↓e_flt, ↓e_str, ↓e_byt, ↓e_bool, ↓e_name, ↓e_bin, ↓e_neg, ↓e_list, ↓e_tup, ↓e_dict0, ↓e_dict1, ↓e_cmp, ↓e_and, ↓e_slice, ↓e_sub1, ↓e_sub2, ↓e_sub3, ↓e_sub4, ↓e_att, ↓e_meth, ↓e_call, ↓e_isi, ↓e_comp, ↓e_dcomp, ↓e_ifN, ↓e_ifc, ↓ss_nil, ↓ss_cons, ↓s_nilM, ↓s_dictM, ↓s_dictN, ↓s_bin, ↓s_call, ↓s_comp, ↓s_const, ↓s_list, ↓s_sub, ↓s_neg, ↓s_tup2, ↓s_tup3, ↓s_put, ↓s_aug, ↓s_augput, ↓s_items, ↓s_values, ↓s_for, ↓s_forN, ↓s_forA, ↓s_while, ↓s_clamp, ↓s_ret, ↓s_in, ↓s_ifNotEqRaise, ↓s_ifNotEqRet, ↓s_ifNotEqAsg, ↓s_ifEqIf, ↓s_ifLtRet, ↓s_ifGtRet, ↓s_ifOr, ↓s_ifIsi, ↓s_retT, ↓s_retC, ↓s_retK, ↓s_retU, ↓s_retB, ↓s_app, ↓s_brk, ↓b_iadd, ↓b_isub, ↓b_imul, ↓b_ifd, ↓b_imod, ↓b_ipow, ↓b_idiv, ↓b_fadd, ↓b_fsub, ↓b_fmul, ↓b_ifmul, ↓b_ladd, ↓b_sadd, ↓b_badd, ↓b_smul, ↓c_ieq, ↓c_ine, ↓c_ilt, ↓c_igt, ↓c_ige, ↓c_flt, ↓c_fgt, ↓c_seq, ↓c_sne, ↓c_tgt, ↓l_nil, ↓l_cons, ↓t_cmp, ↓t_name, ↓t_sub, ↓t_call, ↓t_and, ↓t_or, ↓t1_cmp, ↓t1_sub, ↓tr_b, ↓tr_i, ↓u_pair, ↓u_three, ↓m_none, ↓m_some, ↓o_none, ↓o_some, ↓i_list, ↓i_tup, ↓i_range, ↓x_str, ↓x_byt, ↓k_range1, ↓k_range2, ↓k_lenL, ↓k_lenS, ↓k_sum, ↓k_round, ↓k_min, ↓k_max, ↓k_abs, ↓k_int, ↓k_divmod, ↓k_fn, ↓w_count, ↓w_rjust, ↓w_cmp, ↓p_count, ↓p_rjust, ↓p_cmp, ↓z_bhh, ↓z_s0h, ↓z_slh, ↓z_lst, ↓f_nil, ↓f_cons, ↓ts_nil, ↓ts_one, ↓true_and, ↓and_true, ↓if_true, ↓if_false, ne_eq, strEq, String.reduceEq, not_false_eq_true, not_true_eq_false, ↓reduceCtorEq, ↓List.append_nil, ↓reduceIte, List.mem_cons, List.not_mem_nil, or_false, false_or, or_self, mut_eq, decide_true, decide_false, Bool.or_true, Bool.true_or, Bool.or_false, Bool.or_self, List.lookup_cons, strBeq])
        rw [x_map dI (by omega) (by omega) (by omega), show (0 + (p : Int)).toNat = p by omega, b_ladd]
        refine ⟨by simp, by rw [List.length_map, hrow]; simp, ?_⟩
        have e : D.list ((films[p]!).map D.int ++ [D.int (0 + (p : Int))]) = dI (rowOf films p) := by simp [dI, rowOf]
        rw [e]; exact hq
      · have er : (List.range (5 - 0 : Int).toNat).map (fun p => dI (rowOf films p)) = (rowsOf films).map dI := by
          unfold rowsOf
          rw [List.map_map]
          rfl
        have ed : (List.range (3 - 0 : Int).toNat).map (fun j => D.duel (selD j)) = (List.range 3).map fun j => D.duel (selD j) := rfl
        rw [er, ed]
        have hRl : (rowsOf films).length = 5 := by unfold rowsOf; simp
        have hR4 : ∀ r, r ∈ rowsOf films → r.length = 4 := fun r h => by
          unfold rowsOf at h
          obtain ⟨p, hp, rfl⟩ := List.mem_map.mp h
          have hp5 := List.mem_range.mp hp
          unfold rowOf
          rw [List.length_append, hr _ (get_mem (by omega))]; rfl
        refine ⟨by simp [hRl], ?_⟩
        refine comp_M dI (fun one => dB ((rowsOf films).map fun other => beatF one other)) (fun one ho q hq => ?_) (by omega) ?_
        · (simp only [↓n_here, ↓n_off, ↓n_none, ↓n_bindHere, ↓n_bindOff, ↓n_inner, ↓r_here, ↓r_off, ↓r_mu, ↓is_F, ↓is_I, ↓is_K, ↓e_int, ↓e_flt, ↓e_str, ↓e_byt, ↓e_bool, ↓e_name, ↓e_bin, ↓e_neg, ↓e_list, ↓e_tup, ↓e_dict0, ↓e_dict1, ↓e_cmp, ↓e_and, ↓e_slice, ↓e_sub1, ↓e_sub2, ↓e_sub3, ↓e_sub4, ↓e_att, ↓e_meth, ↓e_call, ↓e_isi, ↓e_comp, ↓e_dcomp, ↓e_ifN, ↓e_ifc, ↓ss_nil, ↓ss_cons, ↓s_nilM, ↓s_dictM, ↓s_dictN, ↓s_bin, ↓s_call, ↓s_comp, ↓s_const, ↓s_list, ↓s_sub, ↓s_neg, ↓s_tup2, ↓s_tup3, ↓s_put, ↓s_aug, ↓s_augput, ↓s_items, ↓s_values, ↓s_for, ↓s_forN, ↓s_forA, ↓s_while, ↓s_clamp, ↓s_ret, ↓s_in, ↓s_ifNotEqRaise, ↓s_ifNotEqRet, ↓s_ifNotEqAsg, ↓s_ifEqIf, ↓s_ifLtRet, ↓s_ifGtRet, ↓s_ifOr, ↓s_ifIsi, ↓s_retT, ↓s_retC, ↓s_retK, ↓s_retU, ↓s_retB, ↓s_app, ↓s_brk, ↓b_iadd, ↓b_isub, ↓b_imul, ↓b_ifd, ↓b_imod, ↓b_ipow, ↓b_idiv, ↓b_fadd, ↓b_fsub, ↓b_fmul, ↓b_ifmul, ↓b_ladd, ↓b_sadd, ↓b_badd, ↓b_smul, ↓c_ieq, ↓c_ine, ↓c_ilt, ↓c_igt, ↓c_ige, ↓c_flt, ↓c_fgt, ↓c_seq, ↓c_sne, ↓c_tgt, ↓l_nil, ↓l_cons, ↓t_cmp, ↓t_name, ↓t_sub, ↓t_call, ↓t_and, ↓t_or, ↓t1_cmp, ↓t1_sub, ↓tr_b, ↓tr_i, ↓u_pair, ↓u_three, ↓m_none, ↓m_some, ↓o_none, ↓o_some, ↓i_list, ↓i_tup, ↓i_range, ↓x_str, ↓x_byt, ↓k_range1, ↓k_range2, ↓k_lenL, ↓k_lenS, ↓k_sum, ↓k_round, ↓k_min, ↓k_max, ↓k_abs, ↓k_int, ↓k_divmod, ↓k_fn, ↓w_count, ↓w_rjust, ↓w_cmp, ↓p_count, ↓p_rjust, ↓p_cmp, ↓z_bhh, ↓z_s0h, ↓z_slh, ↓z_lst, ↓f_nil, ↓f_cons, ↓ts_nil, ↓ts_one, ↓true_and, ↓and_true, ↓if_true, ↓if_false, ne_eq, strEq, String.reduceEq, not_false_eq_true, not_true_eq_false, ↓reduceCtorEq, ↓List.append_nil, ↓reduceIte, List.mem_cons, List.not_mem_nil, or_false, false_or, or_self, mut_eq, decide_true, decide_false, Bool.or_true, Bool.true_or, Bool.or_false, Bool.or_self, List.lookup_cons, strBeq])
          refine ⟨by simp [hRl], ?_⟩
          refine comp_M dI (fun other => D.bool (beatF one other)) (fun other hot q hq => ?_) (by omega) ?_
          · (simp only [↓n_here, ↓n_off, ↓n_none, ↓n_bindHere, ↓n_bindOff, ↓n_inner, ↓r_here, ↓r_off, ↓r_mu, ↓is_F, ↓is_I, ↓is_K, ↓e_int, ↓e_flt, ↓e_str, ↓e_byt, ↓e_bool, ↓e_name, ↓e_bin, ↓e_neg, ↓e_list, ↓e_tup, ↓e_dict0, ↓e_dict1, ↓e_cmp, ↓e_and, ↓e_slice, ↓e_sub1, ↓e_sub2, ↓e_sub3, ↓e_sub4, ↓e_att, ↓e_meth, ↓e_call, ↓e_isi, ↓e_comp, ↓e_dcomp, ↓e_ifN, ↓e_ifc, ↓ss_nil, ↓ss_cons, ↓s_nilM, ↓s_dictM, ↓s_dictN, ↓s_bin, ↓s_call, ↓s_comp, ↓s_const, ↓s_list, ↓s_sub, ↓s_neg, ↓s_tup2, ↓s_tup3, ↓s_put, ↓s_aug, ↓s_augput, ↓s_items, ↓s_values, ↓s_for, ↓s_forN, ↓s_forA, ↓s_while, ↓s_clamp, ↓s_ret, ↓s_in, ↓s_ifNotEqRaise, ↓s_ifNotEqRet, ↓s_ifNotEqAsg, ↓s_ifEqIf, ↓s_ifLtRet, ↓s_ifGtRet, ↓s_ifOr, ↓s_ifIsi, ↓s_retT, ↓s_retC, ↓s_retK, ↓s_retU, ↓s_retB, ↓s_app, ↓s_brk, ↓b_iadd, ↓b_isub, ↓b_imul, ↓b_ifd, ↓b_imod, ↓b_ipow, ↓b_idiv, ↓b_fadd, ↓b_fsub, ↓b_fmul, ↓b_ifmul, ↓b_ladd, ↓b_sadd, ↓b_badd, ↓b_smul, ↓c_ieq, ↓c_ine, ↓c_ilt, ↓c_igt, ↓c_ige, ↓c_flt, ↓c_fgt, ↓c_seq, ↓c_sne, ↓c_tgt, ↓l_nil, ↓l_cons, ↓t_cmp, ↓t_name, ↓t_sub, ↓t_call, ↓t_and, ↓t_or, ↓t1_cmp, ↓t1_sub, ↓tr_b, ↓tr_i, ↓u_pair, ↓u_three, ↓m_none, ↓m_some, ↓o_none, ↓o_some, ↓i_list, ↓i_tup, ↓i_range, ↓x_str, ↓x_byt, ↓k_range1, ↓k_range2, ↓k_lenL, ↓k_lenS, ↓k_sum, ↓k_round, ↓k_min, ↓k_max, ↓k_abs, ↓k_int, ↓k_divmod, ↓k_fn, ↓w_count, ↓w_rjust, ↓w_cmp, ↓p_count, ↓p_rjust, ↓p_cmp, ↓z_bhh, ↓z_s0h, ↓z_slh, ↓z_lst, ↓f_nil, ↓f_cons, ↓ts_nil, ↓ts_one, ↓true_and, ↓and_true, ↓if_true, ↓if_false, ne_eq, strEq, String.reduceEq, not_false_eq_true, not_true_eq_false, ↓reduceCtorEq, ↓List.append_nil, ↓reduceIte, List.mem_cons, List.not_mem_nil, or_false, false_or, or_self, mut_eq, decide_true, decide_false, Bool.or_true, Bool.true_or, Bool.or_false, Bool.or_self, List.lookup_cons, strBeq])
            refine ⟨by simp, ?_⟩
            refine comp_M (fun j => D.duel (selD j)) (fun j : Nat => D.int (duelF (0 + (j : Int)) (-1) 3 (1 - 2 * ((0 + (j : Int)).fmod 2)) one other)) (fun j hj q hq => ?_) (by simp) ?_
            · have hj3 : j < 3 := by simpa using hj
              (simp only [↓n_here, ↓n_off, ↓n_none, ↓n_bindHere, ↓n_bindOff, ↓n_inner, ↓r_here, ↓r_off, ↓r_mu, ↓is_F, ↓is_I, ↓is_K, ↓e_int, ↓e_flt, ↓e_str, ↓e_byt, ↓e_bool, ↓e_name, ↓e_bin, ↓e_neg, ↓e_list, ↓e_tup, ↓e_dict0, ↓e_dict1, ↓e_cmp, ↓e_and, ↓e_slice, ↓e_sub1, ↓e_sub2, ↓e_sub3, ↓e_sub4, ↓e_att, ↓e_meth, ↓e_call, ↓e_isi, ↓e_comp, ↓e_dcomp, ↓e_ifN, ↓e_ifc, ↓ss_nil, ↓ss_cons, ↓s_nilM, ↓s_dictM, ↓s_dictN, ↓s_bin, ↓s_call, ↓s_comp, ↓s_const, ↓s_list, ↓s_sub, ↓s_neg, ↓s_tup2, ↓s_tup3, ↓s_put, ↓s_aug, ↓s_augput, ↓s_items, ↓s_values, ↓s_for, ↓s_forN, ↓s_forA, ↓s_while, ↓s_clamp, ↓s_ret, ↓s_in, ↓s_ifNotEqRaise, ↓s_ifNotEqRet, ↓s_ifNotEqAsg, ↓s_ifEqIf, ↓s_ifLtRet, ↓s_ifGtRet, ↓s_ifOr, ↓s_ifIsi, ↓s_retT, ↓s_retC, ↓s_retK, ↓s_retU, ↓s_retB, ↓s_app, ↓s_brk, ↓b_iadd, ↓b_isub, ↓b_imul, ↓b_ifd, ↓b_imod, ↓b_ipow, ↓b_idiv, ↓b_fadd, ↓b_fsub, ↓b_fmul, ↓b_ifmul, ↓b_ladd, ↓b_sadd, ↓b_badd, ↓b_smul, ↓c_ieq, ↓c_ine, ↓c_ilt, ↓c_igt, ↓c_ige, ↓c_flt, ↓c_fgt, ↓c_seq, ↓c_sne, ↓c_tgt, ↓l_nil, ↓l_cons, ↓t_cmp, ↓t_name, ↓t_sub, ↓t_call, ↓t_and, ↓t_or, ↓t1_cmp, ↓t1_sub, ↓tr_b, ↓tr_i, ↓u_pair, ↓u_three, ↓m_none, ↓m_some, ↓o_none, ↓o_some, ↓i_list, ↓i_tup, ↓i_range, ↓x_str, ↓x_byt, ↓k_range1, ↓k_range2, ↓k_lenL, ↓k_lenS, ↓k_sum, ↓k_round, ↓k_min, ↓k_max, ↓k_abs, ↓k_int, ↓k_divmod, ↓k_fn, ↓w_count, ↓w_rjust, ↓w_cmp, ↓p_count, ↓p_rjust, ↓p_cmp, ↓z_bhh, ↓z_s0h, ↓z_slh, ↓z_lst, ↓f_nil, ↓f_cons, ↓ts_nil, ↓ts_one, ↓true_and, ↓and_true, ↓if_true, ↓if_false, ne_eq, strEq, String.reduceEq, not_false_eq_true, not_true_eq_false, ↓reduceCtorEq, ↓List.append_nil, ↓reduceIte, List.mem_cons, List.not_mem_nil, or_false, false_or, or_self, mut_eq, decide_true, decide_false, Bool.or_true, Bool.true_or, Bool.or_false, Bool.or_self, List.lookup_cons, strBeq])
              refine h2 _ _ _ _ ?_
              unfold selD duelW
              exact ⟨_, _, _, _, one, other, rfl, rfl, rfl, hR4 _ ho, hR4 _ hot, by omega, by omega, hq⟩
            · have e5 : (List.range 3).map (fun j : Nat => D.int (duelF (0 + (j : Int)) (-1) 3 (1 - 2 * ((0 + (j : Int)).fmod 2)) one other)) = ((List.range 3).map fun j : Nat => duelF (0 + (j : Int)) (-1) 3 (1 - 2 * ((0 + (j : Int)).fmod 2)) one other).map D.int := by rw [List.map_map]; rfl
              rw [e5, intsD_of]
              exact hq
          · have e2 : (rowsOf films).map (fun other => D.bool (beatF one other)) = ((rowsOf films).map fun other => beatF one other).map D.bool := by rw [List.map_map]; rfl
            rw [e2]; exact hq
        · have e3 : (rowsOf films).map (fun one => dB ((rowsOf films).map fun other => beatF one other)) = (duelsF films).map dB := by unfold duelsF; rw [List.map_map]; rfl
          rw [e3]; exact hpost

noncomputable def fr (a : Int) : UInt64 := Float64.ofFrac (decide (a < 0) != decide ((16 : Int) < 0)) a.natAbs (16 : Int).natAbs
noncomputable def partF (x : UInt64) : UInt64 := Float64.mul (Float64.ofInt 16) x
noncomputable def clI (a : Int) : Int := if (16 : Int) < (if (0 : Int) > a then 0 else a) then 16 else (if (0 : Int) > a then 0 else a)
noncomputable def lumaOf (a b c : Int) : UInt64 := lumaF (fr a) (fr b) (fr c)
noncomputable def warmOf (a b c : Int) : UInt64 := warmF (fr a) (fr b) (fr c)
noncomputable def coldOf (a b c : Int) : UInt64 := coldF (fr a) (fr b) (fr c)
noncomputable def tellsW (x : UInt64) (i : Int) : Prop := Float64.isFinite (partF (clampF x)) = true ∧ PySem.Flt.toInt Float64.nearestOf (partF (clampF x)) = i
noncomputable def FilmOk : Prop := (∀ a : Int, -4 ≤ a → a ≤ 20 → Float64.isInf (fr a) = false) ∧ ∀ a b c : Int, -4 ≤ a → a ≤ 20 → -4 ≤ b → b ≤ 20 → -4 ≤ c → c ≤ 20 →
  tellsW (redF (lumaOf a b c) (warmOf a b c) (coldOf a b c)) (clI a) ∧ tellsW (greenF (lumaOf a b c) (warmOf a b c) (coldOf a b c)) (clI b) ∧ tellsW (blueF (lumaOf a b c) (warmOf a b c) (coldOf a b c)) (clI c)

noncomputable def filmW (ds : List D) (post : D → Prop) : Prop := ∃ a b c : Int, ds = [dI [a, b, c]] ∧ (-4 ≤ a ∧ a ≤ 20) ∧ (-4 ≤ b ∧ b ≤ 20) ∧ (-4 ≤ c ∧ c ≤ 20) ∧ post (dI [clI a, clI b, clI c])

set_option maxHeartbeats 4000000 in
theorem d_film (P : Params) (Φ : Tab) (h1 : ∀ ds post, rgbW ds post → Φ.fn "rgb_to_yiq" ds post) (h2 : ∀ ds post, yiqW ds post → Φ.fn "yiq_to_rgb" ds post) (hf : FilmOk) : Def1 P 119 ["rgb_to_yiq", "yiq_to_rgb"] Φ filmW := by
  refine ⟨_, _, [Str.ofString "lamp"], fun h X => ⟨_, _, X 119 _ rfl, rfl, rfl, rfl, rfl, rfl, rfl, codeRec_of X (by kernel_rfl), len1 fun a => rfl⟩, by decide +kernel, by decide +kernel, ?_⟩
  intro ds post hp
  obtain ⟨a, b, c, rfl, ha, hb, hc, hpost⟩ := hp
  · refine ⟨rfl, ?_⟩
    simp only [List.zip_cons_cons, List.zip_nil_right]
    obtain ⟨hi, hf⟩ := hf
    obtain ⟨t1, t2, t3⟩ := hf a b c ha.1 ha.2 hb.1 hb.2 hc.1 hc.2
    (simp only [↓n_here, ↓n_off, ↓n_none, ↓n_bindHere, ↓n_bindOff, ↓n_inner, ↓r_here, ↓r_off, ↓r_mu, ↓is_F, ↓is_I, ↓is_K, ↓e_int, ↓e_flt, ↓e_str, ↓e_byt, ↓e_bool, ↓e_name, ↓e_bin, ↓e_neg, ↓e_list, ↓e_tup, ↓e_dict0, ↓e_dict1, ↓e_cmp, ↓e_and, ↓e_slice, ↓e_sub1, ↓e_sub2, ↓e_sub3, ↓e_sub4, ↓e_att, ↓e_meth, ↓e_call, ↓e_isi, ↓e_comp, ↓e_dcomp, ↓e_ifN, ↓e_ifc, ↓ss_nil, ↓ss_cons, ↓s_nilM, ↓s_dictM, ↓s_dictN, ↓s_bin, ↓s_call, ↓s_comp, ↓s_const, ↓s_list, ↓s_sub, ↓s_neg, ↓s_tup2, ↓s_tup3, ↓s_put, ↓s_aug, ↓s_augput, ↓s_items, ↓s_values, ↓s_for, ↓s_forN, ↓s_forA, ↓s_while, ↓s_clamp, ↓s_ret, ↓s_in, ↓s_ifNotEqRaise, ↓s_ifNotEqRet, ↓s_ifNotEqAsg, ↓s_ifEqIf, ↓s_ifLtRet, ↓s_ifGtRet, ↓s_ifOr, ↓s_ifIsi, ↓s_retT, ↓s_retC, ↓s_retK, ↓s_retU, ↓s_retB, ↓s_app, ↓s_brk, ↓b_iadd, ↓b_isub, ↓b_imul, ↓b_ifd, ↓b_imod, ↓b_ipow, ↓b_idiv, ↓b_fadd, ↓b_fsub, ↓b_fmul, ↓b_ifmul, ↓b_ladd, ↓b_sadd, ↓b_badd, ↓b_smul, ↓c_ieq, ↓c_ine, ↓c_ilt, ↓c_igt, ↓c_ige, ↓c_flt, ↓c_fgt, ↓c_seq, ↓c_sne, ↓c_tgt, ↓l_nil, ↓l_cons, ↓t_cmp, ↓t_name, ↓t_sub, ↓t_call, ↓t_and, ↓t_or, ↓t1_cmp, ↓t1_sub, ↓tr_b, ↓tr_i, ↓u_pair, ↓u_three, ↓m_none, ↓m_some, ↓o_none, ↓o_some, ↓i_list, ↓i_tup, ↓i_range, ↓x_str, ↓x_byt, ↓k_range1, ↓k_range2, ↓k_lenL, ↓k_lenS, ↓k_sum, ↓k_round, ↓k_min, ↓k_max, ↓k_abs, ↓k_int, ↓k_divmod, ↓k_fn, ↓w_count, ↓w_rjust, ↓w_cmp, ↓p_count, ↓p_rjust, ↓p_cmp, ↓z_bhh, ↓z_s0h, ↓z_slh, ↓z_lst, ↓f_nil, ↓f_cons, ↓ts_nil, ↓ts_one, ↓true_and, ↓and_true, ↓if_true, ↓if_false, ne_eq, strEq, String.reduceEq, not_false_eq_true, not_true_eq_false, ↓reduceCtorEq, ↓List.append_nil, ↓reduceIte, List.mem_cons, List.not_mem_nil, or_false, false_or, or_self, mut_eq, decide_true, decide_false, Bool.or_true, Bool.true_or, Bool.or_false, Bool.or_self, List.lookup_cons, strBeq])
    have e16 : ∀ a : Int, -4 ≤ a → a ≤ 20 → ((16 : Int) ≠ 0 ∧ Float64.isInf (Float64.ofFrac (decide (a < 0) != decide ((16 : Int) < 0)) a.natAbs (16 : Int).natAbs) = false) := fun a h1 h2 => ⟨by decide, hi a h1 h2⟩
    rw [x_ints (by omega) (by simp) (by simp), b_idiv]
    refine ⟨e16 a ha.1 ha.2, ?_⟩
    rw [x_ints (by omega) (by simp) (by simp), b_idiv]
    refine ⟨e16 b hb.1 hb.2, ?_⟩
    rw [x_ints (by omega) (by simp) (by simp), b_idiv]
    refine ⟨e16 c hc.1 hc.2, ?_⟩
    refine h1 _ _ ⟨_, _, _, rfl, ?_⟩
    (simp only [↓n_here, ↓n_off, ↓n_none, ↓n_bindHere, ↓n_bindOff, ↓n_inner, ↓r_here, ↓r_off, ↓r_mu, ↓is_F, ↓is_I, ↓is_K, ↓e_int, ↓e_flt, ↓e_str, ↓e_byt, ↓e_bool, ↓e_name, ↓e_bin, ↓e_neg, ↓e_list, ↓e_tup, ↓e_dict0, ↓e_dict1, ↓e_cmp, ↓e_and, ↓e_slice, ↓e_sub1, ↓e_sub2, ↓e_sub3, ↓e_sub4, ↓e_att, ↓e_meth, ↓e_call, ↓e_isi, ↓e_comp, ↓e_dcomp, ↓e_ifN, ↓e_ifc, ↓ss_nil, ↓ss_cons, ↓s_nilM, ↓s_dictM, ↓s_dictN, ↓s_bin, ↓s_call, ↓s_comp, ↓s_const, ↓s_list, ↓s_sub, ↓s_neg, ↓s_tup2, ↓s_tup3, ↓s_put, ↓s_aug, ↓s_augput, ↓s_items, ↓s_values, ↓s_for, ↓s_forN, ↓s_forA, ↓s_while, ↓s_clamp, ↓s_ret, ↓s_in, ↓s_ifNotEqRaise, ↓s_ifNotEqRet, ↓s_ifNotEqAsg, ↓s_ifEqIf, ↓s_ifLtRet, ↓s_ifGtRet, ↓s_ifOr, ↓s_ifIsi, ↓s_retT, ↓s_retC, ↓s_retK, ↓s_retU, ↓s_retB, ↓s_app, ↓s_brk, ↓b_iadd, ↓b_isub, ↓b_imul, ↓b_ifd, ↓b_imod, ↓b_ipow, ↓b_idiv, ↓b_fadd, ↓b_fsub, ↓b_fmul, ↓b_ifmul, ↓b_ladd, ↓b_sadd, ↓b_badd, ↓b_smul, ↓c_ieq, ↓c_ine, ↓c_ilt, ↓c_igt, ↓c_ige, ↓c_flt, ↓c_fgt, ↓c_seq, ↓c_sne, ↓c_tgt, ↓l_nil, ↓l_cons, ↓t_cmp, ↓t_name, ↓t_sub, ↓t_call, ↓t_and, ↓t_or, ↓t1_cmp, ↓t1_sub, ↓tr_b, ↓tr_i, ↓u_pair, ↓u_three, ↓m_none, ↓m_some, ↓o_none, ↓o_some, ↓i_list, ↓i_tup, ↓i_range, ↓x_str, ↓x_byt, ↓k_range1, ↓k_range2, ↓k_lenL, ↓k_lenS, ↓k_sum, ↓k_round, ↓k_min, ↓k_max, ↓k_abs, ↓k_int, ↓k_divmod, ↓k_fn, ↓w_count, ↓w_rjust, ↓w_cmp, ↓p_count, ↓p_rjust, ↓p_cmp, ↓z_bhh, ↓z_s0h, ↓z_slh, ↓z_lst, ↓f_nil, ↓f_cons, ↓ts_nil, ↓ts_one, ↓true_and, ↓and_true, ↓if_true, ↓if_false, ne_eq, strEq, String.reduceEq, not_false_eq_true, not_true_eq_false, ↓reduceCtorEq, ↓List.append_nil, ↓reduceIte, List.mem_cons, List.not_mem_nil, or_false, false_or, or_self, mut_eq, decide_true, decide_false, Bool.or_true, Bool.true_or, Bool.or_false, Bool.or_self, List.lookup_cons, strBeq])
    refine h2 _ _ ⟨_, _, _, rfl, ?_⟩
    change itemsW (.tup ([clampF (redF (lumaOf a b c) (warmOf a b c) (coldOf a b c)), clampF (greenF (lumaOf a b c) (warmOf a b c) (coldOf a b c)), clampF (blueF (lumaOf a b c) (warmOf a b c) (coldOf a b c))].map D.flt)) _
    rw [i_tup]
    refine ⟨by simp, ?_⟩
    refine comp_M D.flt (fun x => .int (PySem.Flt.toInt Float64.nearestOf (partF x))) (fun x hx q hq => ?_) (by simp) ?_
    · (simp only [↓n_here, ↓n_off, ↓n_none, ↓n_bindHere, ↓n_bindOff, ↓n_inner, ↓r_here, ↓r_off, ↓r_mu, ↓is_F, ↓is_I, ↓is_K, ↓e_int, ↓e_flt, ↓e_str, ↓e_byt, ↓e_bool, ↓e_name, ↓e_bin, ↓e_neg, ↓e_list, ↓e_tup, ↓e_dict0, ↓e_dict1, ↓e_cmp, ↓e_and, ↓e_slice, ↓e_sub1, ↓e_sub2, ↓e_sub3, ↓e_sub4, ↓e_att, ↓e_meth, ↓e_call, ↓e_isi, ↓e_comp, ↓e_dcomp, ↓e_ifN, ↓e_ifc, ↓ss_nil, ↓ss_cons, ↓s_nilM, ↓s_dictM, ↓s_dictN, ↓s_bin, ↓s_call, ↓s_comp, ↓s_const, ↓s_list, ↓s_sub, ↓s_neg, ↓s_tup2, ↓s_tup3, ↓s_put, ↓s_aug, ↓s_augput, ↓s_items, ↓s_values, ↓s_for, ↓s_forN, ↓s_forA, ↓s_while, ↓s_clamp, ↓s_ret, ↓s_in, ↓s_ifNotEqRaise, ↓s_ifNotEqRet, ↓s_ifNotEqAsg, ↓s_ifEqIf, ↓s_ifLtRet, ↓s_ifGtRet, ↓s_ifOr, ↓s_ifIsi, ↓s_retT, ↓s_retC, ↓s_retK, ↓s_retU, ↓s_retB, ↓s_app, ↓s_brk, ↓b_iadd, ↓b_isub, ↓b_imul, ↓b_ifd, ↓b_imod, ↓b_ipow, ↓b_idiv, ↓b_fadd, ↓b_fsub, ↓b_fmul, ↓b_ifmul, ↓b_ladd, ↓b_sadd, ↓b_badd, ↓b_smul, ↓c_ieq, ↓c_ine, ↓c_ilt, ↓c_igt, ↓c_ige, ↓c_flt, ↓c_fgt, ↓c_seq, ↓c_sne, ↓c_tgt, ↓l_nil, ↓l_cons, ↓t_cmp, ↓t_name, ↓t_sub, ↓t_call, ↓t_and, ↓t_or, ↓t1_cmp, ↓t1_sub, ↓tr_b, ↓tr_i, ↓u_pair, ↓u_three, ↓m_none, ↓m_some, ↓o_none, ↓o_some, ↓i_list, ↓i_tup, ↓i_range, ↓x_str, ↓x_byt, ↓k_range1, ↓k_range2, ↓k_lenL, ↓k_lenS, ↓k_sum, ↓k_round, ↓k_min, ↓k_max, ↓k_abs, ↓k_int, ↓k_divmod, ↓k_fn, ↓w_count, ↓w_rjust, ↓w_cmp, ↓p_count, ↓p_rjust, ↓p_cmp, ↓z_bhh, ↓z_s0h, ↓z_slh, ↓z_lst, ↓f_nil, ↓f_cons, ↓ts_nil, ↓ts_one, ↓true_and, ↓and_true, ↓if_true, ↓if_false, ne_eq, strEq, String.reduceEq, not_false_eq_true, not_true_eq_false, ↓reduceCtorEq, ↓List.append_nil, ↓reduceIte, List.mem_cons, List.not_mem_nil, or_false, false_or, or_self, mut_eq, decide_true, decide_false, Bool.or_true, Bool.true_or, Bool.or_false, Bool.or_self, List.lookup_cons, strBeq])
      have hfin : Float64.isFinite (partF x) = true := by
        simp only [List.mem_cons, List.not_mem_nil, or_false] at hx
        rcases hx with rfl | rfl | rfl
        · exact t1.1
        · exact t2.1
        · exact t3.1
      exact ⟨by decide, hfin, hq⟩
    · simp only [List.map_cons, List.map_nil, t1.2, t2.2, t3.2]
      exact hpost

noncomputable abbrev KX (P : Params) (h : Heap) : Prop := (hd.heap_1 P).In h

section
variable {prog : Program} {w : World} {fa : Str → Option Addr} {A : Around} {E : Value → Shared → Prop} {s : Shared} {σ : Sg}

theorem handed_rp {C : Addr} {v : Value} {d : D} (r : Rp prog w C σ v d) : handedIn v = true := by cases r <;> rfl

theorem k_ga (P : Params) : findIn (hd.heap_1 P) (.ref 91) "__getattribute__" = some (some (.builtin "object.__getattribute__")) := by kernel_rfl
theorem k_g (P : Params) : findIn (hd.heap_1 P) (.ref 91) "__getattr__" = some none := by kernel_rfl
theorem k_csl (P : Params) : findIn (hd.heap_1 P) (.ref 91) "comp_select_list" = some none := by kernel_rfl
theorem k_cmp (P : Params) : findIn (hd.heap_1 P) (.ref 91) "compare" = some (some (.ref 88)) := by kernel_rfl
theorem k_init (P : Params) : findIn (hd.heap_1 P) (.ref 91) "__init__" = some (some (.ref 81)) := by kernel_rfl
theorem k_has (P : Params) : hasDictIn (hd.heap_1 P) 91 = true := by kernel_rfl
theorem k_t81 (P : Params) : typeIn (hd.heap_1 P) (.ref 81) = some (.type "function") := by kernel_rfl
theorem k_t88 (P : Params) : typeIn (hd.heap_1 P) (.ref 88) = some (.type "function") := by kernel_rfl
theorem k_keep (P : Params) : keepIn (hd.heap_1 P) (.ref 91) = true := by kernel_rfl
theorem k_makes (P : Params) : makesIn (hd.heap_1 P) 91 = true := by kernel_rfl
theorem k_set (P : Params) : findIn (hd.heap_1 P) (.ref 91) "__setattr__" = some (some (.builtin "object.__setattr__")) := by kernel_rfl
theorem k_over (P : Params) : plainOver (hd.heap_1 P) 91 = true := by kernel_rfl
theorem k_taker (P : Params) : takerIn (hd.heap_1 P) 91 "comp_select_list" = some none := by kernel_rfl

theorem att_snd (P : Params) {Q : Value → Shared → Prop} {v : Value} {d : D} {b : Bool} (hs : SubH σ s.heap) (wd : Wd fa (KX P) s.heap) (r : Rp prog w 91 σ v (.duel d))
    (hQ : ∀ u h' tk, Nx σ s.heap σ h' → Rp prog w 91 σ u d → Q u { s with heap := h', toks := tk }) : wpAny (model prog w) A (getAttr v "comp_select_list" b) Q E s := by
  cases r with
  | @duel a dx sl es n u _ e1 e2 e3 r4 =>
  have I : InstAt s.heap a ⟨.ref 91, some dx, .plain, sl⟩ 91 (some (dictOf es n)) := ⟨hs _ _ e1, rfl, rfl, hs _ _ e2⟩
  exact get_value wd.more I (k_ga P) (findObj_own (k_has P) (k_csl P) rfl e3.1) (handed_rp r4) (hQ _ s.heap _ (Nx.refl hs) r4)

theorem cmpm_snd (P : Params) {Q : Value × List Value → Shared → Prop} {v : Value} {d : D} {pl : Sem Bool} (hs : SubH σ s.heap) (wd : Wd fa (KX P) s.heap) (r : Rp prog w 91 σ v (.duel d))
    (hQ : Q (.ref 88, [v]) s) : wpAny (model prog w) A (getMethod v "compare" pl) Q E s := by
  cases r with
  | @duel a dx sl es n u _ e1 e2 e3 r4 =>
  have I : InstAt s.heap a ⟨.ref 91, some dx, .plain, sl⟩ 91 (some (dictOf es n)) := ⟨hs _ _ e1, rfl, rfl, hs _ _ e2⟩
  exact method_fn wd.more I (k_ga P) (k_g P) (k_cmp P) (k_t88 P) (by show (lookIn "compare" (dictOf es n)).map _ = _; rw [lookIn_dict, e3.2]; rfl) hQ

end

section
open PySem.Float64

noncomputable def Fin1 (x : UInt64) : Prop := ∃ a m e, decode x = .fin a m e

theorem V_below (q : Nat) : ∀ T : Nat, ∃ t, t ≤ T ∧ V t ≤ q ∧ (t = T ∨ q < V (t + 1))
  | 0 => ⟨0, Nat.le_refl _, by rw [V_zero]; omega, .inl rfl⟩
  | T + 1 => by
    obtain ⟨t, h1, h2, h3⟩ := V_below q T
    rcases h3 with h3 | h3
    · subst h3
      rcases Nat.lt_or_ge q (V (t + 1)) with h | h
      · exact ⟨t, by omega, h2, .inr h⟩
      · exact ⟨t + 1, Nat.le_refl _, h, .inl rfl⟩
    · exact ⟨t, by omega, h2, .inr h3⟩

theorem V_close {q : Nat} (hq : q ≤ 2 ^ 1084) : ∃ t, V t ≤ q ∧ q < V t + 2 ^ 1033 := by
  obtain ⟨t, h1, h2, h3⟩ := V_below q (1033 * 2 ^ 52 + 2 ^ 52)
  have hT : V (1033 * 2 ^ 52 + 2 ^ 52) = 2 ^ 52 * 2 ^ 1033 := V_at (by decide) (.inl (Nat.le_refl _))
  have hne : t ≠ 1033 * 2 ^ 52 + 2 ^ 52 := by
    rintro rfl
    rw [hT] at h2
    have : (2 : Nat) ^ 1084 < 2 ^ 52 * 2 ^ 1033 := by decide +kernel
    omega
  refine ⟨t, h2, ?_⟩
  have h3 : q < V (t + 1) := by rcases h3 with h | h; exact absurd h hne; exact h
  obtain ⟨k, p, ht, hp, hor, hV⟩ := V_form t
  have h5 := V_at (k := k) (q := p + 1) (by omega) (by omega)
  have e : t + 1 = k * 2 ^ 52 + (p + 1) := by omega
  rw [e, h5, Nat.add_mul, Nat.one_mul, ← hV] at h3
  have hk : k ≤ 1033 := by omega
  have : (2 : Nat) ^ k ≤ 2 ^ 1033 := Nat.pow_le_pow_right (by decide) hk
  omega

theorem near {r : UInt64} {neg : Bool} {W D : Nat} (h : Right r neg W D) (hD : 0 < D) (hW : W ≤ 1024 * (2 ^ 1074 * D)) :
    Fin1 r ∧ ∃ u : Nat, val r = sgn neg u ∧ 1000000000 * dist W (D * u) ≤ 2 ^ 1074 * D := by
  obtain ⟨t, rfl, hle, hinf, hn⟩ := h
  have hlt : t < infMag := by
    refine Nat.lt_of_le_of_ne hle fun e => ?_
    have h1 := hinf.mp e
    have h2 : D * ((2 ^ 54 - 1) * 2 ^ 2045) ≤ D * (2048 * 2 ^ 1074) := by
      refine Nat.le_trans h1 ?_
      rw [show D * (2048 * 2 ^ 1074) = 2 * (1024 * (2 ^ 1074 * D)) by
        generalize (2 : Nat) ^ 1074 = K
        rw [show (2048 : Nat) = 2 * 1024 from rfl]; ac_rfl]
      exact Nat.mul_le_mul_left 2 hW
    have h3 := Nat.le_of_mul_le_mul_left h2 hD
    revert h3
    exact of_decide_eq_true (by decide +kernel)
  have hn := hn hlt
  obtain ⟨m, e, hd, _⟩ := decode_pack neg hlt
  refine ⟨⟨neg, m, e, hd⟩, V t, val_pack neg hlt, ?_⟩
  have hq : W / D ≤ 2 ^ 1084 := by
    have : W / D ≤ 1024 * 2 ^ 1074 := Nat.div_le_of_le_mul (by
      rw [show D * (1024 * 2 ^ 1074) = 1024 * (2 ^ 1074 * D) by generalize (2 : Nat) ^ 1074 = K; ac_rfl]; exact hW)
    have e : (1024 : Nat) * 2 ^ 1074 = 2 ^ 1084 := by decide +kernel
    omega
  obtain ⟨t', h1, h2⟩ := V_close hq
  have hn' := (hn t').1
  have h3 : D * V t' ≤ W := Nat.le_trans (Nat.mul_le_mul_left D h1) (Nat.mul_div_le W D)
  have h4 : W < D * V t' + D * 2 ^ 1033 := by
    rw [← Nat.mul_add]
    have h5 : W < D * (W / D + 1) := by
      have := Nat.lt_mul_div_succ W hD
      exact this
    exact Nat.lt_of_lt_of_le h5 (Nat.mul_le_mul_left D h2)
  have h6 : dist W (D * V t') ≤ D * 2 ^ 1033 := by unfold dist; omega
  have h7 : dist W (D * V t) ≤ D * 2 ^ 1033 := Nat.le_trans hn' h6
  have h8 : (1000000000 : Nat) * 2 ^ 1033 ≤ 2 ^ 1074 := by decide +kernel
  calc 1000000000 * dist W (D * V t) ≤ 1000000000 * (D * 2 ^ 1033) := Nat.mul_le_mul_left _ h7
    _ = D * (1000000000 * 2 ^ 1033) := by generalize (2 : Nat) ^ 1033 = K; ac_rfl
    _ ≤ D * 2 ^ 1074 := Nat.mul_le_mul_left _ h8
    _ = 2 ^ 1074 * D := Nat.mul_comm _ _

noncomputable def One : Int := 2 ^ 1074
theorem one_pos : 0 < One := by unfold One; decide +kernel
theorem one_nat : ((2 ^ 1074 : Nat) : Int) = One := by unfold One; simp

theorem sgn_dec (i : Int) : sgn (decide (i < 0)) i.natAbs = i := by
  unfold sgn
  by_cases h : i < 0
  · rw [decide_eq_true h, if_pos rfl]; omega
  · rw [decide_eq_false h, if_neg (by decide)]; omega
theorem sgn_dist (neg : Bool) {u W : Nat} {k : Nat} (h : dist W u ≤ k) : -(k : Int) ≤ sgn neg u - sgn neg W ∧ sgn neg u - sgn neg W ≤ k := by
  unfold dist at h
  unfold sgn
  cases neg <;> simp <;> omega

theorem fin_zero (b : Bool) : Fin1 (zero b) ∧ val (zero b) = 0 := by
  have h : (0 : Nat) < infMag := by decide
  obtain ⟨m, e, hd, _⟩ := decode_pack b h
  refine ⟨⟨b, m, e, hd⟩, ?_⟩
  have := val_pack b h
  rw [V_zero] at this
  show val (pack b 0) = 0
  rw [this]
  cases b <;> rfl

def Nr (x : UInt64) (V : Int) (k b : Nat) : Prop := Fin1 x ∧ (-((k : Int) * One) ≤ 1000000000 * val x - V ∧ 1000000000 * val x - V ≤ k * One) ∧ -((b : Int) * One) ≤ val x ∧ val x ≤ b * One
theorem rsum {z : UInt64} {i : Int} {b : Bool} (h0 : i = 0 → z = zero b) (h1 : i ≠ 0 → Right z (decide (i < 0)) i.natAbs 1) (hb : i.natAbs ≤ 1024 * (2 ^ 1074 * 1)) :
    Fin1 z ∧ -One ≤ 1000000000 * (val z - i) ∧ 1000000000 * (val z - i) ≤ One := by
  have ho := one_pos
  by_cases h : i = 0
  · rw [h0 h, h]
    obtain ⟨f, v⟩ := fin_zero b
    rw [v]
    exact ⟨f, by omega, by omega⟩
  · have hc := one_nat
    obtain ⟨f, u, hu, hd⟩ := near (h1 h) (by decide) hb
    refine ⟨f, ?_⟩
    rw [Nat.one_mul, Nat.mul_one] at hd
    have h2 := sgn_dist (decide (i < 0)) (Nat.le_refl (dist i.natAbs u))
    rw [sgn_dec, ← hu] at h2
    clear h0 h1 hb h
    omega
theorem one_le {b c : Nat} (h : b ≤ c) : (b : Int) * One ≤ c * One := Int.mul_le_mul_of_nonneg_right (by omega) (Int.le_of_lt one_pos)
theorem one_three (k l : Nat) : ((k + l + 1 : Nat) : Int) * One = k * One + l * One + One := by
  rw [Int.natCast_add, Int.natCast_add, Int.add_mul, Int.add_mul]; simp
theorem abs_le {n : Nat} {i : Int} (hn : n ≤ 1024) (lo : -((n : Int) * One) ≤ i) (hi : i ≤ n * One) : i.natAbs ≤ 1024 * (2 ^ 1074 * 1) := by
  have h := one_le hn
  have hc := one_nat
  have ho := one_pos
  generalize (n : Int) * One = z at *
  omega
theorem near_sum {z : UInt64} {V i : Int} {k l b c : Nat} (hf : Fin1 z ∧ -One ≤ 1000000000 * (val z - i) ∧ 1000000000 * (val z - i) ≤ One)
    (h1 : -((k : Int) * One + l * One) ≤ 1000000000 * i - V ∧ 1000000000 * i - V ≤ k * One + l * One) (h2 : -((b : Int) * One + c * One) ≤ i ∧ i ≤ b * One + c * One) : Nr z V (k + l + 1) (b + c + 1) := by
  have ho := one_pos
  obtain ⟨f, e1, e2⟩ := hf
  unfold Nr
  rw [one_three, one_three]
  generalize (k : Int) * One + l * One = p at *
  generalize (b : Int) * One + c * One = q at *
  exact ⟨f, ⟨by omega, by omega⟩, by omega, by omega⟩
theorem add_nr {x y : UInt64} {V W : Int} {k l b c : Nat} (hx : Nr x V k b) (hy : Nr y W l c) (hbc : b + c ≤ 1024) : Nr (add x y) (V + W) (k + l + 1) (b + c + 1) := by
  obtain ⟨⟨a, m, e, dx⟩, ⟨x1, x2⟩, x3, x4⟩ := hx
  obtain ⟨⟨a', m', e', dy⟩, ⟨y1, y2⟩, y3, y4⟩ := hy
  have h := add_right dx dy
  clear dx dy
  have hs : (((b + c : Nat)) : Int) * One = b * One + c * One := by rw [Int.natCast_add, Int.add_mul]
  generalize hk : (k : Int) * One = p at *
  generalize hl : (l : Int) * One = q at *
  generalize hb : (b : Int) * One = u at *
  generalize hc : (c : Int) * One = v at *
  refine near_sum (rsum h.1 h.2 (abs_le hbc (by clear h; omega) (by clear h; omega))) ?_ ?_
  · rw [hk, hl]; clear h; constructor <;> omega
  · rw [hb, hc]; clear h; constructor <;> omega
theorem sub_nr {x y : UInt64} {V W : Int} {k l b c : Nat} (hx : Nr x V k b) (hy : Nr y W l c) (hbc : b + c ≤ 1024) : Nr (sub x y) (V - W) (k + l + 1) (b + c + 1) := by
  obtain ⟨⟨a, m, e, dx⟩, ⟨x1, x2⟩, x3, x4⟩ := hx
  obtain ⟨⟨a', m', e', dy⟩, ⟨y1, y2⟩, y3, y4⟩ := hy
  have h := sub_right dx dy
  clear dx dy
  have hs : (((b + c : Nat)) : Int) * One = b * One + c * One := by rw [Int.natCast_add, Int.add_mul]
  generalize hk : (k : Int) * One = p at *
  generalize hl : (l : Int) * One = q at *
  generalize hb : (b : Int) * One = u at *
  generalize hc : (c : Int) * One = v at *
  refine near_sum (rsum h.1 h.2 (abs_le hbc (by clear h; omega) (by clear h; omega))) ?_ ?_
  · rw [hk, hl]; clear h; constructor <;> omega
  · rw [hb, hc]; clear h; constructor <;> omega
theorem Nr.self {x : UInt64} {V : Int} {k b : Nat} (h : Nr x V k b) : Nr x (1000000000 * val x) 0 b := ⟨h.1, by simp, h.2.2⟩

theorem sgn_prod {x y : UInt64} {a b : Bool} {m k : Nat} {e f : Int} (hx : decode x = .fin a m e) (hy : decode y = .fin b k f) : sgn (a != b) ((val x).natAbs * (val y).natAbs) = val x * val y := by
  rw [val_natAbs hx, val_natAbs hy, val_eq hx, val_eq hy]
  generalize m * 2 ^ (e + 1074).toNat = p
  generalize k * 2 ^ (f + 1074).toNat = q
  unfold sgn
  cases a <;> cases b <;> simp [Int.neg_mul, Int.mul_neg]

theorem abs_mul {p : Int} {u v : Nat} (h1 : p.natAbs ≤ u * v) : -((u : Int) * v) ≤ p ∧ p ≤ (u : Int) * v := by
  have : ((u * v : Nat) : Int) = (u : Int) * v := Int.natCast_mul u v
  generalize u * v = z at *
  omega
theorem mul_nr {c y : UInt64} {C V : Int} {k b : Nat} (hc : Fin1 c) (c1 : -One ≤ 1000000000 * val c - C * One) (c2 : 1000000000 * val c - C * One ≤ One) (cl : -16000000000 ≤ C) (ch : C ≤ 16000000000) (m : Nat) (hm : C.natAbs ≤ 1000000000 * m)
    (hy : Nr y V k b) (hb : b ≤ 60) : Nr (mul c y) (C * val y) (b + 1) (m * b + 1) := by
  obtain ⟨hy, -, y1, y2⟩ := hy
  obtain ⟨a, _, e, hx⟩ := hc
  obtain ⟨a', _, f, hy⟩ := hy
  have h := mul_right hx hy
  have hp := sgn_prod hx hy
  clear hx hy
  have ho := one_pos
  have hn := one_nat
  have hoa : (One.natAbs : Int) = One := by omega
  have hbo : ((b * One.natAbs : Nat) : Int) = b * One := by rw [Int.natCast_mul, hoa]
  have hyb : (val y).natAbs ≤ b * One.natAbs := by omega
  have hcb : (val c).natAbs ≤ 17 * 2 ^ 1074 := by
    have a1 : -16000000000 * One ≤ C * One := Int.mul_le_mul_of_nonneg_right cl (Int.le_of_lt ho)
    have a2 : C * One ≤ 16000000000 * One := Int.mul_le_mul_of_nonneg_right ch (Int.le_of_lt ho)
    clear h hp hbo hyb y1 y2
    omega
  have habs : (val c).natAbs * (val y).natAbs ≤ 1024 * (2 ^ 1074 * 2 ^ 1074) := by
    have h2 : (val y).natAbs ≤ 60 * 2 ^ 1074 := by
      refine Nat.le_trans hyb ?_
      have : One.natAbs = 2 ^ 1074 := by omega
      rw [this]
      exact Nat.mul_le_mul_right _ hb
    calc _ ≤ 17 * 2 ^ 1074 * (60 * 2 ^ 1074) := Nat.mul_le_mul hcb h2
      _ ≤ _ := by generalize (2 : Nat) ^ 1074 = K; rw [show 17 * K * (60 * K) = 1020 * (K * K) by rw [Nat.mul_mul_mul_comm]]; omega
  obtain ⟨fi, u, hu, hd⟩ := near h (Nat.two_pow_pos _) habs
  have h2 := sgn_dist (a != a') (Nat.le_refl (dist ((val c).natAbs * (val y).natAbs) (2 ^ 1074 * u)))
  rw [hp] at h2
  rw [show sgn (a != a') (2 ^ 1074 * u) = val (mul c y) * One by rw [Nat.mul_comm, sgn_mul, hu, hn]] at h2
  clear hp h habs hcb hu
  generalize dist ((val c).natAbs * (val y).natAbs) (2 ^ 1074 * u) = δ at *
  have hd' : 1000000000 * (δ : Int) ≤ One * One := by
    have : ((1000000000 * δ : Nat) : Int) ≤ ((2 ^ 1074 * 2 ^ 1074 : Nat) : Int) := Int.ofNat_le.mpr hd
    rw [Int.natCast_mul, Int.natCast_mul, hn] at this
    exact this
  have e1 : 1000000000 * (val c * val y) = C * val y * One + (1000000000 * val c - C * One) * val y := by
    rw [Int.sub_mul, Int.mul_right_comm C (val y) One, Int.mul_assoc 1000000000]; omega
  have hη := abs_mul (p := (1000000000 * val c - C * One) * val y) (u := One.natAbs) (v := b * One.natAbs) (by
    rw [Int.natAbs_mul]
    exact Nat.mul_le_mul (by omega) hyb)
  rw [hoa, hbo, Int.mul_left_comm] at hη
  generalize (1000000000 * val c - C * One) * val y = ε at *
  generalize val c * val y = pr at *
  have hoo : 0 < One * One := Int.mul_pos ho ho
  have e3 : (((b + 1 : Nat) : Int) * One) * One = b * (One * One) + One * One := by
    rw [Int.mul_assoc, Int.natCast_add, Int.add_mul]; simp
  have f1 : -(((b + 1 : Nat) : Int) * One) * One ≤ (1000000000 * val (mul c y) - C * val y) * One := by
    rw [Int.neg_mul, e3, Int.sub_mul, Int.mul_assoc 1000000000]
    generalize val (mul c y) * One = z at *
    generalize C * val y * One = cy at *
    generalize (b : Int) * (One * One) = bo at *
    generalize One * One = oo at *
    clear e3 hbo hyb hoa y1 y2 c1 c2 hd
    omega
  have f2 : (1000000000 * val (mul c y) - C * val y) * One ≤ (((b + 1 : Nat) : Int) * One) * One := by
    rw [e3, Int.sub_mul, Int.mul_assoc 1000000000]
    generalize val (mul c y) * One = z at *
    generalize C * val y * One = cy at *
    generalize (b : Int) * (One * One) = bo at *
    generalize One * One = oo at *
    clear e3 hbo hyb hoa y1 y2 c1 c2 hd
    omega
  have g1 := Int.le_of_mul_le_mul_right f1 ho
  have g2 := Int.le_of_mul_le_mul_right f2 ho
  refine ⟨fi, ⟨g1, g2⟩, ?_⟩
  have hcy := abs_mul (p := C * val y) (u := 1000000000 * m) (v := b * One.natAbs) (by
    rw [Int.natAbs_mul]
    exact Nat.mul_le_mul hm hyb)
  rw [hbo] at hcy
  have e4 : ((1000000000 * m : Nat) : Int) * (b * One) = 1000000000 * ((m * b : Nat) * One) := by
    rw [Int.natCast_mul, Int.natCast_mul, Int.mul_assoc, Int.mul_assoc]; rfl
  rw [e4] at hcy
  have e5 : ((m * b + 1 : Nat) : Int) * One = (m * b : Nat) * One + One := by rw [Int.natCast_add, Int.add_mul]; simp
  have hb60 : (b : Int) * One ≤ 60 * One := Int.mul_le_mul_of_nonneg_right (by omega) (Int.le_of_lt ho)
  have e6 : ((b + 1 : Nat) : Int) * One = b * One + One := by rw [Int.natCast_add, Int.add_mul]; simp
  rw [e5]
  rw [e6] at g1 g2
  have hb0 : 0 ≤ (b : Int) * One := Int.mul_nonneg (by omega) (Int.le_of_lt ho)
  generalize ((m * b : Nat) : Int) * One = mb at *
  generalize (b : Int) * One = bo at *
  generalize C * val y = cy at *
  clear f1 f2 e3 e1 hη h2 hd' e4 e5 e6 hbo hyb hd
  constructor <;> omega

theorem fr_near {a : Int} (h1 : -4 ≤ a) (h2 : a ≤ 20) : Fin1 (fr a) ∧ -16 * One ≤ 1000000000 * (16 * val (fr a) - a * One) ∧ 1000000000 * (16 * val (fr a) - a * One) ≤ 16 * One := by
  have hn := one_nat
  have h : Right (fr a) (decide (a < 0)) (a.natAbs * 2 ^ 1074) 16 := by
    have : (decide (a < 0) != decide ((16 : Int) < 0)) = decide (a < 0) := by
      rw [show decide ((16 : Int) < 0) = false by decide]; simp
    unfold fr
    rw [this]
    exact ofFrac_right (by decide) rfl (by decide)
  obtain ⟨f, u, hu, hd⟩ := near h (by decide) (by
    have : a.natAbs ≤ 20 := by omega
    generalize (2 : Nat) ^ 1074 = K
    calc a.natAbs * K ≤ 20 * K := Nat.mul_le_mul_right _ this
      _ ≤ _ := by omega)
  refine ⟨f, ?_⟩
  have h3 := sgn_dist (decide (a < 0)) (Nat.le_refl (dist (a.natAbs * 2 ^ 1074) (16 * u)))
  have e1 : sgn (decide (a < 0)) (16 * u) = 16 * val (fr a) := by rw [Nat.mul_comm, sgn_mul, hu]; omega
  have e2 : sgn (decide (a < 0)) (a.natAbs * 2 ^ 1074) = a * One := by rw [sgn_mul, sgn_dec, hn]
  rw [e1, e2] at h3
  generalize dist (a.natAbs * 2 ^ 1074) (16 * u) = δ at *
  have : 1000000000 * (δ : Int) ≤ One * 16 := by
    have : ((1000000000 * δ : Nat) : Int) ≤ ((2 ^ 1074 * 16 : Nat) : Int) := Int.ofNat_le.mpr hd
    rw [Int.natCast_mul, Int.natCast_mul, hn] at this
    exact this
  omega
theorem fr_nr {a : Int} (h1 : -4 ≤ a) (h2 : a ≤ 20) : Nr (fr a) (1000000000 * val (fr a)) 0 2 := by
  obtain ⟨f, p, q⟩ := fr_near h1 h2
  have ho := one_pos
  have m1 : -4 * One ≤ a * One := Int.mul_le_mul_of_nonneg_right h1 (Int.le_of_lt ho)
  have m2 : a * One ≤ 20 * One := Int.mul_le_mul_of_nonneg_right h2 (Int.le_of_lt ho)
  refine ⟨f, by simp, ?_⟩
  generalize a * One = z at *
  clear h1 h2
  constructor <;> omega
theorem isInf_of {x : UInt64} (h : Fin1 x) : isInf x = false := by
  obtain ⟨a, m, e, h⟩ := h
  unfold isInf; rw [h]
theorem isFin_of {x : UInt64} (h : Fin1 x) : isFinite x = true := by
  obtain ⟨a, m, e, h⟩ := h
  unfold isFinite; rw [h]

theorem lt_iff {x y : UInt64} (hx : Fin1 x) (hy : Fin1 y) : ((cmp x y == some .lt) = true ↔ val x < val y) ∧ ((cmp x y == some .gt) = true ↔ val y < val x) := by
  obtain ⟨a, m, e, hx⟩ := hx
  obtain ⟨b, k, f, hy⟩ := hy
  rw [cmp_right hx hy]
  constructor
  · rw [← Int.compare_eq_lt]; simp
  · rw [← Int.compare_eq_gt]; simp

theorem fin_k {x : UInt64} {a : Bool} {m : Nat} {e : Int} (h : decode x = .fin a m e) : Fin1 x := ⟨a, m, e, h⟩
theorem clamp_near {x : UInt64} (hx : Fin1 x) : Fin1 (clampF x) ∧ ((val x < 0 ∧ val (clampF x) = 0) ∨ (0 ≤ val x ∧ val x ≤ One ∧ val (clampF x) = val x) ∨ (One < val x ∧ val (clampF x) = One)) := by
  have f0 : Fin1 0 := ⟨false, 0, -1074, by kernel_rfl⟩
  have v0 : val 0 = 0 := by rw [val_eq (show decode 0 = .fin false 0 (-1074) by kernel_rfl)]; rfl
  have f1 : Fin1 4607182418800017408 := ⟨false, 2 ^ 52, -52, by kernel_rfl⟩
  have v1 : val 4607182418800017408 = One := by
    rw [val_eq (show decode 4607182418800017408 = .fin false (2 ^ 52) (-52) by kernel_rfl)]
    unfold One
    decide +kernel
  have ho := one_pos
  unfold clampF
  have c0 := (lt_iff hx f0).1
  rw [v0] at c0
  by_cases h : val x < 0
  · rw [if_pos (c0.mpr h)]
    have c1 := (lt_iff f0 f1).2
    rw [v0, v1] at c1
    rw [if_neg (fun q => by have := c1.mp q; omega)]
    exact ⟨f0, .inl ⟨h, v0⟩⟩
  · rw [if_neg (fun q => h (c0.mp q))]
    have c1 := (lt_iff hx f1).2
    rw [v1] at c1
    by_cases h2 : One < val x
    · rw [if_pos (c1.mpr h2)]
      exact ⟨f1, .inr (.inr ⟨h2, v1⟩)⟩
    · rw [if_neg (fun q => h2 (c1.mp q))]
      exact ⟨hx, .inr (.inl ⟨by omega, by omega, rfl⟩)⟩

theorem round_near {p : UInt64} {n : Nat} (h : Fin1 p) (lo : -One ≤ 10 * (val p - n * One)) (hi : 10 * (val p - n * One) ≤ One) : PySem.Flt.toInt Float64.nearestOf p = n := by
  obtain ⟨s, m, e, hd⟩ := h
  unfold PySem.Flt.toInt
  rw [hd]
  show nearestOf s m e = n
  unfold nearestOf
  have he := decode_ge hd
  have h1 := shift_one m e 1074 (by omega)
  have hv := val_eq hd
  have hpos := shift_pos m 1 e (by decide)
  have hn := one_nat
  have ho := one_pos
  generalize m * 2 ^ (e + ((1074 : Nat) : Int)).toNat = X at *
  show sgn s (halfEven (shift m 1 e).1 (shift m 1 e).2) = n
  generalize (shift m 1 e).1 = N at *
  generalize (shift m 1 e).2 = Dn at *
  have hnear := fun j => halfEven_nearest N Dn hpos j
  generalize halfEven N Dn = hh at *
  have h1' : (N : Int) * One = X * Dn := by
    have : ((N * 2 ^ 1074 : Nat) : Int) = ((X * Dn : Nat) : Int) := congrArg Int.ofNat h1
    rw [Int.natCast_mul, Int.natCast_mul, hn] at this
    exact this
  have key : ∀ k : Nat, -One ≤ 10 * ((X : Int) - k * One) → 10 * ((X : Int) - k * One) ≤ One → hh = k := by
    intro k l1 l2
    have hD : (0 : Int) < Dn := by omega
    have a1 : -One * Dn ≤ 10 * ((X : Int) - k * One) * Dn := Int.mul_le_mul_of_nonneg_right l1 (Int.le_of_lt hD)
    have a2 : 10 * ((X : Int) - k * One) * Dn ≤ One * Dn := Int.mul_le_mul_of_nonneg_right l2 (Int.le_of_lt hD)
    have e3 : 10 * ((X : Int) - k * One) * Dn = 10 * (N - k * Dn) * One := by
      rw [Int.mul_assoc 10, Int.mul_assoc 10, Int.sub_mul, Int.sub_mul, h1', Int.mul_right_comm k One Dn]
    rw [e3] at a1 a2
    have b1 : -(Dn : Int) ≤ 10 * (N - k * Dn) := Int.le_of_mul_le_mul_right (a := One) (by rw [Int.neg_mul, Int.mul_comm Dn One, ← Int.neg_mul]; exact a1) ho
    have b2 : 10 * ((N : Int) - k * Dn) ≤ Dn := Int.le_of_mul_le_mul_right (a := One) (by rw [Int.mul_comm Dn One]; exact a2) ho
    have hk := hnear k
    have c1 : ((Dn * k : Nat) : Int) = k * Dn := by rw [Int.natCast_mul, Int.mul_comm]
    rcases Nat.lt_trichotomy hh k with q | q | q
    · have : Dn * (hh + 1) ≤ Dn * k := Nat.mul_le_mul_left Dn q
      rw [Nat.mul_add, Nat.mul_one] at this
      generalize Dn * hh = z1 at *
      generalize hz : Dn * k = z2 at *
      generalize (k : Int) * Dn = z3 at *
      unfold dist at hk
      clear a1 a2 e3 l1 l2 h1 h1' hv hnear lo hi hn he
      omega
    · exact q
    · have : Dn * (k + 1) ≤ Dn * hh := Nat.mul_le_mul_left Dn q
      rw [Nat.mul_add, Nat.mul_one] at this
      generalize Dn * hh = z1 at *
      generalize hz : Dn * k = z2 at *
      generalize (k : Int) * Dn = z3 at *
      unfold dist at hk
      clear a1 a2 e3 l1 l2 h1 h1' hv hnear lo hi hn he
      omega
  cases s with
  | false =>
    have : val p = X := hv
    rw [key n (by omega) (by omega)]; rfl
  | true =>
    have hv : val p = -(X : Int) := hv
    have hn0 : n = 0 := by
      rcases Nat.eq_zero_or_pos n with h | h
      · exact h
      · exfalso
        have : One ≤ n * One := by
          have := Int.mul_le_mul_of_nonneg_right (show (1 : Int) ≤ n by omega) (Int.le_of_lt ho)
          omega
        omega
    subst hn0
    rw [key 0 (by omega) (by omega)]; rfl

theorem k_fin (x : UInt64) (b : Bool) (m : Nat) (e : Int) (C : Int) (h : decode x = .fin b m e) (h1 : decide (-(2 ^ 1074) ≤ 1000000000 * sgn b (m * 2 ^ (e + 1074).toNat) - C * 2 ^ 1074) = true)
    (h2 : decide (1000000000 * sgn b (m * 2 ^ (e + 1074).toNat) - C * 2 ^ 1074 ≤ 2 ^ 1074) = true) : Fin1 x ∧ -One ≤ 1000000000 * val x - C * One ∧ 1000000000 * val x - C * One ≤ One := by
  refine ⟨⟨b, m, e, h⟩, ?_⟩
  rw [val_eq h]
  exact ⟨of_decide_eq_true h1, of_decide_eq_true h2⟩
end

section
open PySem.Float64

theorem k30 : Fin1 4599075939470750515 ∧ -One ≤ 1000000000 * val 4599075939470750515 - 300000000 * One ∧ 1000000000 * val 4599075939470750515 - 300000000 * One ≤ One :=
  k_fin 4599075939470750515 false 5404319552844595 (-54) 300000000 (by kernel_rfl) (by decide +kernel) (by decide +kernel)
theorem k59 : Fin1 4603489467105573601 ∧ -One ≤ 1000000000 * val 4603489467105573601 - 590000000 * One ∧ 1000000000 * val 4603489467105573601 - 590000000 * One ≤ One :=
  k_fin 4603489467105573601 false 5314247560297185 (-53) 590000000 (by kernel_rfl) (by decide +kernel) (by decide +kernel)
theorem k11 : Fin1 4592590756007337001 ∧ -One ≤ 1000000000 * val 4592590756007337001 - 110000000 * One ∧ 1000000000 * val 4592590756007337001 - 110000000 * One ≤ One :=
  k_fin 4592590756007337001 false 7926335344172073 (-56) 110000000 (by kernel_rfl) (by decide +kernel) (by decide +kernel)
theorem k74 : Fin1 4604840546993784750 ∧ -One ≤ 1000000000 * val 4604840546993784750 - 740000000 * One ∧ 1000000000 * val 4604840546993784750 - 740000000 * One ≤ One :=
  k_fin 4604840546993784750 false 6665327448508334 (-53) 740000000 (by kernel_rfl) (by decide +kernel) (by decide +kernel)
theorem k27 : Fin1 4598535507515466056 ∧ -One ≤ 1000000000 * val 4598535507515466056 - 270000000 * One ∧ 1000000000 * val 4598535507515466056 - 270000000 * One ≤ One :=
  k_fin 4598535507515466056 false 4863887597560136 (-54) 270000000 (by kernel_rfl) (by decide +kernel) (by decide +kernel)
theorem k48 : Fin1 4602318531202457272 ∧ -One ≤ 1000000000 * val 4602318531202457272 - 480000000 * One ∧ 1000000000 * val 4602318531202457272 - 480000000 * One ≤ One :=
  k_fin 4602318531202457272 false 8646911284551352 (-54) 480000000 (by kernel_rfl) (by decide +kernel) (by decide +kernel)
theorem k41 : Fin1 4601057523306793533 ∧ -One ≤ 1000000000 * val 4601057523306793533 - 410000000 * One ∧ 1000000000 * val 4601057523306793533 - 410000000 * One ≤ One :=
  k_fin 4601057523306793533 false 7385903388887613 (-54) 410000000 (by kernel_rfl) (by decide +kernel) (by decide +kernel)
theorem kr1 : Fin1 4606703976345377586 ∧ -One ≤ 1000000000 * val 4606703976345377586 - 946882217 * One ∧ 1000000000 * val 4606703976345377586 - 946882217 * One ≤ One :=
  k_fin 4606703976345377586 false 8528756800101170 (-53) 946882217 (by kernel_rfl) (by decide +kernel) (by decide +kernel)
theorem kr2 : Fin1 4603791717925830846 ∧ -One ≤ 1000000000 * val 4603791717925830846 - 623556582 * One ∧ 1000000000 * val 4603791717925830846 - 623556582 * One ≤ One :=
  k_fin 4603791717925830846 false 5616498380554430 (-53) 623556582 (by kernel_rfl) (by decide +kernel) (by decide +kernel)
theorem kg1 : Fin1 4598621754083818298 ∧ -One ≤ 1000000000 * val 4598621754083818298 - 274787646 * One ∧ 1000000000 * val 4598621754083818298 - 274787646 * One ≤ One :=
  k_fin 4598621754083818298 false 4950134165912378 (-54) 274787646 (by kernel_rfl) (by decide +kernel) (by decide +kernel)
theorem kg2 : Fin1 4603901015759978483 ∧ -One ≤ 1000000000 * val 4603901015759978483 - 635691079 * One ∧ 1000000000 * val 4603901015759978483 - 635691079 * One ≤ One :=
  k_fin 4603901015759978483 false 5725796214702067 (-53) 635691079 (by kernel_rfl) (by decide +kernel) (by decide +kernel)
theorem kb1 : Fin1 4607671262177584182 ∧ -One ≤ 1000000000 * val 4607671262177584182 - 1108545035 * One ∧ 1000000000 * val 4607671262177584182 - 1108545035 * One ≤ One :=
  k_fin 4607671262177584182 false 4992443004937270 (-52) 1108545035 (by kernel_rfl) (by decide +kernel) (by decide +kernel)
theorem kb2 : Fin1 4610375502138591871 ∧ -One ≤ 1000000000 * val 4610375502138591871 - 1709006928 * One ∧ 1000000000 * val 4610375502138591871 - 1709006928 * One ≤ One :=
  k_fin 4610375502138591871 false 7696682965944959 (-52) 1709006928 (by kernel_rfl) (by decide +kernel) (by decide +kernel)
theorem k16 : Fin1 (Float64.ofInt 16) ∧ -One ≤ 1000000000 * val (Float64.ofInt 16) - 16000000000 * One ∧ 1000000000 * val (Float64.ofInt 16) - 16000000000 * One ≤ One :=
  k_fin (Float64.ofInt 16) false (2 ^ 52) (-48) 16000000000 (by kernel_rfl) (by decide +kernel) (by decide +kernel)

theorem luma_nr {r g b : UInt64} (hr : Nr r (1000000000 * val r) 0 2) (hg : Nr g (1000000000 * val g) 0 2) (hb : Nr b (1000000000 * val b) 0 2) : Nr (lumaF r g b) (300000000 * val r + 590000000 * val g + 110000000 * val b) 11 11 := by
  unfold lumaF
  have h := add_nr (add_nr (mul_nr k30.1 k30.2.1 k30.2.2 (by decide) (by decide) 1 (by decide) hr (by decide)) (mul_nr k59.1 k59.2.1 k59.2.2 (by decide) (by decide) 1 (by decide) hg (by decide)) (by decide)) (mul_nr k11.1 k11.2.1 k11.2.2 (by decide) (by decide) 1 (by decide) hb (by decide)) (by decide)
  exact h
theorem diff_nr {r y : UInt64} {V W : Int} {k l : Nat} (hr : Nr r V k 2) (hy : Nr y W l 11) : Nr (Float64.sub r y) (1000000000 * val r - 1000000000 * val y) 1 14 := by
  have h := sub_nr hr.self hy.self (by decide)
  exact h
theorem warm_nr {r g b : UInt64} (hr : Nr r (1000000000 * val r) 0 2) (hg : Nr g (1000000000 * val g) 0 2) (hb : Nr b (1000000000 * val b) 0 2) :
    Nr (warmF r g b) (740000000 * val (Float64.sub r (lumaF r g b)) - 270000000 * val (Float64.sub b (lumaF r g b))) 31 31 := by
  unfold warmF
  have h := sub_nr (mul_nr k74.1 k74.2.1 k74.2.2 (by decide) (by decide) 1 (by decide) (diff_nr hr (luma_nr hr hg hb)) (by decide)) (mul_nr k27.1 k27.2.1 k27.2.2 (by decide) (by decide) 1 (by decide) (diff_nr hb (luma_nr hr hg hb)) (by decide)) (by decide)
  exact h
theorem cold_nr {r g b : UInt64} (hr : Nr r (1000000000 * val r) 0 2) (hg : Nr g (1000000000 * val g) 0 2) (hb : Nr b (1000000000 * val b) 0 2) :
    Nr (coldF r g b) (480000000 * val (Float64.sub r (lumaF r g b)) + 410000000 * val (Float64.sub b (lumaF r g b))) 31 31 := by
  unfold coldF
  have h := add_nr (mul_nr k48.1 k48.2.1 k48.2.2 (by decide) (by decide) 1 (by decide) (diff_nr hr (luma_nr hr hg hb)) (by decide)) (mul_nr k41.1 k41.2.1 k41.2.2 (by decide) (by decide) 1 (by decide) (diff_nr hb (luma_nr hr hg hb)) (by decide)) (by decide)
  exact h
theorem red_nr {y i q : UInt64} {U V W : Int} {k l m : Nat} (hy : Nr y U k 11) (hi : Nr i V l 31) (hq : Nr q W m 31) : Nr (redF y i q) (1000000000 * val y + 946882217 * val i + 623556582 * val q) 66 77 := by
  unfold redF
  have h := add_nr (add_nr hy.self (mul_nr kr1.1 kr1.2.1 kr1.2.2 (by decide) (by decide) 1 (by decide) hi (by decide)) (by decide)) (mul_nr kr2.1 kr2.2.1 kr2.2.2 (by decide) (by decide) 1 (by decide) hq (by decide)) (by decide)
  exact h
theorem green_nr {y i q : UInt64} {U V W : Int} {k l m : Nat} (hy : Nr y U k 11) (hi : Nr i V l 31) (hq : Nr q W m 31) : Nr (greenF y i q) (1000000000 * val y - 274787646 * val i - 635691079 * val q) 66 77 := by
  unfold greenF
  have h := sub_nr (sub_nr hy.self (mul_nr kg1.1 kg1.2.1 kg1.2.2 (by decide) (by decide) 1 (by decide) hi (by decide)) (by decide)) (mul_nr kg2.1 kg2.2.1 kg2.2.2 (by decide) (by decide) 1 (by decide) hq (by decide)) (by decide)
  exact h
theorem blue_nr {y i q : UInt64} {U V W : Int} {k l m : Nat} (hy : Nr y U k 11) (hi : Nr i V l 31) (hq : Nr q W m 31) : Nr (blueF y i q) (1000000000 * val y - 1108545035 * val i + 1709006928 * val q) 66 139 := by
  unfold blueF
  have h := add_nr (sub_nr hy.self (mul_nr kb1.1 kb1.2.1 kb1.2.2 (by decide) (by decide) 2 (by decide) hi (by decide)) (by decide)) (mul_nr kb2.1 kb2.2.1 kb2.2.2 (by decide) (by decide) 2 (by decide) hq (by decide)) (by decide)
  exact h

theorem comb_red (O r g b y d e i q R : Int) (ho : 0 < O) (y1 : -(11 * O) ≤ 1000000000 * y - (300000000 * r + 590000000 * g + 110000000 * b)) (y2 : 1000000000 * y - (300000000 * r + 590000000 * g + 110000000 * b) ≤ 11 * O)
    (d1 : -(1 * O) ≤ 1000000000 * d - (1000000000 * r - 1000000000 * y)) (d2 : 1000000000 * d - (1000000000 * r - 1000000000 * y) ≤ 1 * O) (e1 : -(1 * O) ≤ 1000000000 * e - (1000000000 * b - 1000000000 * y)) (e2 : 1000000000 * e - (1000000000 * b - 1000000000 * y) ≤ 1 * O)
    (i1 : -(31 * O) ≤ 1000000000 * i - (740000000 * d - 270000000 * e)) (i2 : 1000000000 * i - (740000000 * d - 270000000 * e) ≤ 31 * O) (q1 : -(31 * O) ≤ 1000000000 * q - (480000000 * d + 410000000 * e)) (q2 : 1000000000 * q - (480000000 * d + 410000000 * e) ≤ 31 * O)
    (b1 : -(4 * O) ≤ r) (b2 : r ≤ 4 * O) (b3 : -(4 * O) ≤ g) (b4 : g ≤ 4 * O) (b5 : -(4 * O) ≤ b) (b6 : b ≤ 4 * O) (R1 : -(66 * O) ≤ 1000000000 * R - (1000000000 * y + 946882217 * i + 623556582 * q)) (R2 : 1000000000 * R - (1000000000 * y + 946882217 * i + 623556582 * q) ≤ 66 * O) : -O ≤ 100000 * (R - r) ∧ 100000 * (R - r) ≤ O := by
  constructor <;> grind
theorem comb_green (O r g b y d e i q R : Int) (ho : 0 < O) (y1 : -(11 * O) ≤ 1000000000 * y - (300000000 * r + 590000000 * g + 110000000 * b)) (y2 : 1000000000 * y - (300000000 * r + 590000000 * g + 110000000 * b) ≤ 11 * O)
    (d1 : -(1 * O) ≤ 1000000000 * d - (1000000000 * r - 1000000000 * y)) (d2 : 1000000000 * d - (1000000000 * r - 1000000000 * y) ≤ 1 * O) (e1 : -(1 * O) ≤ 1000000000 * e - (1000000000 * b - 1000000000 * y)) (e2 : 1000000000 * e - (1000000000 * b - 1000000000 * y) ≤ 1 * O)
    (i1 : -(31 * O) ≤ 1000000000 * i - (740000000 * d - 270000000 * e)) (i2 : 1000000000 * i - (740000000 * d - 270000000 * e) ≤ 31 * O) (q1 : -(31 * O) ≤ 1000000000 * q - (480000000 * d + 410000000 * e)) (q2 : 1000000000 * q - (480000000 * d + 410000000 * e) ≤ 31 * O)
    (b1 : -(4 * O) ≤ r) (b2 : r ≤ 4 * O) (b3 : -(4 * O) ≤ g) (b4 : g ≤ 4 * O) (b5 : -(4 * O) ≤ b) (b6 : b ≤ 4 * O) (R1 : -(66 * O) ≤ 1000000000 * R - (1000000000 * y - 274787646 * i - 635691079 * q)) (R2 : 1000000000 * R - (1000000000 * y - 274787646 * i - 635691079 * q) ≤ 66 * O) : -O ≤ 100000 * (R - g) ∧ 100000 * (R - g) ≤ O := by
  constructor <;> grind
theorem comb_blue (O r g b y d e i q R : Int) (ho : 0 < O) (y1 : -(11 * O) ≤ 1000000000 * y - (300000000 * r + 590000000 * g + 110000000 * b)) (y2 : 1000000000 * y - (300000000 * r + 590000000 * g + 110000000 * b) ≤ 11 * O)
    (d1 : -(1 * O) ≤ 1000000000 * d - (1000000000 * r - 1000000000 * y)) (d2 : 1000000000 * d - (1000000000 * r - 1000000000 * y) ≤ 1 * O) (e1 : -(1 * O) ≤ 1000000000 * e - (1000000000 * b - 1000000000 * y)) (e2 : 1000000000 * e - (1000000000 * b - 1000000000 * y) ≤ 1 * O)
    (i1 : -(31 * O) ≤ 1000000000 * i - (740000000 * d - 270000000 * e)) (i2 : 1000000000 * i - (740000000 * d - 270000000 * e) ≤ 31 * O) (q1 : -(31 * O) ≤ 1000000000 * q - (480000000 * d + 410000000 * e)) (q2 : 1000000000 * q - (480000000 * d + 410000000 * e) ≤ 31 * O)
    (b1 : -(4 * O) ≤ r) (b2 : r ≤ 4 * O) (b3 : -(4 * O) ≤ g) (b4 : g ≤ 4 * O) (b5 : -(4 * O) ≤ b) (b6 : b ≤ 4 * O) (R1 : -(66 * O) ≤ 1000000000 * R - (1000000000 * y - 1108545035 * i + 1709006928 * q)) (R2 : 1000000000 * R - (1000000000 * y - 1108545035 * i + 1709006928 * q) ≤ 66 * O) : -O ≤ 100000 * (R - b) ∧ 100000 * (R - b) ≤ O := by
  constructor <;> grind
theorem tells_of {x : UInt64} {a : Int} (hx : Fin1 x) (h1 : -4 ≤ a) (h2 : a ≤ 20) (lo : -One ≤ 1000 * (16 * val x - a * One)) (hi : 1000 * (16 * val x - a * One) ≤ One) : tellsW x (clI a) := by
  have ho := one_pos
  obtain ⟨fc, hc⟩ := clamp_near hx
  have c1 : Nr (clampF x) (1000000000 * val (clampF x)) 0 1 := by
    refine ⟨fc, by simp, ?_⟩
    have : ((1 : Nat) : Int) * One = One := by simp
    rw [this]
    clear lo hi h1 h2
    constructor <;> omega
  obtain ⟨fp, ⟨p1, p2⟩, -⟩ := mul_nr k16.1 k16.2.1 k16.2.2 (by decide) (by decide) 16 (by decide) c1 (by decide)
  have hcl : ∃ n : Nat, clI a = n ∧ ((a < 0 ∧ n = 0) ∨ (0 ≤ a ∧ a ≤ 16 ∧ a = n) ∨ (16 < a ∧ n = 16)) := by
    clear p1 p2 lo hi hc
    unfold clI
    by_cases q1 : a < 0
    · exact ⟨0, by rw [if_pos (show (0 : Int) > a from q1)]; rfl, .inl ⟨q1, rfl⟩⟩
    · rw [if_neg (show ¬ (0 : Int) > a from q1)]
      by_cases q2 : 16 < a
      · exact ⟨16, by rw [if_pos q2]; rfl, .inr (.inr ⟨q2, rfl⟩)⟩
      · exact ⟨a.toNat, by rw [if_neg q2]; omega, .inr (.inl ⟨by omega, by omega, by omega⟩)⟩
  obtain ⟨n, hn, hcase⟩ := hcl
  refine ⟨isFin_of fp, ?_⟩
  rw [hn]
  unfold partF
  have e2 : ((1 + 1 : Nat) : Int) * One = 2 * One := by simp
  rw [e2] at p1 p2
  generalize Float64.mul (Float64.ofInt 16) (clampF x) = z at *
  -- the part cut, against the lamp cut
  have key : -One ≤ 100 * (16 * val (clampF x) - n * One) ∧ 100 * (16 * val (clampF x) - n * One) ≤ One := by
    clear p1 p2 fp fc c1 hx hn
    have mono : ∀ {p q : Int}, p ≤ q → p * One ≤ q * One := fun h => Int.mul_le_mul_of_nonneg_right h (Int.le_of_lt ho)
    generalize val (clampF x) = vc at *
    generalize val x = vx at *
    rcases hcase with ⟨h, rfl⟩ | ⟨h, h', e⟩ | ⟨h, rfl⟩
    · have := mono (show a ≤ -1 by omega)
      generalize a * One = ao at *
      clear h1 h2 h
      constructor <;> omega
    · subst e
      have := mono h
      have := mono h'
      generalize (n : Int) * One = ao at *
      clear h1 h2 h h'
      constructor <;> omega
    · have := mono (show 17 ≤ a by omega)
      generalize a * One = ao at *
      clear h1 h2 h
      constructor <;> omega
  clear hcase lo hi hc c1 h1 h2 e2
  refine round_near fp ?_ ?_
  all_goals
    clear fp fc hx hn
    generalize val z = vz at *
    generalize val (clampF x) = vc at *
    generalize (n : Int) * One = no at *
    omega

theorem back {x : UInt64} {a : Int} (hx : Fin1 x) (h1 : -4 ≤ a) (h2 : a ≤ 20) (h : -One ≤ 100000 * (val x - val (fr a)) ∧ 100000 * (val x - val (fr a)) ≤ One) : tellsW x (clI a) := by
  obtain ⟨f, p, q⟩ := fr_near h1 h2
  have ho := one_pos
  refine tells_of hx h1 h2 ?_ ?_
  all_goals
    clear hx f h1 h2
    generalize a * One = ao at *
    generalize val (fr a) = va at *
    generalize val x = vx at *
    omega

theorem bnd2 {x : UInt64} {V : Int} {k : Nat} (h : Nr x V k 2) : -(4 * One) ≤ val x ∧ val x ≤ 4 * One := by
  have ho := one_pos
  obtain ⟨_, _, a, b⟩ := h
  have e : ((2 : Nat) : Int) * One = 2 * One := rfl
  rw [e] at a b
  omega
set_option maxHeartbeats 4000000 in
theorem filmOk : FilmOk := by
  refine ⟨fun a h1 h2 => isInf_of (fr_near h1 h2).1, fun a b c a1 a2 b1 b2 c1 c2 => ?_⟩
  have ho := one_pos
  have r := fr_nr a1 a2
  have g := fr_nr b1 b2
  have b' := fr_nr c1 c2
  have y := luma_nr r g b'
  have i := warm_nr r g b'
  have q := cold_nr r g b'
  have d := diff_nr r y
  have e := diff_nr b' y
  have R := red_nr y i q
  have G := green_nr y i q
  have B := blue_nr y i q
  have h1 := bnd2 r
  have h2 := bnd2 g
  have h3 := bnd2 b'
  exact ⟨back R.1 a1 a2 (comb_red _ _ _ _ _ _ _ _ _ _ ho y.2.1.1 y.2.1.2 d.2.1.1 d.2.1.2 e.2.1.1 e.2.1.2 i.2.1.1 i.2.1.2 q.2.1.1 q.2.1.2 h1.1 h1.2 h2.1 h2.2 h3.1 h3.2 R.2.1.1 R.2.1.2),
    back G.1 b1 b2 (comb_green _ _ _ _ _ _ _ _ _ _ ho y.2.1.1 y.2.1.2 d.2.1.1 d.2.1.2 e.2.1.1 e.2.1.2 i.2.1.1 i.2.1.2 q.2.1.1 q.2.1.2 h1.1 h1.2 h2.1 h2.2 h3.1 h3.2 G.2.1.1 G.2.1.2),
    back B.1 c1 c2 (comb_blue _ _ _ _ _ _ _ _ _ _ ho y.2.1.1 y.2.1.2 d.2.1.1 d.2.1.2 e.2.1.1 e.2.1.2 i.2.1.1 i.2.1.2 q.2.1.1 q.2.1.2 h1.1 h1.2 h2.1 h2.2 h3.1 h3.2 B.2.1.1 B.2.1.2)⟩
end

theorem init_at (P : Params) : ∃ scope p1 p2 p3 p4, (∀ h, KX P h → FnAt h 81 scope [.Assign [.Attribute (.Name (Str.ofString "self") p1) (Str.ofString "comp_select_list") p2] (.Name (Str.ofString "comp_select_list") p3) p4] [Str.ofString "self", Str.ofString "comp_select_list"]) ∧
    scFn scope [Str.ofString "self", Str.ofString "comp_select_list"] = true ∧ scope.names.lookup (Str.ofString "self") = some .local ∧ scope.names.lookup (Str.ofString "comp_select_list") = some .local :=
  ⟨_, _, _, _, _, fun h X => ⟨_, _, X 81 _ rfl, rfl, rfl, rfl, rfl, rfl, rfl, codeRec_of X (by kernel_rfl), len2 fun a b => rfl⟩, by decide +kernel, by decide +kernel, by decide +kernel⟩

noncomputable def newW (ds : List D) (post : D → Prop) : Prop := ∃ d, ds = [d] ∧ post (.duel d)

section
variable {prog : Program} {w : World} {fa : Str → Option Addr}

set_option maxHeartbeats 4000000 in
theorem new_snd (P : Params) (n : Nat) : Fn1 prog w 91 fa (KX P) (n + 1) 91 newW where
  keep := fun h wd => by
    obtain ⟨k, hk, hl⟩ := looks_keep (M := model prog w) (k_keep P) wd.more
    exact ⟨k, hk.elim .inl fun e => .inr (.inl e), hl⟩
  go := fun {A E Q s σ vs ds post} R hs wd r hp hQ => by
    obtain ⟨d, rfl, hp⟩ := hp
    · cases r with
      | @cons v _ _ _ rv rn =>
      cases rn
      obtain ⟨hh, g, dr, t, os⟩ := s
      have K : KX P hh := wd.more
      refine wpAny_call (make_core (makes_of K (k_makes P)) (looks_findIn K (k_init P)) (fun self => bind_fn K self (k_t81 P)) (.inl rfl) ?_)
      obtain ⟨scope, p1, p2, p3, p4, hFn, hst, hl1, hl2⟩ := init_at P
      have kk : Kept hh ((hh.push emptyDict).push (instObj 91 hh.objs.size)) := (Kept.push _ _).trans (Kept.push _ _)
      have wd2 := wd.keep kk
      obtain ⟨o, fd, ho, hdt, hsc, hbody, hclo, hglob, hbuilt, hcode, hbind⟩ := hFn _ wd2.more
      have hst' := hst
      unfold scFn at hst'
      simp only [Bool.and_eq_true, Bool.not_eq_true', beq_iff_eq, decide_eq_true_eq, List.all_eq_true] at hst'
      obtain ⟨hkind, hco, hgen, hnd, hfree, hps, hpn⟩ := hst'
      refine codeAny_call_cells (by have := R.depth; have hwt : (Code.builtin "type.__call__" ⟨[.ref 91, v], []⟩).weight ≤ 1 := (by first | exact Nat.le_of_eq (by kernel_rfl) | exact Nat.le_of_eq_of_le (show _ = 0 by kernel_rfl) (by decide)); show A.depth + _ < _; omega) ho hdt wd2.lim hcode hbody (hbind [.ref (hh.objs.size + 1), v] rfl) hclo (fun x hx => ?_) (fun s₁ x => ?_) (by rw [hsc]; exact hco) (by rw [hsc]; exact hgen) (by rw [hsc]; exact hkind)
      · rw [hsc]
        simp only [List.zip_cons_cons, List.zip_nil_right, List.mem_cons, List.not_mem_nil, or_false] at hx
        rcases hx with rfl | rfl
        · exact .inl hl1
        · exact .inl hl2
      · have hk1 : (callEnvC fd ((hh.push emptyDict).push (instObj 91 hh.objs.size)).objs.size 81).kindOf (Str.ofString "self") = some .local := by
          show fd.scope.names.lookup _ = _
          rw [hsc]; exact hl1
        have hk2 : (callEnvC fd ((hh.push emptyDict).push (instObj 91 hh.objs.size)).objs.size 81).kindOf (Str.ofString "comp_select_list") = some .local := by
          show fd.scope.names.lookup _ = _
          rw [hsc]; exact hl2
        have hnd : (([Str.ofString "self", Str.ofString "comp_select_list"].zip [Value.ref (hh.objs.size + 1), v]).map (·.1)).Nodup := by simp [strEq]
        have v1 := bindL_in (kindOf := (callEnvC fd ((hh.push emptyDict).push (instObj 91 hh.objs.size)).objs.size 81).kindOf) (x := Str.ofString "self") (v := .ref (hh.objs.size + 1)) _ (fun _ => none) hnd (by simp) hk1
        have v2 := bindL_in (kindOf := (callEnvC fd ((hh.push emptyDict).push (instObj 91 hh.objs.size)).objs.size 81).kindOf) (x := Str.ofString "comp_select_list") (v := v) _ (fun _ => none) hnd (by simp) hk2
        have hkf : (callEnvC fd ((hh.push emptyDict).push (instObj 91 hh.objs.size)).objs.size 81).scope.kind = .function := by show fd.scope.kind = _; rw [hsc]; exact hkind
        refine wpAny_execs_cons (plainObj_wpAny_Assign_Attribute (NameLC x hkf hk2 v2 (NameLC x hkf hk1 v1 ?_ (by decide +kernel)) (by decide +kernel)) (by with_unfolding_all rfl))
        obtain ⟨h₁, tk₁, rfl⟩ := x.toInCall.same
        have F : Fr hh (callEnvC fd ((hh.push emptyDict).push (instObj 91 hh.objs.size)).objs.size 81).locals h₁ _ := ⟨x.toInCall.ns, fun b o e => x.toInCall.keep b o (kk b o e), by show hh.objs.size ≤ ((hh.push emptyDict).push (instObj 91 hh.objs.size)).objs.size; simp only [Heap.size_push]; omega⟩
        have hx1 : ((hh.push emptyDict).push (instObj 91 hh.objs.size)).get? (hh.objs.size + 1) = some (instObj 91 hh.objs.size) := by heap_get
        have hx2 : ((hh.push emptyDict).push (instObj 91 hh.objs.size)).get? hh.objs.size = some emptyDict := by heap_get
        have hL : (callEnvC fd ((hh.push emptyDict).push (instObj 91 hh.objs.size)).objs.size 81).locals = hh.objs.size + 2 := by
          show ((hh.push emptyDict).push (instObj 91 hh.objs.size)).objs.size = _
          simp only [Heap.size_push]
        have g0 : hh.get? hh.objs.size = none := get?_size hh
        have g1 : hh.get? (hh.objs.size + 1) = none := by
          cases q : hh.get? (hh.objs.size + 1) with
          | none => rfl
          | some o => have l : hh.objs.size + 1 < hh.objs.size := Heap.lt_size q
                      exact absurd l (by omega)
        have N : News hh (callEnvC fd ((hh.push emptyDict).push (instObj 91 hh.objs.size)).objs.size 81).locals h₁ [(hh.objs.size + 1, instObj 91 hh.objs.size), (hh.objs.size, emptyDict)] := by
          intro p hp
          simp only [List.mem_cons, List.not_mem_nil, or_false] at hp
          rcases hp with rfl | rfl
          · exact ⟨x.toInCall.keep _ _ hx1, by rw [hL]; show hh.objs.size + 1 ≠ hh.objs.size + 2; omega, g1⟩
          · exact ⟨x.toInCall.keep _ _ hx2, by rw [hL]; show hh.objs.size ≠ hh.objs.size + 2; omega, g0⟩
        have I : InstAt h₁ (hh.objs.size + 1) (instObj 91 hh.objs.size) 91 (some (dictOf [] 0)) := ⟨x.toInCall.keep _ _ hx1, rfl, rfl, x.toInCall.keep _ _ hx2⟩
        refine set_dict (K := hd.heap_1 P) (es := []) (n := 0) F K N I rfl (k_set P) (k_over P) (k_taker P) (k_has P) rfl rfl (.tail (by show hh.objs.size + 1 ≠ hh.objs.size; omega) (.head (by simp))) (show 1 ≤ 1000 by decide) fun h' F' N' => ?_
        refine wpAny_execs_nil ?_
        refine ⟨rfl, ?_⟩
        have M1 := (N' _ (.tail _ (.head _))).1
        have M2 := (N' _ (.head _)).1
        have n0 : σ hh.objs.size = none := none_of_sub hs g0
        have n1 : σ (hh.objs.size + 1) = none := none_of_sub hs g1
        refine hQ _ hp _ (addS (addS σ hh.objs.size _) (hh.objs.size + 1) _) h' _ ⟨?_, addS_sub (addS_sub (hs.keep F'.keep) M1) M2, F'.keep, ?_⟩ ?_
        · refine (addS_le n0).trans (addS_le ?_)
          unfold addS
          rw [if_neg (show ¬ (hh.objs.size + 1 = hh.objs.size) by omega)]; exact n1
        · exact fun b e se => addS_new g1 b (addS_new g0 b e se) se
        · have l1 : Le σ (addS (addS σ hh.objs.size (dictOf (putL (Str.ofString "comp_select_list") (PyData.keyHash w.params (Str.ofString "comp_select_list")) (.str (Str.ofString "comp_select_list") (tk₁ + 1)) v []) 1)) (hh.objs.size + 1) (instObj 91 hh.objs.size)) := by
            refine (addS_le n0).trans (addS_le ?_)
            unfold addS
            rw [if_neg (show ¬ (hh.objs.size + 1 = hh.objs.size) by omega)]; exact n1
          refine .duel (dx := hh.objs.size) (es := putL (Str.ofString "comp_select_list") (PyData.keyHash w.params (Str.ofString "comp_select_list")) (.str (Str.ofString "comp_select_list") (tk₁ + 1)) v []) (n := 1) (v := v) (addS_self _ _ _) ?_ ⟨?_, ?_⟩ (rv.mono l1)
          · unfold addS
            rw [if_neg (show ¬ (hh.objs.size = hh.objs.size + 1) by omega), if_pos rfl]; rfl
          · rfl
          · rfl
end

noncomputable def tab : Tab where
  fn f := if f = "rgb_to_yiq" then rgbW else if f = "yiq_to_rgb" then yiqW else if f = "parse257" then parseW else if f = "Int2AP" then apW else if f = "add_callers" then addW else if f = "count_calls" then countW
    else if f = "_law_lamps" then lampsW else if f = "_law_film" then filmW else if f = "_law_duels" then duelsW else if f = "_law_number" then numberW else if f = "_law_wins" then winsW else if f = "_law_plain" then plainW
    else if f = "_law_rings" then ringsW else if f = "TupleComp" then newW else fun _ _ => False
  cmp := duelW
theorem g_rgb : tab.fn "rgb_to_yiq" = rgbW := by simp only [tab, strEq, String.reduceEq, if_true, if_false]
theorem g_yiq : tab.fn "yiq_to_rgb" = yiqW := by simp only [tab, strEq, String.reduceEq, if_true, if_false]
theorem g_parse : tab.fn "parse257" = parseW := by simp only [tab, strEq, String.reduceEq, if_true, if_false]
theorem g_ap : tab.fn "Int2AP" = apW := by simp only [tab, strEq, String.reduceEq, if_true, if_false]
theorem g_add : tab.fn "add_callers" = addW := by simp only [tab, strEq, String.reduceEq, if_true, if_false]
theorem g_count : tab.fn "count_calls" = countW := by simp only [tab, strEq, String.reduceEq, if_true, if_false]
theorem g_lamps : tab.fn "_law_lamps" = lampsW := by simp only [tab, strEq, String.reduceEq, if_true, if_false]
theorem g_film : tab.fn "_law_film" = filmW := by simp only [tab, strEq, String.reduceEq, if_true, if_false]
theorem g_duels : tab.fn "_law_duels" = duelsW := by simp only [tab, strEq, String.reduceEq, if_true, if_false]
theorem g_number : tab.fn "_law_number" = numberW := by simp only [tab, strEq, String.reduceEq, if_true, if_false]
theorem g_wins : tab.fn "_law_wins" = winsW := by simp only [tab, strEq, String.reduceEq, if_true, if_false]
theorem g_plain : tab.fn "_law_plain" = plainW := by simp only [tab, strEq, String.reduceEq, if_true, if_false]
theorem g_rings : tab.fn "_law_rings" = ringsW := by simp only [tab, strEq, String.reduceEq, if_true, if_false]
theorem g_comp : tab.fn "TupleComp" = newW := by simp only [tab, strEq, String.reduceEq, if_true, if_false]

theorem pyD_ints (L : List Int) : pyD (dI L) = some (.list (L.map PyData.int)) := by
  have : pyD.go (L.map D.int) = some (L.map PyData.int) := by
    induction L with
    | nil => rfl
    | cons a r ih => simp only [List.map_cons, pyD.go, ih]; rfl
  unfold pyD
  rw [this]; rfl
theorem pyD_dII (L : List (List Int)) : pyD (dII L) = some (.list (L.map fun l => .list (l.map PyData.int))) := by
  have : pyD.go (L.map dI) = some (L.map fun l => .list (l.map PyData.int)) := by
    induction L with
    | nil => rfl
    | cons a r ih => simp only [List.map_cons, pyD.go, ih, pyD_ints]
  unfold pyD
  rw [this]; rfl
theorem c_self {ds : List D} {p : PyData} {pb : Bool → Prop} (h : pyD (.list ds) = some p) (hs : PySem.SeqAt.shaped p = true) : cmpW .NotEq (.list ds) (.list ds) pb = pb false := by
  show (match pyD (.list ds), pyD (.list ds) with | some p, some q => (PySem.SeqAt.shaped p = true ∧ PySem.SeqAt.shaped q = true) ∧ pb (!PyData.eqv p q) | _, _ => False) = _
  rw [h]
  simp only [hs, and_self, true_and]
  rw [PySem.SeqAt.eqv_refl p (PySem.SeqAt.canLay_of_shaped hs)]; rfl

noncomputable def allNames : List PySem.Str := ["rgb_to_yiq", "yiq_to_rgb", "parse257", "Int2AP", "add_callers", "count_calls", "_law_lamps", "_law_film", "_law_duels", "_law_number", "_law_wins", "_law_plain", "_law_rings", "TupleComp", "compare"]
noncomputable def lawW (ds : List D) (post : D → Prop) : Prop := ∃ ns : List Int, ds = [.list (ns.map D.int)] ∧ ns.length ≤ 63 ∧ post (.bool true)

noncomputable def fnList : List (PySem.Str × Addr) := [("rgb_to_yiq", 21), ("yiq_to_rgb", 28), ("parse257", 60), ("Int2AP", 67), ("TupleComp", 91), ("add_callers", 102), ("count_calls", 109), ("_law_lamps", 114), ("_law_film", 119), ("_law_duels", 124), ("_law_number", 131),
  ("_law_wins", 136), ("_law_plain", 141), ("_law_rings", 146)]
noncomputable def fa (f : PySem.Str) : Option Addr := fnList.lookup f

section
variable {prog : Program} {w : World}
theorem Room.le {n m : Nat} {A : Around} (h : n ≤ m) (R : Room m A) : Room n A := ⟨R.handled, by have := R.depth; omega, by have := R.units; omega⟩
theorem Fn1.le {C : Addr} {fa : PySem.Str → Option Addr} {X : Heap → Prop} {n m : Nat} {a : Addr} {W : List D → (D → Prop) → Prop} (h : n ≤ m) (f : Fn1 prog w C fa X n a W) : Fn1 prog w C fa X m a W :=
  ⟨f.keep, fun R => f.go (R.le h)⟩
theorem Fn1.weak {C : Addr} {fa : PySem.Str → Option Addr} {X : Heap → Prop} {n : Nat} {a : Addr} {W W' : List D → (D → Prop) → Prop} (h : ∀ ds post, W ds post → W' ds post) (f : Fn1 prog w C fa X n a W') : Fn1 prog w C fa X n a W :=
  ⟨f.keep, fun R hs wd r hp hQ => f.go R hs wd r (h _ _ hp) hQ⟩
theorem Def1.fn {P : Params} {a : Addr} {nm : List PySem.Str} {Φ : Tab} {W : List D → (D → Prop) → Prop} {n : Nat} (d : Def1 P a nm Φ W) (hc : Calls prog w 91 fa (KX P) n nm Φ) : Fn1 prog w 91 fa (KX P) (n + 1) a W := by
  obtain ⟨scope, body, ps, h1, h2, h3, h4⟩ := d
  exact (def_snd hc (fun h wd => h1 h wd.more) h2 h3).weak h4

theorem calls_nil (P : Params) (n : Nat) (Φ : Tab) : Calls prog w 91 fa (KX P) n [] Φ where
  fn := fun f h => nomatch h
  cmp := fun h => nomatch h
  att := fun hs wd r hQ => att_snd P hs wd r hQ

theorem calls_film (P : Params) : Calls prog w 91 fa (KX P) 1 ["rgb_to_yiq", "yiq_to_rgb"] tab where
  fn := fun f h _ _ => by
    simp only [List.contains_iff_mem, List.mem_cons, List.not_mem_nil, or_false] at h
    rcases h with rfl | rfl
    · exact ⟨21, by decide +kernel, g_rgb ▸ (d_rgb P tab).fn (calls_nil P 0 tab)⟩
    · exact ⟨28, by decide +kernel, g_yiq ▸ (d_yiq P tab).fn (calls_nil P 0 tab)⟩
  cmp := fun h => absurd h (by decide +kernel)
  att := fun hs wd r hQ => att_snd P hs wd r hQ

theorem fn_cmp (P : Params) : Fn1 prog w 91 fa (KX P) 1 88 (fun ds post => ∃ d x y, ds = [.duel d, x, y] ∧ tab.cmp d x y post) :=
  (d_compare P tab).fn (calls_nil P 0 tab)
theorem calls_duels (P : Params) : Calls prog w 91 fa (KX P) 1 ["TupleComp", "compare"] tab where
  fn := fun f h hne _ => by
    simp only [List.contains_iff_mem, List.mem_cons, List.not_mem_nil, or_false] at h
    rcases h with rfl | rfl
    · exact ⟨91, by decide +kernel, g_comp ▸ new_snd P 0⟩
    · exact absurd rfl hne
  cmp := fun _ => ⟨88, fn_cmp P, fun hs wd r hQ => cmpm_snd P hs wd r hQ⟩
  att := fun hs wd r hQ => att_snd P hs wd r hQ

theorem calls_law (P : Params) : Calls prog w 91 fa (KX P) 2 allNames tab where
  fn := fun f h hne _ => by
    have nil := fun {a W} (d : Def1 P a [] tab W) => (d.fn (prog := prog) (w := w) (calls_nil P 0 tab)).le (show 1 ≤ 2 by decide)
    simp only [allNames, List.contains_iff_mem, List.mem_cons, List.not_mem_nil, or_false] at h
    rcases h with rfl | rfl | rfl | rfl | rfl | rfl | rfl | rfl | rfl | rfl | rfl | rfl | rfl | rfl | rfl
    · exact ⟨21, by decide +kernel, g_rgb ▸ nil (d_rgb P tab)⟩
    · exact ⟨28, by decide +kernel, g_yiq ▸ nil (d_yiq P tab)⟩
    · exact ⟨60, by decide +kernel, g_parse ▸ nil (d_parse P tab)⟩
    · exact ⟨67, by decide +kernel, g_ap ▸ nil (d_ap P tab)⟩
    · exact ⟨102, by decide +kernel, g_add ▸ nil (d_add P tab)⟩
    · exact ⟨109, by decide +kernel, g_count ▸ nil (d_count P tab)⟩
    · exact ⟨114, by decide +kernel, g_lamps ▸ nil (d_lamps P tab)⟩
    · exact ⟨119, by decide +kernel, g_film ▸ (d_film P tab (fun ds post h => by rw [g_rgb]; exact h) (fun ds post h => by rw [g_yiq]; exact h) filmOk).fn (calls_film P)⟩
    · exact ⟨124, by decide +kernel, g_duels ▸ (d_duels P tab (fun d post h => by rw [g_comp]; exact ⟨d, rfl, h⟩) (fun d x y post h => h)).fn (calls_duels P)⟩
    · exact ⟨131, by decide +kernel, g_number ▸ nil (d_number P tab)⟩
    · exact ⟨136, by decide +kernel, g_wins ▸ nil (d_wins P tab)⟩
    · exact ⟨141, by decide +kernel, g_plain ▸ nil (d_plain P tab)⟩
    · exact ⟨146, by decide +kernel, g_rings ▸ nil (d_rings P tab)⟩
    · exact ⟨91, by decide +kernel, g_comp ▸ (new_snd P 0).le (by decide)⟩
    · exact absurd rfl hne
  cmp := fun _ => ⟨88, (fn_cmp P).le (by decide), fun hs wd r hQ => cmpm_snd P hs wd r hQ⟩
  att := fun hs wd r hQ => att_snd P hs wd r hQ
end

theorem wd_top {w : World} {h : Heap} {mg mb : PySem.Str → Option Value} (K : KX w.params h) (G : h.Ns mainGlobals mg) (B : h.Ns builtinsNs mb) (hb : ∀ x : PySem.Str, x ≠ "__name__" → mb x = bootBuiltins x) (hl : h.NoLimit) : Wd fa (KX w.params) h where
  glob := fun f v e => by
    refine ⟨mg, mb, G, B, .inr ?_⟩
    unfold builtinVal at e
    iterate 11 (
      split at e
      · rename_i hf
        subst hf
        cases e
        exact ⟨mg_none_of K G (by kernel_rfl), (hb _ (strNe (by decide))).trans (by kernel_rfl)⟩)
    cases e
  fns := fun f a e => by
    refine ⟨mg, mb, G, B, .inl ?_⟩
    have hm := mem_of_lookup (show fnList.lookup f = some a from e)
    unfold fnList at hm
    simp only [List.mem_cons, List.not_mem_nil, or_false, Prod.mk.injEq] at hm
    rcases hm with ⟨rfl, rfl⟩ | ⟨rfl, rfl⟩ | ⟨rfl, rfl⟩ | ⟨rfl, rfl⟩ | ⟨rfl, rfl⟩ | ⟨rfl, rfl⟩ | ⟨rfl, rfl⟩ | ⟨rfl, rfl⟩ | ⟨rfl, rfl⟩ | ⟨rfl, rfl⟩ | ⟨rfl, rfl⟩ | ⟨rfl, rfl⟩ | ⟨rfl, rfl⟩ | ⟨rfl, rfl⟩
    all_goals exact mg_of K G (by kernel_rfl)
  lim := hl
  more := K
  keeps := fun h h' k x => fun a o e => k a o (x a o e)

noncomputable def hd0 (r : List Nat) : Nat := r.headD 0
noncomputable def phi (r : List Nat) : List Int := r.reverse.map fun x : Nat => (x : Int)
theorem phi_cons (x : Nat) (r : List Nat) : phi (x :: r) = phi r ++ [(x : Int)] := by simp [phi]
theorem phi_len (r : List Nat) : (phi r).length = r.length := by simp [phi]
theorem phi_last {r : List Nat} (h : r ≠ []) : lastI (phi r) = (hd0 r : Int) := by
  cases r with
  | nil => exact absurd rfl h
  | cons x r =>
    rw [phi_cons]
    unfold lastI
    have hl : (phi r ++ [(x : Int)]).length - 1 = (phi r).length := by simp
    rw [hl, getElem!_pos _ _ (by simp), List.getElem_append_right (Nat.le_refl _)]
    simp [hd0]
theorem phi_mem (r : List Nat) (x : Nat) : (phi r).contains (x : Int) = r.contains x := by
  rw [Bool.eq_iff_iff, List.contains_iff_mem, List.contains_iff_mem]
  unfold phi
  rw [List.mem_map]
  constructor
  · rintro ⟨y, hy, e⟩
    have : y = x := by omega
    subst this
    simpa using hy
  · intro h
    exact ⟨x, by simpa using h, rfl⟩

noncomputable def atT (T : List (List Bool)) (p o : Nat) : Bool := (T[p]!)[o]!

theorem sum_flat {α β γ : Type} (l : α → List β) (p : α → β → Bool) (g : α → β → γ) (c : γ → Nat) : ∀ rows : List α, ((rows.flatMap fun r => ((l r).filter (p r)).map (g r)).map c).sum = (rows.map fun r => ((l r).map fun x => if p r x = true then c (g r x) else 0).sum).sum
  | [] => rfl
  | r :: rows => by
    have h : ∀ xs : List β, (((xs.filter (p r)).map (g r)).map c).sum = (xs.map fun x => if p r x = true then c (g r x) else 0).sum := by
      intro xs
      induction xs with
      | nil => rfl
      | cons x xs ih =>
        simp only [List.map_cons, List.sum_cons]
        by_cases hx : p r x = true
        · rw [List.filter_cons_of_pos hx, if_pos hx]
          simp only [List.map_cons, List.sum_cons, ih]
        · rw [List.filter_cons_of_neg hx, if_neg hx, ih, Nat.zero_add]
    rw [List.flatMap_cons, List.map_append, List.sum_append, sum_flat l p g c rows, h, List.map_cons, List.sum_cons]

noncomputable def goesR (T : List (List Bool)) (r : List Nat) (x : Nat) : Bool := !r.contains x && atT T (hd0 r) x
noncomputable def stepR (T : List (List Bool)) (rows : List (List Nat)) : List (List Nat) := rows.flatMap fun r => ((List.range 5).filter (goesR T r)).map fun x => x :: r
noncomputable def pathsR (T : List (List Bool)) : Nat → List (List Nat) → List (List Nat)
  | 0, rows => rows
  | k + 1, rows => pathsR T k (stepR T rows)
noncomputable def cntR (T : List (List Bool)) : Nat → List Nat → Nat
  | 0, _ => 1
  | k + 1, r => ((List.range 5).map fun x => if goesR T r x = true then cntR T k (x :: r) else 0).sum
theorem sum_ones {α : Type} : ∀ l : List α, (l.map fun _ => 1).sum = l.length
  | [] => rfl
  | _ :: l => by simp only [List.map_cons, List.sum_cons, sum_ones l, List.length_cons]; omega
theorem pathsR_len (T : List (List Bool)) : ∀ k rows, (pathsR T k rows).length = (rows.map (cntR T k)).sum
  | 0, rows => by
    show rows.length = (rows.map fun _ => 1).sum
    rw [sum_ones]
  | k + 1, rows => by
    show (pathsR T k (stepR T rows)).length = _
    rw [pathsR_len T k]
    unfold stepR
    rw [sum_flat (fun _ => List.range 5) (goesR T) (fun r x => x :: r) (cntR T k)]
    rfl

noncomputable def mayR (T : List (List Bool)) (f : Nat) (r : List Nat) (x : Nat) : Bool := !r.contains (f + 1 + x) && atT T (hd0 r) (f + 1 + x)
noncomputable def stepQ (T : List (List Bool)) (f : Nat) (rows : List (List Nat)) : List (List Nat) := rows.flatMap fun r => ((List.range (4 - f)).filter (mayR T f r)).map fun x => (f + 1 + x) :: r
noncomputable def cntQ (T : List (List Bool)) (f : Nat) : Nat → List Nat → Nat
  | 0, r => if atT T (hd0 r) f = true then 1 else 0
  | k + 1, r => ((List.range (4 - f)).map fun x => if mayR T f r x = true then cntQ T f k ((f + 1 + x) :: r) else 0).sum

theorem flat_congr {α β : Type} {f g : α → List β} : ∀ {l : List α}, (∀ a, a ∈ l → f a = g a) → l.flatMap f = l.flatMap g
  | [], _ => rfl
  | a :: l, h => by rw [List.flatMap_cons, List.flatMap_cons, h a List.mem_cons_self, flat_congr fun b hb => h b (List.mem_cons_of_mem _ hb)]
theorem stepF_phi (T : List (List Bool)) {f : Nat} (hf : f ≤ 4) (rows : List (List Nat)) (hne : ∀ r, r ∈ rows → r ≠ []) : stepF T f (rows.map phi) = (stepQ T f rows).map phi := by
  unfold stepF stepQ
  rw [List.flatMap_map, List.map_flatMap]
  refine flat_congr fun r hr => ?_
  have e1 : (5 - (0 + (f : Int) + 1)).toNat = 4 - f := by omega
  have e2 : ∀ x : Nat, 0 + (f : Int) + 1 + (x : Int) = ((f + 1 + x : Nat) : Int) := fun x => by omega
  have e3 : mayF T f (phi r) = mayR T f r := by
    funext x
    unfold mayF mayR atT
    rw [e2, phi_mem, phi_last (hne r hr)]
    simp only [Int.toNat_natCast]
  rw [e1, e3, List.map_map]
  refine List.map_congr_left fun x _ => ?_
  rw [e2]
  exact (phi_cons _ _).symm
theorem stepQ_ne (T : List (List Bool)) (f : Nat) (rows : List (List Nat)) : ∀ r, r ∈ stepQ T f rows → r ≠ [] := by
  intro r hr
  unfold stepQ at hr
  obtain ⟨r', _, h⟩ := List.mem_flatMap.mp hr
  obtain ⟨x, _, rfl⟩ := List.mem_map.mp h
  exact List.cons_ne_nil _ _
theorem rowsF_cnt (T : List (List Bool)) {f : Nat} (hf : f ≤ 4) : ∀ (steps : List Nat) (rows : List (List Nat)), (∀ r, r ∈ rows → r ≠ []) →
    ((rowsF T f steps (rows.map phi)).filter (closeF T f)).length = (rows.map (cntQ T f steps.length)).sum
  | [], rows, hne => by
    show ((rows.map phi).filter (closeF T f)).length = _
    induction rows with
    | nil => rfl
    | cons r rows ih =>
      have e : closeF T f (phi r) = atT T (hd0 r) f := by
        unfold closeF atT
        rw [phi_last (hne r List.mem_cons_self)]
        simp
      have ih := ih fun r h => hne r (List.mem_cons_of_mem _ h)
      simp only [List.map_cons, List.sum_cons, List.length_nil] at ih ⊢
      show _ = (if atT T (hd0 r) f = true then 1 else 0) + _
      by_cases h : atT T (hd0 r) f = true
      · rw [List.filter_cons_of_pos (by rw [e]; exact h), if_pos h, List.length_cons, ih]; omega
      · rw [List.filter_cons_of_neg (by rw [e]; exact h), if_neg h, ih]; omega
  | s :: steps, rows, hne => by
    show ((rowsF T f steps (stepF T f (rows.map phi))).filter (closeF T f)).length = _
    rw [stepF_phi T hf rows hne, rowsF_cnt T hf steps _ (stepQ_ne T f rows)]
    unfold stepQ
    rw [sum_flat (fun _ => List.range (4 - f)) (mayR T f) (fun r x => (f + 1 + x) :: r) (cntQ T f steps.length)]
    rfl
noncomputable def ringsN (T : List (List Bool)) : Nat := cntQ T 0 2 [0] + cntQ T 1 2 [1] + cntQ T 2 2 [2] + cntQ T 0 4 [0]
theorem rings_eq (T : List (List Bool)) : ringsF T 3 (List.range (6 - 3 - 0 : Int).toNat) 0 + ringsF T 5 (List.range (6 - 5 - 0 : Int).toNat) 0 = (ringsN T : Int) := by
  have h : ∀ (f : Nat) (size : Int), f ≤ 4 → (((rowsF T f (List.range (size - 1 - 0).toNat) [[0 + (f : Int)]]).filter (closeF T f)).length : Int) = ((cntQ T f (size - 1 - 0).toNat [f] : Nat) : Int) := by
    intro f size hf
    have := rowsF_cnt T hf (List.range (size - 1 - 0).toNat) [[f]] (by simp)
    have e : [[f]].map phi = [[0 + (f : Int)]] := by simp [phi]
    rw [e] at this
    rw [this]
    simp
  show (((0 + _) + _) + _) + (0 + _) = _
  rw [h 0 3 (by decide), h 1 3 (by decide), h 2 3 (by decide), h 0 5 (by decide)]
  unfold ringsN
  simp only [Int.natCast_add]
  show 0 + ((cntQ T 0 2 [0] : Nat) : Int) + ((cntQ T 1 2 [1] : Nat) : Int) + ((cntQ T 2 2 [2] : Nat) : Int) + (0 + ((cntQ T 0 4 [0] : Nat) : Int)) = _
  omega

noncomputable def mat (b01 b02 b03 b04 b12 b13 b14 b23 b24 b34 : Bool) : List (List Bool) :=
  [[false, b01, b02, b03, b04], [!b01, false, b12, b13, b14], [!b02, !b12, false, b23, b24], [!b03, !b13, !b23, false, b34], [!b04, !b14, !b24, !b34, false]]

theorem range5 : List.range 5 = [0, 1, 2, 3, 4] := rfl
theorem range4 : List.range (4 - 0) = [0, 1, 2, 3] := rfl
theorem range3 : List.range (4 - 1) = [0, 1, 2] := rfl
theorem range2 : List.range (4 - 2) = [0, 1] := rfl
noncomputable def pathsN (T : List (List Bool)) : Nat := cntR T 4 [0] + (cntR T 4 [1] + (cntR T 4 [2] + (cntR T 4 [3] + cntR T 4 [4])))

noncomputable def it (b : Bool) (n : Nat) : Nat := if b = true then n else 0
noncomputable def pl (a b : Nat) : Nat := a + b
noncomputable def expP0 (b01 b02 b03 b04 b12 b13 b14 b23 b24 b34 : Bool) : Nat := (pl 0 (pl (it b01 (pl 0 (pl 0 (pl (it b12 (pl 0 (pl 0 (pl 0 (pl (it b23 (pl 0 (pl 0 (pl 0 (pl 0 (pl (it b34 1) 0)))))) (pl (it b24 (pl 0 (pl 0 (pl 0 (pl (it (!b34) 1) (pl 0 0)))))) 0)))))) (pl (it b13 (pl 0 (pl 0 (pl (it (!b23) (pl 0 (pl 0 (pl 0 (pl 0 (pl (it b24 1) 0)))))) (pl 0 (pl (it b34 (pl 0 (pl 0 (pl (it (!b24) 1) (pl 0 (pl 0 0)))))) 0)))))) (pl (it b14 (pl 0 (pl 0 (pl (it (!b24) (pl 0 (pl 0 (pl 0 (pl (it b23 1) (pl 0 0)))))) (pl (it (!b34) (pl 0 (pl 0 (pl (it (!b23) 1) (pl 0 (pl 0 0)))))) (pl 0 0)))))) 0)))))) (pl (it b02 (pl 0 (pl (it (!b12) (pl 0 (pl 0 (pl 0 (pl (it b13 (pl 0 (pl 0 (pl 0 (pl 0 (pl (it b34 1) 0)))))) (pl (it b14 (pl 0 (pl 0 (pl 0 (pl (it (!b34) 1) (pl 0 0)))))) 0)))))) (pl 0 (pl (it b23 (pl 0 (pl (it (!b13) (pl 0 (pl 0 (pl 0 (pl 0 (pl (it b14 1) 0)))))) (pl 0 (pl 0 (pl (it b34 (pl 0 (pl (it (!b14) 1) (pl 0 (pl 0 (pl 0 0)))))) 0)))))) (pl (it b24 (pl 0 (pl (it (!b14) (pl 0 (pl 0 (pl 0 (pl (it b13 1) (pl 0 0)))))) (pl 0 (pl (it (!b34) (pl 0 (pl (it (!b13) 1) (pl 0 (pl 0 (pl 0 0)))))) (pl 0 0)))))) 0)))))) (pl (it b03 (pl 0 (pl (it (!b13) (pl 0 (pl 0 (pl (it b12 (pl 0 (pl 0 (pl 0 (pl 0 (pl (it b24 1) 0)))))) (pl 0 (pl (it b14 (pl 0 (pl 0 (pl (it (!b24) 1) (pl 0 (pl 0 0)))))) 0)))))) (pl (it (!b23) (pl 0 (pl (it (!b12) (pl 0 (pl 0 (pl 0 (pl 0 (pl (it b14 1) 0)))))) (pl 0 (pl 0 (pl (it b24 (pl 0 (pl (it (!b14) 1) (pl 0 (pl 0 (pl 0 0)))))) 0)))))) (pl 0 (pl (it b34 (pl 0 (pl (it (!b14) (pl 0 (pl 0 (pl (it b12 1) (pl 0 (pl 0 0)))))) (pl (it (!b24) (pl 0 (pl (it (!b12) 1) (pl 0 (pl 0 (pl 0 0)))))) (pl 0 (pl 0 0)))))) 0)))))) (pl (it b04 (pl 0 (pl (it (!b14) (pl 0 (pl 0 (pl (it b12 (pl 0 (pl 0 (pl 0 (pl (it b23 1) (pl 0 0)))))) (pl (it b13 (pl 0 (pl 0 (pl (it (!b23) 1) (pl 0 (pl 0 0)))))) (pl 0 0)))))) (pl (it (!b24) (pl 0 (pl (it (!b12) (pl 0 (pl 0 (pl 0 (pl (it b13 1) (pl 0 0)))))) (pl 0 (pl (it b23 (pl 0 (pl (it (!b13) 1) (pl 0 (pl 0 (pl 0 0)))))) (pl 0 0)))))) (pl (it (!b34) (pl 0 (pl (it (!b13) (pl 0 (pl 0 (pl (it b12 1) (pl 0 (pl 0 0)))))) (pl (it (!b23) (pl 0 (pl (it (!b12) 1) (pl 0 (pl 0 (pl 0 0)))))) (pl 0 (pl 0 0)))))) (pl 0 0)))))) 0)))))
noncomputable def expP1 (b01 b02 b03 b04 b12 b13 b14 b23 b24 b34 : Bool) : Nat := (pl (it (!b01) (pl 0 (pl 0 (pl (it b02 (pl 0 (pl 0 (pl 0 (pl (it b23 (pl 0 (pl 0 (pl 0 (pl 0 (pl (it b34 1) 0)))))) (pl (it b24 (pl 0 (pl 0 (pl 0 (pl (it (!b34) 1) (pl 0 0)))))) 0)))))) (pl (it b03 (pl 0 (pl 0 (pl (it (!b23) (pl 0 (pl 0 (pl 0 (pl 0 (pl (it b24 1) 0)))))) (pl 0 (pl (it b34 (pl 0 (pl 0 (pl (it (!b24) 1) (pl 0 (pl 0 0)))))) 0)))))) (pl (it b04 (pl 0 (pl 0 (pl (it (!b24) (pl 0 (pl 0 (pl 0 (pl (it b23 1) (pl 0 0)))))) (pl (it (!b34) (pl 0 (pl 0 (pl (it (!b23) 1) (pl 0 (pl 0 0)))))) (pl 0 0)))))) 0)))))) (pl 0 (pl (it b12 (pl (it (!b02) (pl 0 (pl 0 (pl 0 (pl (it b03 (pl 0 (pl 0 (pl 0 (pl 0 (pl (it b34 1) 0)))))) (pl (it b04 (pl 0 (pl 0 (pl 0 (pl (it (!b34) 1) (pl 0 0)))))) 0)))))) (pl 0 (pl 0 (pl (it b23 (pl (it (!b03) (pl 0 (pl 0 (pl 0 (pl 0 (pl (it b04 1) 0)))))) (pl 0 (pl 0 (pl 0 (pl (it b34 (pl (it (!b04) 1) (pl 0 (pl 0 (pl 0 (pl 0 0)))))) 0)))))) (pl (it b24 (pl (it (!b04) (pl 0 (pl 0 (pl 0 (pl (it b03 1) (pl 0 0)))))) (pl 0 (pl 0 (pl (it (!b34) (pl (it (!b03) 1) (pl 0 (pl 0 (pl 0 (pl 0 0)))))) (pl 0 0)))))) 0)))))) (pl (it b13 (pl (it (!b03) (pl 0 (pl 0 (pl (it b02 (pl 0 (pl 0 (pl 0 (pl 0 (pl (it b24 1) 0)))))) (pl 0 (pl (it b04 (pl 0 (pl 0 (pl (it (!b24) 1) (pl 0 (pl 0 0)))))) 0)))))) (pl 0 (pl (it (!b23) (pl (it (!b02) (pl 0 (pl 0 (pl 0 (pl 0 (pl (it b04 1) 0)))))) (pl 0 (pl 0 (pl 0 (pl (it b24 (pl (it (!b04) 1) (pl 0 (pl 0 (pl 0 (pl 0 0)))))) 0)))))) (pl 0 (pl (it b34 (pl (it (!b04) (pl 0 (pl 0 (pl (it b02 1) (pl 0 (pl 0 0)))))) (pl 0 (pl (it (!b24) (pl (it (!b02) 1) (pl 0 (pl 0 (pl 0 (pl 0 0)))))) (pl 0 (pl 0 0)))))) 0)))))) (pl (it b14 (pl (it (!b04) (pl 0 (pl 0 (pl (it b02 (pl 0 (pl 0 (pl 0 (pl (it b23 1) (pl 0 0)))))) (pl (it b03 (pl 0 (pl 0 (pl (it (!b23) 1) (pl 0 (pl 0 0)))))) (pl 0 0)))))) (pl 0 (pl (it (!b24) (pl (it (!b02) (pl 0 (pl 0 (pl 0 (pl (it b03 1) (pl 0 0)))))) (pl 0 (pl 0 (pl (it b23 (pl (it (!b03) 1) (pl 0 (pl 0 (pl 0 (pl 0 0)))))) (pl 0 0)))))) (pl (it (!b34) (pl (it (!b03) (pl 0 (pl 0 (pl (it b02 1) (pl 0 (pl 0 0)))))) (pl 0 (pl (it (!b23) (pl (it (!b02) 1) (pl 0 (pl 0 (pl 0 (pl 0 0)))))) (pl 0 (pl 0 0)))))) (pl 0 0)))))) 0)))))
noncomputable def expP2 (b01 b02 b03 b04 b12 b13 b14 b23 b24 b34 : Bool) : Nat := (pl (it (!b02) (pl 0 (pl (it b01 (pl 0 (pl 0 (pl 0 (pl (it b13 (pl 0 (pl 0 (pl 0 (pl 0 (pl (it b34 1) 0)))))) (pl (it b14 (pl 0 (pl 0 (pl 0 (pl (it (!b34) 1) (pl 0 0)))))) 0)))))) (pl 0 (pl (it b03 (pl 0 (pl (it (!b13) (pl 0 (pl 0 (pl 0 (pl 0 (pl (it b14 1) 0)))))) (pl 0 (pl 0 (pl (it b34 (pl 0 (pl (it (!b14) 1) (pl 0 (pl 0 (pl 0 0)))))) 0)))))) (pl (it b04 (pl 0 (pl (it (!b14) (pl 0 (pl 0 (pl 0 (pl (it b13 1) (pl 0 0)))))) (pl 0 (pl (it (!b34) (pl 0 (pl (it (!b13) 1) (pl 0 (pl 0 (pl 0 0)))))) (pl 0 0)))))) 0)))))) (pl (it (!b12) (pl (it (!b01) (pl 0 (pl 0 (pl 0 (pl (it b03 (pl 0 (pl 0 (pl 0 (pl 0 (pl (it b34 1) 0)))))) (pl (it b04 (pl 0 (pl 0 (pl 0 (pl (it (!b34) 1) (pl 0 0)))))) 0)))))) (pl 0 (pl 0 (pl (it b13 (pl (it (!b03) (pl 0 (pl 0 (pl 0 (pl 0 (pl (it b04 1) 0)))))) (pl 0 (pl 0 (pl 0 (pl (it b34 (pl (it (!b04) 1) (pl 0 (pl 0 (pl 0 (pl 0 0)))))) 0)))))) (pl (it b14 (pl (it (!b04) (pl 0 (pl 0 (pl 0 (pl (it b03 1) (pl 0 0)))))) (pl 0 (pl 0 (pl (it (!b34) (pl (it (!b03) 1) (pl 0 (pl 0 (pl 0 (pl 0 0)))))) (pl 0 0)))))) 0)))))) (pl 0 (pl (it b23 (pl (it (!b03) (pl 0 (pl (it b01 (pl 0 (pl 0 (pl 0 (pl 0 (pl (it b14 1) 0)))))) (pl 0 (pl 0 (pl (it b04 (pl 0 (pl (it (!b14) 1) (pl 0 (pl 0 (pl 0 0)))))) 0)))))) (pl (it (!b13) (pl (it (!b01) (pl 0 (pl 0 (pl 0 (pl 0 (pl (it b04 1) 0)))))) (pl 0 (pl 0 (pl 0 (pl (it b14 (pl (it (!b04) 1) (pl 0 (pl 0 (pl 0 (pl 0 0)))))) 0)))))) (pl 0 (pl 0 (pl (it b34 (pl (it (!b04) (pl 0 (pl (it b01 1) (pl 0 (pl 0 (pl 0 0)))))) (pl (it (!b14) (pl (it (!b01) 1) (pl 0 (pl 0 (pl 0 (pl 0 0)))))) (pl 0 (pl 0 (pl 0 0)))))) 0)))))) (pl (it b24 (pl (it (!b04) (pl 0 (pl (it b01 (pl 0 (pl 0 (pl 0 (pl (it b13 1) (pl 0 0)))))) (pl 0 (pl (it b03 (pl 0 (pl (it (!b13) 1) (pl 0 (pl 0 (pl 0 0)))))) (pl 0 0)))))) (pl (it (!b14) (pl (it (!b01) (pl 0 (pl 0 (pl 0 (pl (it b03 1) (pl 0 0)))))) (pl 0 (pl 0 (pl (it b13 (pl (it (!b03) 1) (pl 0 (pl 0 (pl 0 (pl 0 0)))))) (pl 0 0)))))) (pl 0 (pl (it (!b34) (pl (it (!b03) (pl 0 (pl (it b01 1) (pl 0 (pl 0 (pl 0 0)))))) (pl (it (!b13) (pl (it (!b01) 1) (pl 0 (pl 0 (pl 0 (pl 0 0)))))) (pl 0 (pl 0 (pl 0 0)))))) (pl 0 0)))))) 0)))))
noncomputable def expP3 (b01 b02 b03 b04 b12 b13 b14 b23 b24 b34 : Bool) : Nat := (pl (it (!b03) (pl 0 (pl (it b01 (pl 0 (pl 0 (pl (it b12 (pl 0 (pl 0 (pl 0 (pl 0 (pl (it b24 1) 0)))))) (pl 0 (pl (it b14 (pl 0 (pl 0 (pl (it (!b24) 1) (pl 0 (pl 0 0)))))) 0)))))) (pl (it b02 (pl 0 (pl (it (!b12) (pl 0 (pl 0 (pl 0 (pl 0 (pl (it b14 1) 0)))))) (pl 0 (pl 0 (pl (it b24 (pl 0 (pl (it (!b14) 1) (pl 0 (pl 0 (pl 0 0)))))) 0)))))) (pl 0 (pl (it b04 (pl 0 (pl (it (!b14) (pl 0 (pl 0 (pl (it b12 1) (pl 0 (pl 0 0)))))) (pl (it (!b24) (pl 0 (pl (it (!b12) 1) (pl 0 (pl 0 (pl 0 0)))))) (pl 0 (pl 0 0)))))) 0)))))) (pl (it (!b13) (pl (it (!b01) (pl 0 (pl 0 (pl (it b02 (pl 0 (pl 0 (pl 0 (pl 0 (pl (it b24 1) 0)))))) (pl 0 (pl (it b04 (pl 0 (pl 0 (pl (it (!b24) 1) (pl 0 (pl 0 0)))))) 0)))))) (pl 0 (pl (it b12 (pl (it (!b02) (pl 0 (pl 0 (pl 0 (pl 0 (pl (it b04 1) 0)))))) (pl 0 (pl 0 (pl 0 (pl (it b24 (pl (it (!b04) 1) (pl 0 (pl 0 (pl 0 (pl 0 0)))))) 0)))))) (pl 0 (pl (it b14 (pl (it (!b04) (pl 0 (pl 0 (pl (it b02 1) (pl 0 (pl 0 0)))))) (pl 0 (pl (it (!b24) (pl (it (!b02) 1) (pl 0 (pl 0 (pl 0 (pl 0 0)))))) (pl 0 (pl 0 0)))))) 0)))))) (pl (it (!b23) (pl (it (!b02) (pl 0 (pl (it b01 (pl 0 (pl 0 (pl 0 (pl 0 (pl (it b14 1) 0)))))) (pl 0 (pl 0 (pl (it b04 (pl 0 (pl (it (!b14) 1) (pl 0 (pl 0 (pl 0 0)))))) 0)))))) (pl (it (!b12) (pl (it (!b01) (pl 0 (pl 0 (pl 0 (pl 0 (pl (it b04 1) 0)))))) (pl 0 (pl 0 (pl 0 (pl (it b14 (pl (it (!b04) 1) (pl 0 (pl 0 (pl 0 (pl 0 0)))))) 0)))))) (pl 0 (pl 0 (pl (it b24 (pl (it (!b04) (pl 0 (pl (it b01 1) (pl 0 (pl 0 (pl 0 0)))))) (pl (it (!b14) (pl (it (!b01) 1) (pl 0 (pl 0 (pl 0 (pl 0 0)))))) (pl 0 (pl 0 (pl 0 0)))))) 0)))))) (pl 0 (pl (it b34 (pl (it (!b04) (pl 0 (pl (it b01 (pl 0 (pl 0 (pl (it b12 1) (pl 0 (pl 0 0)))))) (pl (it b02 (pl 0 (pl (it (!b12) 1) (pl 0 (pl 0 (pl 0 0)))))) (pl 0 (pl 0 0)))))) (pl (it (!b14) (pl (it (!b01) (pl 0 (pl 0 (pl (it b02 1) (pl 0 (pl 0 0)))))) (pl 0 (pl (it b12 (pl (it (!b02) 1) (pl 0 (pl 0 (pl 0 (pl 0 0)))))) (pl 0 (pl 0 0)))))) (pl (it (!b24) (pl (it (!b02) (pl 0 (pl (it b01 1) (pl 0 (pl 0 (pl 0 0)))))) (pl (it (!b12) (pl (it (!b01) 1) (pl 0 (pl 0 (pl 0 (pl 0 0)))))) (pl 0 (pl 0 (pl 0 0)))))) (pl 0 (pl 0 0)))))) 0)))))
noncomputable def expP4 (b01 b02 b03 b04 b12 b13 b14 b23 b24 b34 : Bool) : Nat := (pl (it (!b04) (pl 0 (pl (it b01 (pl 0 (pl 0 (pl (it b12 (pl 0 (pl 0 (pl 0 (pl (it b23 1) (pl 0 0)))))) (pl (it b13 (pl 0 (pl 0 (pl (it (!b23) 1) (pl 0 (pl 0 0)))))) (pl 0 0)))))) (pl (it b02 (pl 0 (pl (it (!b12) (pl 0 (pl 0 (pl 0 (pl (it b13 1) (pl 0 0)))))) (pl 0 (pl (it b23 (pl 0 (pl (it (!b13) 1) (pl 0 (pl 0 (pl 0 0)))))) (pl 0 0)))))) (pl (it b03 (pl 0 (pl (it (!b13) (pl 0 (pl 0 (pl (it b12 1) (pl 0 (pl 0 0)))))) (pl (it (!b23) (pl 0 (pl (it (!b12) 1) (pl 0 (pl 0 (pl 0 0)))))) (pl 0 (pl 0 0)))))) (pl 0 0)))))) (pl (it (!b14) (pl (it (!b01) (pl 0 (pl 0 (pl (it b02 (pl 0 (pl 0 (pl 0 (pl (it b23 1) (pl 0 0)))))) (pl (it b03 (pl 0 (pl 0 (pl (it (!b23) 1) (pl 0 (pl 0 0)))))) (pl 0 0)))))) (pl 0 (pl (it b12 (pl (it (!b02) (pl 0 (pl 0 (pl 0 (pl (it b03 1) (pl 0 0)))))) (pl 0 (pl 0 (pl (it b23 (pl (it (!b03) 1) (pl 0 (pl 0 (pl 0 (pl 0 0)))))) (pl 0 0)))))) (pl (it b13 (pl (it (!b03) (pl 0 (pl 0 (pl (it b02 1) (pl 0 (pl 0 0)))))) (pl 0 (pl (it (!b23) (pl (it (!b02) 1) (pl 0 (pl 0 (pl 0 (pl 0 0)))))) (pl 0 (pl 0 0)))))) (pl 0 0)))))) (pl (it (!b24) (pl (it (!b02) (pl 0 (pl (it b01 (pl 0 (pl 0 (pl 0 (pl (it b13 1) (pl 0 0)))))) (pl 0 (pl (it b03 (pl 0 (pl (it (!b13) 1) (pl 0 (pl 0 (pl 0 0)))))) (pl 0 0)))))) (pl (it (!b12) (pl (it (!b01) (pl 0 (pl 0 (pl 0 (pl (it b03 1) (pl 0 0)))))) (pl 0 (pl 0 (pl (it b13 (pl (it (!b03) 1) (pl 0 (pl 0 (pl 0 (pl 0 0)))))) (pl 0 0)))))) (pl 0 (pl (it b23 (pl (it (!b03) (pl 0 (pl (it b01 1) (pl 0 (pl 0 (pl 0 0)))))) (pl (it (!b13) (pl (it (!b01) 1) (pl 0 (pl 0 (pl 0 (pl 0 0)))))) (pl 0 (pl 0 (pl 0 0)))))) (pl 0 0)))))) (pl (it (!b34) (pl (it (!b03) (pl 0 (pl (it b01 (pl 0 (pl 0 (pl (it b12 1) (pl 0 (pl 0 0)))))) (pl (it b02 (pl 0 (pl (it (!b12) 1) (pl 0 (pl 0 (pl 0 0)))))) (pl 0 (pl 0 0)))))) (pl (it (!b13) (pl (it (!b01) (pl 0 (pl 0 (pl (it b02 1) (pl 0 (pl 0 0)))))) (pl 0 (pl (it b12 (pl (it (!b02) 1) (pl 0 (pl 0 (pl 0 (pl 0 0)))))) (pl 0 (pl 0 0)))))) (pl (it (!b23) (pl (it (!b02) (pl 0 (pl (it b01 1) (pl 0 (pl 0 (pl 0 0)))))) (pl (it (!b12) (pl (it (!b01) 1) (pl 0 (pl 0 (pl 0 (pl 0 0)))))) (pl 0 (pl 0 (pl 0 0)))))) (pl 0 (pl 0 0)))))) (pl 0 0)))))
noncomputable def expQ0 (b01 b02 b03 b04 b12 b13 b14 b23 b24 b34 : Bool) : Nat := (pl (it b01 (pl 0 (pl (it b12 (it (!b02) 1)) (pl (it b13 (it (!b03) 1)) (pl (it b14 (it (!b04) 1)) 0))))) (pl (it b02 (pl (it (!b12) (it (!b01) 1)) (pl 0 (pl (it b23 (it (!b03) 1)) (pl (it b24 (it (!b04) 1)) 0))))) (pl (it b03 (pl (it (!b13) (it (!b01) 1)) (pl (it (!b23) (it (!b02) 1)) (pl 0 (pl (it b34 (it (!b04) 1)) 0))))) (pl (it b04 (pl (it (!b14) (it (!b01) 1)) (pl (it (!b24) (it (!b02) 1)) (pl (it (!b34) (it (!b03) 1)) (pl 0 0))))) 0))))
noncomputable def expQ1 (b01 b02 b03 b04 b12 b13 b14 b23 b24 b34 : Bool) : Nat := (pl (it b12 (pl 0 (pl (it b23 (it (!b13) 1)) (pl (it b24 (it (!b14) 1)) 0)))) (pl (it b13 (pl (it (!b23) (it (!b12) 1)) (pl 0 (pl (it b34 (it (!b14) 1)) 0)))) (pl (it b14 (pl (it (!b24) (it (!b12) 1)) (pl (it (!b34) (it (!b13) 1)) (pl 0 0)))) 0)))
noncomputable def expQ2 (b01 b02 b03 b04 b12 b13 b14 b23 b24 b34 : Bool) : Nat := (pl (it b23 (pl 0 (pl (it b34 (it (!b24) 1)) 0))) (pl (it b24 (pl (it (!b34) (it (!b23) 1)) (pl 0 0))) 0))
noncomputable def expQ3 (b01 b02 b03 b04 b12 b13 b14 b23 b24 b34 : Bool) : Nat := (pl (it b01 (pl 0 (pl (it b12 (pl 0 (pl 0 (pl (it b23 (pl 0 (pl 0 (pl 0 (pl (it b34 (it (!b04) 1)) 0))))) (pl (it b24 (pl 0 (pl 0 (pl (it (!b34) (it (!b03) 1)) (pl 0 0))))) 0))))) (pl (it b13 (pl 0 (pl (it (!b23) (pl 0 (pl 0 (pl 0 (pl (it b24 (it (!b04) 1)) 0))))) (pl 0 (pl (it b34 (pl 0 (pl (it (!b24) (it (!b02) 1)) (pl 0 (pl 0 0))))) 0))))) (pl (it b14 (pl 0 (pl (it (!b24) (pl 0 (pl 0 (pl (it b23 (it (!b03) 1)) (pl 0 0))))) (pl (it (!b34) (pl 0 (pl (it (!b23) (it (!b02) 1)) (pl 0 (pl 0 0))))) (pl 0 0))))) 0))))) (pl (it b02 (pl (it (!b12) (pl 0 (pl 0 (pl (it b13 (pl 0 (pl 0 (pl 0 (pl (it b34 (it (!b04) 1)) 0))))) (pl (it b14 (pl 0 (pl 0 (pl (it (!b34) (it (!b03) 1)) (pl 0 0))))) 0))))) (pl 0 (pl (it b23 (pl (it (!b13) (pl 0 (pl 0 (pl 0 (pl (it b14 (it (!b04) 1)) 0))))) (pl 0 (pl 0 (pl (it b34 (pl (it (!b14) (it (!b01) 1)) (pl 0 (pl 0 (pl 0 0))))) 0))))) (pl (it b24 (pl (it (!b14) (pl 0 (pl 0 (pl (it b13 (it (!b03) 1)) (pl 0 0))))) (pl 0 (pl (it (!b34) (pl (it (!b13) (it (!b01) 1)) (pl 0 (pl 0 (pl 0 0))))) (pl 0 0))))) 0))))) (pl (it b03 (pl (it (!b13) (pl 0 (pl (it b12 (pl 0 (pl 0 (pl 0 (pl (it b24 (it (!b04) 1)) 0))))) (pl 0 (pl (it b14 (pl 0 (pl (it (!b24) (it (!b02) 1)) (pl 0 (pl 0 0))))) 0))))) (pl (it (!b23) (pl (it (!b12) (pl 0 (pl 0 (pl 0 (pl (it b14 (it (!b04) 1)) 0))))) (pl 0 (pl 0 (pl (it b24 (pl (it (!b14) (it (!b01) 1)) (pl 0 (pl 0 (pl 0 0))))) 0))))) (pl 0 (pl (it b34 (pl (it (!b14) (pl 0 (pl (it b12 (it (!b02) 1)) (pl 0 (pl 0 0))))) (pl (it (!b24) (pl (it (!b12) (it (!b01) 1)) (pl 0 (pl 0 (pl 0 0))))) (pl 0 (pl 0 0))))) 0))))) (pl (it b04 (pl (it (!b14) (pl 0 (pl (it b12 (pl 0 (pl 0 (pl (it b23 (it (!b03) 1)) (pl 0 0))))) (pl (it b13 (pl 0 (pl (it (!b23) (it (!b02) 1)) (pl 0 (pl 0 0))))) (pl 0 0))))) (pl (it (!b24) (pl (it (!b12) (pl 0 (pl 0 (pl (it b13 (it (!b03) 1)) (pl 0 0))))) (pl 0 (pl (it b23 (pl (it (!b13) (it (!b01) 1)) (pl 0 (pl 0 (pl 0 0))))) (pl 0 0))))) (pl (it (!b34) (pl (it (!b13) (pl 0 (pl (it b12 (it (!b02) 1)) (pl 0 (pl 0 0))))) (pl (it (!b23) (pl (it (!b12) (it (!b01) 1)) (pl 0 (pl 0 (pl 0 0))))) (pl 0 (pl 0 0))))) (pl 0 0))))) 0))))
noncomputable def expP (b01 b02 b03 b04 b12 b13 b14 b23 b24 b34 : Bool) : Nat := pl (expP0 b01 b02 b03 b04 b12 b13 b14 b23 b24 b34) (pl (expP1 b01 b02 b03 b04 b12 b13 b14 b23 b24 b34) (pl (expP2 b01 b02 b03 b04 b12 b13 b14 b23 b24 b34) (pl (expP3 b01 b02 b03 b04 b12 b13 b14 b23 b24 b34) (expP4 b01 b02 b03 b04 b12 b13 b14 b23 b24 b34))))
noncomputable def expQ (b01 b02 b03 b04 b12 b13 b14 b23 b24 b34 : Bool) : Nat := pl (pl (pl (expQ0 b01 b02 b03 b04 b12 b13 b14 b23 b24 b34) (expQ1 b01 b02 b03 b04 b12 b13 b14 b23 b24 b34)) (expQ2 b01 b02 b03 b04 b12 b13 b14 b23 b24 b34)) (expQ3 b01 b02 b03 b04 b12 b13 b14 b23 b24 b34)
theorem exp_paths (b01 b02 b03 b04 b12 b13 b14 b23 b24 b34 : Bool) : pathsN (mat b01 b02 b03 b04 b12 b13 b14 b23 b24 b34) = expP b01 b02 b03 b04 b12 b13 b14 b23 b24 b34 := by kernel_rfl
theorem exp_rings (b01 b02 b03 b04 b12 b13 b14 b23 b24 b34 : Bool) : ringsN (mat b01 b02 b03 b04 b12 b13 b14 b23 b24 b34) = expQ b01 b02 b03 b04 b12 b13 b14 b23 b24 b34 := by kernel_rfl
set_option maxHeartbeats 4000000
theorem exp_law : ∀ b01 b02 b03 b04 b12 b13 b14 b23 b24 b34 : Bool, expP b01 b02 b03 b04 b12 b13 b14 b23 b24 b34 = 1 + 2 * expQ b01 b02 b03 b04 b12 b13 b14 b23 b24 b34 := by decide +kernel
theorem redei (b01 b02 b03 b04 b12 b13 b14 b23 b24 b34 : Bool) : pathsN (mat b01 b02 b03 b04 b12 b13 b14 b23 b24 b34) = 1 + 2 * ringsN (mat b01 b02 b03 b04 b12 b13 b14 b23 b24 b34) := by
  rw [exp_paths, exp_rings]; exact exp_law _ _ _ _ _ _ _ _ _ _

noncomputable def insK (ks : List Int) (i : Int) : List Int := if ks.contains i then ks else ks ++ [i]
theorem insK_nodup {ks : List Int} (h : ks.Nodup) (i : Int) : (insK ks i).Nodup := by
  unfold insK
  split
  · exact h
  · rename_i hi
    rw [List.nodup_append]
    refine ⟨h, by simp, fun a ha b hb => ?_⟩
    rw [List.mem_singleton.mp hb]
    rintro rfl
    exact hi (List.contains_iff_mem.mpr ha)
theorem insK_mem {ks : List Int} {i k : Int} : k ∈ insK ks i ↔ k ∈ ks ∨ k = i := by
  unfold insK
  split
  · rename_i h
    have := List.contains_iff_mem.mp h
    constructor
    · exact .inl
    · rintro (h | rfl) <;> assumption
  · simp
noncomputable abbrev asK (c : Int → Int) (ks : List Int) : List (Int × Int) := ks.map fun k => (k, c k)
theorem asK_any (c : Int → Int) (ks : List Int) (i : Int) : (asK c ks).any (fun p => p.1 = i) = ks.contains i := by
  induction ks with
  | nil => rfl
  | cons k ks ih =>
    simp only [List.map_cons, List.any_cons, ih, List.contains_cons]
    congr 1
    by_cases h : k = i
    · subst h; simp
    · have : ¬ i = k := fun e => h e.symm
      simp [h, this]
theorem asK_lookup (c : Int → Int) {ks : List Int} {i : Int} : (asK c ks).lookup i = if ks.contains i then some (c i) else none := by
  induction ks with
  | nil => rfl
  | cons k ks ih =>
    simp only [List.map_cons, List.lookup_cons, List.contains_cons]
    by_cases h : i = k
    · subst h; simp
    · have : (i == k) = false := by simpa using h
      rw [this]
      simp only [Bool.false_or]
      exact ih
theorem putK_asK (c : Int → Int) (ks : List Int) (i v : Int) (hc : ks.contains i = true → True) : putK i v (asK c ks) = asK (fun k => if k = i then v else c k) (insK ks i) := by
  unfold putK insK
  rw [asK_any]
  split
  · rw [List.map_map]
    refine List.map_congr_left fun k _ => ?_
    by_cases h : k = i
    · simp [h]
    · simp [h]
  · rename_i hi
    show asK c ks ++ [(i, v)] = (ks ++ [i]).map fun k => (k, if k = i then v else c k)
    rw [List.map_append]
    congr 1
    · refine List.map_congr_left fun k hk => ?_
      have : k ≠ i := by
        rintro rfl
        exact hi (List.contains_iff_mem.mpr hk)
      simp [this]
    · simp
theorem putK_same (c : Int → Int) (ks : List Int) (i : Int) : putK i (c i) (asK c ks) = asK c (insK ks i) := by
  rw [putK_asK c ks i (c i) (fun _ => trivial)]
  refine List.map_congr_left fun k _ => ?_
  by_cases h : k = i
  · simp [h]
  · simp [h]
theorem dictL_asK (c : Int → Int) : ∀ (fs ks : List Int), fs.foldl (fun acc i => putK i (c i) acc) (asK c ks) = asK c (fs.foldl insK ks)
  | [], ks => rfl
  | i :: fs, ks => by
    simp only [List.foldl_cons]
    rw [putK_same]
    exact dictL_asK c fs _
theorem copy_asK (c : Int → Int) (qs : List Int) : ∀ ps : List Int, (ps ++ qs).Nodup → (asK c qs).foldl (fun acc p => putK p.1 p.2 acc) (asK c ps) = asK c (ps ++ qs) := by
  induction qs with
  | nil => intro ps _; simp
  | cons q qs ih =>
    intro ps h
    simp only [List.map_cons, List.foldl_cons]
    rw [putK_same]
    have hq : insK ps q = ps ++ [q] := by
      unfold insK
      rw [if_neg]
      intro hc
      have := List.contains_iff_mem.mp hc
      rw [List.nodup_append] at h
      exact h.2.2 q this q (by simp) rfl
    rw [hq]
    have := ih (ps ++ [q]) (by simpa using h)
    simpa using this
theorem addK_asK (c : Int → Int) {ks : List Int} (hn : ks.Nodup) (i : Int) (h0 : ks.contains i = false → c i = 0) : addK (asK c ks) [(i, 1)] = asK (fun k => if k = i then c k + 1 else c k) (insK ks i) := by
  unfold addK
  have hcopy := copy_asK c ks [] (by simpa using hn)
  simp only [List.nil_append] at hcopy
  have hcopy' : (asK c ks).foldl (fun acc p => putK p.1 p.2 acc) [] = asK c ks := hcopy
  rw [hcopy']
  simp only [List.foldl_cons, List.foldl_nil]
  rw [asK_lookup]
  by_cases h : ks.contains i = true
  · rw [if_pos h]
    dsimp only
    rw [putK_asK c ks i _ (fun _ => trivial)]
    refine List.map_congr_left fun k _ => ?_
    by_cases e : k = i
    · simp [e]
    · simp [e]
  · rw [if_neg h]
    dsimp only
    rw [putK_asK c ks i _ (fun _ => trivial)]
    have := h0 (by simpa using h)
    refine List.map_congr_left fun k _ => ?_
    by_cases e : k = i
    · subst e; simp [this]
    · simp [e]
noncomputable def tabF (fs : List Int) (t : List (Int × Int)) : List (Int × Int) := fs.foldl (fun t i => addK t [(i, 1)]) t
theorem tab_inv : ∀ (fs pre ks : List Int), ks.Nodup → (∀ k, k ∈ ks ↔ k ∈ pre) → tabF fs (asK (fun k => (pre.count k : Int)) ks) = asK (fun k => ((pre ++ fs).count k : Int)) (fs.foldl insK ks) ∧ (fs.foldl insK ks).Nodup
  | [], pre, ks, hn, _ => by
    refine ⟨?_, hn⟩
    show asK _ _ = asK _ _
    rw [List.append_nil]
    rfl
  | i :: fs, pre, ks, hn, hm => by
    have h := tab_inv fs (pre ++ [i]) (insK ks i) (insK_nodup hn i) (fun k => by rw [insK_mem, hm, List.mem_append, List.mem_singleton])
    refine ⟨?_, h.2⟩
    have e : asK (fun k => if k = i then (pre.count k : Int) + 1 else (pre.count k : Int)) (insK ks i) = asK (fun k => ((pre ++ [i]).count k : Int)) (insK ks i) := by
      refine List.map_congr_left fun k _ => ?_
      dsimp only
      rw [List.count_append]
      by_cases hk : k = i
      · subst hk; simp
      · have : ¬ i = k := fun e => hk e.symm
        simp [hk, this, List.count_singleton]
    show tabF fs (addK (asK (fun k => (pre.count k : Int)) ks) [(i, 1)]) = _
    rw [addK_asK _ hn i (fun hc => ?_), e, h.1]
    · rw [List.append_assoc]; rfl
    · have : i ∉ pre := fun hp => by
        have := List.contains_iff_mem.mpr ((hm i).mpr hp)
        rw [hc] at this; cases this
      rw [List.count_eq_zero_of_not_mem this]; rfl
theorem tab_eq (fs : List Int) : tabF fs [] = dictL (fun i => i) (fun i => (fs.count i : Int)) fs ∧ ((tabF fs []).map (·.1)).Nodup := by
  have h := tab_inv fs [] [] List.nodup_nil (fun k => Iff.rfl)
  have h1 : tabF fs [] = asK (fun k => (fs.count k : Int)) (fs.foldl insK []) := by simpa using h.1
  refine ⟨?_, ?_⟩
  · rw [h1]
    exact (dictL_asK (fun k => (fs.count k : Int)) fs []).symm
  · rw [h1, List.map_map]
    have : ((fun p : Int × Int => p.1) ∘ fun k => (k, (fs.count k : Int))) = id := rfl
    rw [this, List.map_id]
    exact h.2
theorem sum_bump (c : Int → Int) (i : Int) : ∀ {ks : List Int}, ks.Nodup → (ks.map fun k => if k = i then c k + 1 else c k).sum = (ks.map c).sum + (if ks.contains i then 1 else 0)
  | [], _ => rfl
  | k :: ks, h => by
    rw [List.nodup_cons] at h
    have ih := sum_bump c i h.2
    simp only [List.map_cons, List.sum_cons, ih, List.contains_cons]
    by_cases e : k = i
    · subst e
      have : ks.contains k = false := by
        cases q : ks.contains k with
        | false => rfl
        | true => exact absurd (List.contains_iff_mem.mp q) h.1
      rw [this]
      simp; omega
    · have e2 : (i == k) = false := by simpa using fun x => e x.symm
      rw [e2, Bool.false_or, if_neg e]; omega
theorem tab_sum' : ∀ (fs : List Int) (c : Int → Int) (ks : List Int), ks.Nodup → (∀ k, ks.contains k = false → c k = 0) → ((tabF fs (asK c ks)).map (·.2)).sum = (ks.map c).sum + fs.length
  | [], c, ks, _, _ => by
    show ((asK c ks).map (·.2)).sum = _
    rw [List.map_map]
    simp; rfl
  | i :: fs, c, ks, hn, h0 => by
    show ((tabF fs (addK (asK c ks) [(i, 1)])).map (·.2)).sum = _
    rw [addK_asK c hn i (h0 i)]
    rw [tab_sum' fs _ _ (insK_nodup hn i) (fun k hk => ?_), List.length_cons]
    · have key : ((insK ks i).map fun k => if k = i then c k + 1 else c k).sum = (ks.map c).sum + 1 := by
        rw [sum_bump c i (insK_nodup hn i)]
        have : (insK ks i).contains i = true := List.contains_iff_mem.mpr (insK_mem.mpr (.inr rfl))
        rw [this, if_pos rfl]
        unfold insK
        split
        · rfl
        · rename_i hc
          rw [List.map_append, List.sum_append]
          have := h0 i (by simpa using hc)
          simp [this]
      rw [key]; omega
    · have hk' : k ∉ insK ks i := fun hm => by
        rw [List.contains_iff_mem.mpr hm] at hk; cases hk
      rw [insK_mem, not_or] at hk'
      rw [if_neg hk'.2]
      refine h0 k ?_
      cases q : ks.contains k with
      | false => rfl
      | true => exact absurd (List.contains_iff_mem.mp q) hk'.1
theorem tab_sum (fs : List Int) : ((tabF fs []).map (·.2)).sum = fs.length := by
  have := tab_sum' fs (fun _ => 0) [] List.nodup_nil (fun _ _ => rfl)
  simpa using this
theorem addK_len (t : List (Int × Int)) (i : Int) : (addK t [(i, 1)]).length ≤ t.length + 1 := by
  have h1 : ∀ (u acc : List (Int × Int)), (u.foldl (fun acc p => putK p.1 p.2 acc) acc).length ≤ acc.length + u.length := by
    intro u
    induction u with
    | nil => intro acc; simp
    | cons p u ih =>
      intro acc
      have := ih (putK p.1 p.2 acc)
      have := putK_len p.1 p.2 acc
      simp only [List.foldl_cons, List.length_cons]; omega
  have h2 := h1 t []
  unfold addK
  simp only [List.foldl_cons, List.foldl_nil]
  split
  · have := putK_len i (‹Int› + 1) (t.foldl (fun acc p => putK p.1 p.2 acc) [])
    simp only [List.length_nil] at h2; omega
  · have := putK_len i 1 (t.foldl (fun acc p => putK p.1 p.2 acc) [])
    simp only [List.length_nil] at h2; omega

theorem atRow (cut : List (List Int)) {p j : Nat} (h3 : (cut[p]!).length = 3) (hj : j < 3) : (rowOf cut p)[j]! = (cut[p]!)[j]! := by
  unfold rowOf
  rw [getElem!_pos _ j (by rw [List.length_append, h3]; omega), getElem!_pos _ j (by omega), List.getElem_append_left (by omega)]
theorem atPlace (cut : List (List Int)) {p : Nat} (h3 : (cut[p]!).length = 3) : (rowOf cut p)[3]! = 0 + (p : Int) := by
  unfold rowOf
  rw [getElem!_pos _ 3 (by rw [List.length_append, h3]; exact Nat.lt_succ_self 3), List.getElem_append_right (by omega)]
  simp [h3]
theorem atRank (cut : List (List Int)) {p j : Nat} (hj : j < 3) : (rankF cut p)[j]! = ((cut[p]!)[j]!, (0 + (p : Int)) * (2 * ((0 + (j : Int)).fmod 2) - 1)) := by
  unfold rankF
  rw [getElem!_pos _ j (by simpa using hj)]
  simp

theorem duel_gt (cut : List (List Int)) {p q j : Nat} (hp : (cut[p]!).length = 3) (hq : (cut[q]!).length = 3) (hj : j < 3) :
    (duelF (0 + (j : Int)) (-1) 3 (1 - 2 * ((0 + (j : Int)).fmod 2)) (rowOf cut p) (rowOf cut q) == -1) = gtF (rankF cut p)[j]! (rankF cut q)[j]! := by
  rw [atRank cut hj, atRank cut hj]
  unfold duelF gtF
  have e1 : (0 + (j : Int)).toNat = j := by omega
  have e3 : (3 : Int).toNat = 3 := rfl
  rw [e1, e3, atRow cut hp hj, atRow cut hq hj, atPlace cut hp, atPlace cut hq]
  have hj3 : j = 0 ∨ j = 1 ∨ j = 2 := by omega
  generalize (cut[p]!)[j]! = a
  generalize (cut[q]!)[j]! = b
  dsimp only
  rcases Int.lt_trichotomy a b with h | h | h
  · rw [if_pos h]
    have h1 : (a == b) = false := by simp; omega
    rw [h1]
    have h2 : decide (b < a) = false := by simp; omega
    simp [h2]
  · subst h
    have h1 : (a == a) = true := by simp
    rw [h1, if_neg (Int.lt_irrefl a), if_neg (Int.lt_irrefl a)]
    have hm : (0 + (j : Int)).fmod 2 = if j = 1 then 1 else 0 := by rcases hj3 with rfl | rfl | rfl <;> rfl
    rw [hm]
    rcases Int.lt_trichotomy (p : Int) q with h | h | h
    · rw [if_pos (by omega)]
      rcases hj3 with rfl | rfl | rfl <;> simp <;> omega
    · rw [if_neg (by omega), if_neg (by omega)]
      rcases hj3 with rfl | rfl | rfl <;> simp <;> omega
    · rw [if_neg (by omega), if_pos (by omega)]
      rcases hj3 with rfl | rfl | rfl <;> simp <;> omega
  · rw [if_neg (by omega), if_pos h]
    have h1 : (a == b) = false := by simp; omega
    rw [h1]
    have h2 : decide (b < a) = true := by simp; omega
    simp [h2]

theorem count_filter {f : Nat → Int} {g : Nat → Bool} : ∀ {l : List Nat}, (∀ j, j ∈ l → (f j == -1) = g j) → (l.map f).count (-1) = (l.filter g).length
  | [], _ => rfl
  | j :: l, h => by
    have ih := count_filter fun k hk => h k (List.mem_cons_of_mem _ hk)
    have hj := h j List.mem_cons_self
    rw [List.map_cons, List.count_cons, ih, hj]
    cases q : g j with
    | true => rw [List.filter_cons_of_pos q]; simp
    | false => rw [List.filter_cons_of_neg (by rw [q]; decide)]; simp

noncomputable def beatT (cut : List (List Int)) (p q : Nat) : Bool := aheadF (rankF cut p) (rankF cut q)
theorem beat_ahead (cut : List (List Int)) {p q : Nat} (hp : (cut[p]!).length = 3) (hq : (cut[q]!).length = 3) : beatF (rowOf cut p) (rowOf cut q) = beatT cut p q := by
  unfold beatF beatT aheadF
  rw [count_filter (g := fun part => gtF (rankF cut p)[part]! (rankF cut q)[part]!) (fun j hj => duel_gt cut hp hq (List.mem_range.mp hj))]

theorem plain_eq (cut : List (List Int)) : plainF cut = (List.range 5).map fun p => (List.range 5).map fun q => beatT cut p q := by
  unfold plainF ranksF
  rw [List.map_map]
  refine List.map_congr_left fun p _ => ?_
  show ((List.range 5).map (rankF cut)).map _ = _
  rw [List.map_map]
  rfl
theorem duels_eq (cut : List (List Int)) (hl : cut.length = 5) (h3 : ∀ r, r ∈ cut → r.length = 3) : duelsF cut = plainF cut := by
  rw [plain_eq]
  unfold duelsF rowsOf
  rw [List.map_map]
  refine List.map_congr_left fun p hp => ?_
  show ((List.range 5).map (rowOf cut)).map _ = _
  rw [List.map_map]
  refine List.map_congr_left fun q hq => ?_
  have hp := List.mem_range.mp hp
  have hq := List.mem_range.mp hq
  exact beat_ahead cut (h3 _ (get_mem (by omega))) (h3 _ (get_mem (by omega)))

theorem gt_irrefl (a : Int × Int) : gtF a a = false := by unfold gtF; simp
theorem gt_flip (cut : List (List Int)) {p q j : Nat} (hpq : p ≠ q) (hj : j < 3) : gtF (rankF cut q)[j]! (rankF cut p)[j]! = !gtF (rankF cut p)[j]! (rankF cut q)[j]! := by
  rw [atRank cut hj, atRank cut hj]
  unfold gtF
  generalize (cut[p]!)[j]! = a
  generalize (cut[q]!)[j]! = b
  have hj3 : j = 0 ∨ j = 1 ∨ j = 2 := by omega
  have hm : (2 * ((0 + (j : Int)).fmod 2) - 1 : Int) = if j = 1 then 1 else -1 := by rcases hj3 with rfl | rfl | rfl <;> rfl
  rw [hm]
  have key : decide ((0 + (p : Int)) * (if j = 1 then 1 else -1) < (0 + (q : Int)) * (if j = 1 then 1 else -1)) = !decide ((0 + (q : Int)) * (if j = 1 then 1 else -1) < (0 + (p : Int)) * (if j = 1 then 1 else -1)) := by
    by_cases e : j = 1
    · rw [if_pos e, Int.mul_one, Int.mul_one]
      by_cases h : (0 + (p : Int)) < 0 + (q : Int)
      · rw [decide_eq_true h, decide_eq_false (by omega)]; rfl
      · rw [decide_eq_false h, decide_eq_true (by omega)]; rfl
    · rw [if_neg e, Int.mul_neg_one, Int.mul_neg_one]
      by_cases h : -(0 + (p : Int)) < -(0 + (q : Int))
      · rw [decide_eq_true h, decide_eq_false (by omega)]; rfl
      · rw [decide_eq_false h, decide_eq_true (by omega)]; rfl
  dsimp only
  rcases Int.lt_trichotomy a b with h | h | h
  · have h1 : (b == a) = false := by simp; omega
    have h2 : (a == b) = false := by simp; omega
    rw [h1, h2, if_neg Bool.false_ne_true, if_neg Bool.false_ne_true, decide_eq_true h, decide_eq_false (by omega)]; rfl
  · subst h
    have h1 : (a == a) = true := by simp
    rw [h1, if_pos rfl, if_pos rfl]
    exact key
  · have h1 : (b == a) = false := by simp; omega
    have h2 : (a == b) = false := by simp; omega
    rw [h1, h2, if_neg Bool.false_ne_true, if_neg Bool.false_ne_true, decide_eq_false (by omega), decide_eq_true h]; rfl
theorem beat_self (cut : List (List Int)) (p : Nat) : beatT cut p p = false := by
  unfold beatT aheadF
  have : (List.range 3).filter (fun part => gtF (rankF cut p)[part]! (rankF cut p)[part]!) = [] := by
    rw [List.filter_eq_nil_iff]
    intro j _
    rw [gt_irrefl]; decide
  rw [this]; rfl
theorem beat_flip (cut : List (List Int)) {p q : Nat} (hpq : p ≠ q) : beatT cut q p = !beatT cut p q := by
  unfold beatT aheadF
  have e : ∀ l : List Nat, (∀ j, j ∈ l → j < 3) → (l.filter fun part => gtF (rankF cut q)[part]! (rankF cut p)[part]!).length + (l.filter fun part => gtF (rankF cut p)[part]! (rankF cut q)[part]!).length = l.length := by
    intro l
    induction l with
    | nil => intro _; rfl
    | cons j l ih =>
      intro h
      have ih := ih fun k hk => h k (List.mem_cons_of_mem _ hk)
      have hf := gt_flip cut hpq (h j List.mem_cons_self)
      cases c : gtF (rankF cut p)[j]! (rankF cut q)[j]! with
      | true =>
        rw [c] at hf
        rw [List.filter_cons_of_neg (by rw [hf]; decide), List.filter_cons_of_pos (by rw [c]), List.length_cons, List.length_cons]; omega
      | false =>
        rw [c] at hf
        rw [List.filter_cons_of_pos (by rw [hf]; decide), List.filter_cons_of_neg (by rw [c]; decide), List.length_cons, List.length_cons]; omega
  have := e (List.range 3) fun j hj => List.mem_range.mp hj
  rw [List.length_range] at this
  generalize ((List.range 3).filter fun part => gtF (rankF cut q)[part]! (rankF cut p)[part]!).length = x at *
  generalize ((List.range 3).filter fun part => gtF (rankF cut p)[part]! (rankF cut q)[part]!).length = y at *
  by_cases h : (1 : Int) < y
  · rw [decide_eq_true h, decide_eq_false (by omega)]; rfl
  · rw [decide_eq_false h, decide_eq_true (by omega)]; rfl
theorem plain_mat (cut : List (List Int)) : plainF cut = mat (beatT cut 0 1) (beatT cut 0 2) (beatT cut 0 3) (beatT cut 0 4) (beatT cut 1 2) (beatT cut 1 3) (beatT cut 1 4) (beatT cut 2 3) (beatT cut 2 4) (beatT cut 3 4) := by
  rw [plain_eq]
  simp only [range5, List.map_cons, List.map_nil, beat_self, beat_flip cut (show 0 ≠ 1 by decide), beat_flip cut (show 0 ≠ 2 by decide), beat_flip cut (show 0 ≠ 3 by decide), beat_flip cut (show 0 ≠ 4 by decide), beat_flip cut (show 1 ≠ 2 by decide), beat_flip cut (show 1 ≠ 3 by decide),
    beat_flip cut (show 1 ≠ 4 by decide), beat_flip cut (show 2 ≠ 3 by decide), beat_flip cut (show 2 ≠ 4 by decide), beat_flip cut (show 3 ≠ 4 by decide)]
  rfl

noncomputable def digs : Nat → Nat → List UInt8
  | 0, _ => []
  | k + 1, n => digs k (n / 16) ++ [65 + UInt8.ofNat (n % 16)]
theorem digs_len : ∀ k n, (digs k n).length = k
  | 0, _ => rfl
  | k + 1, n => by unfold digs; rw [List.length_append, digs_len k]; rfl
theorem digs_zero : ∀ k, digs k 0 = List.replicate k 65
  | 0 => rfl
  | k + 1 => by
    unfold digs
    rw [Nat.zero_div, digs_zero k, List.replicate_succ']
    rfl
theorem digs_snoc {k n f : Nat} (hf : f < 16) : digs (k + 1) (16 * n + f) = digs k n ++ [65 + UInt8.ofNat f] := by
  rw [digs, show (16 * n + f) / 16 = n by omega, show (16 * n + f) % 16 = f by omega]
theorem rjust_digs : ∀ k n, n < 16 ^ k → (apOf n).length ≤ k ∧ List.replicate (k - (apOf n).length) 65 ++ apOf n = digs k n
  | 0, n, h => by
    have : n = 0 := by simpa using h
    subst this
    simp [apOf_zero, digs]
  | k + 1, 0, _ => by
    rw [digs_zero]
    simp [apOf_zero]
  | k + 1, n + 1, h => by
    have h2 : (n + 1) / 16 < 16 ^ k := by
      rw [Nat.pow_succ] at h
      exact Nat.div_lt_of_lt_mul (by rw [Nat.mul_comm]; exact h)
    obtain ⟨h3, h4⟩ := rjust_digs k _ h2
    rw [apOf_succ, digs, ← h4, List.length_append, List.length_singleton]
    refine ⟨by omega, ?_⟩
    rw [show k + 1 - ((apOf ((n + 1) / 16)).length + 1) = k - (apOf ((n + 1) / 16)).length by omega, List.append_assoc]
noncomputable def rowWins (row : List Bool) : List Int := ((List.range 5).filter fun o : Nat => row[o]!).map fun o : Nat => 0 + (o : Int)
noncomputable def rowOk (p : Nat) (row : List Bool) : Bool := decide ((rowN row p (List.range 5) 0).toNat < 16) && (rowN row p (List.range 5) 0 == (((rowN row p (List.range 5) 0).toNat : Nat) : Int)) && (winF (65 + UInt8.ofNat (rowN row p (List.range 5) 0).toNat) p == rowWins row)
theorem rows_ok : ∀ a b c d : Bool, (rowOk 0 [false, a, b, c, d] && rowOk 1 [a, false, b, c, d] && rowOk 2 [a, b, false, c, d] && rowOk 3 [a, b, c, false, d] && rowOk 4 [a, b, c, d, false]) = true := by decide +kernel
theorem rowOk_out {p : Nat} {row : List Bool} (h : rowOk p row = true) : ∃ f : Nat, f < 16 ∧ rowN row p (List.range 5) 0 = f ∧ winF (65 + UInt8.ofNat f) p = rowWins row := by
  unfold rowOk at h
  simp only [Bool.and_eq_true, decide_eq_true_eq, beq_iff_eq] at h
  exact ⟨_, h.1.1, h.1.2, h.2⟩
noncomputable def winsT (T : List (List Bool)) : List (List Int) := (List.range 5).map fun p => rowWins T[p]!
theorem word_ok (b01 b02 b03 b04 b12 b13 b14 b23 b24 b34 : Bool) : ∃ n : Nat, n < 1048576 ∧ numN (mat b01 b02 b03 b04 b12 b13 b14 b23 b24 b34) (List.range 5) 0 = n ∧ winsF (digs 5 n) (List.range 5) = winsT (mat b01 b02 b03 b04 b12 b13 b14 b23 b24 b34) := by
  have split : ∀ {a b c d e : Bool}, (a && b && c && d && e) = true → a = true ∧ b = true ∧ c = true ∧ d = true ∧ e = true := by decide
  obtain ⟨f0, h0, e0, w0⟩ := rowOk_out (split (rows_ok b01 b02 b03 b04)).1
  obtain ⟨f1, h1, e1, w1⟩ := rowOk_out (split (rows_ok (!b01) b12 b13 b14)).2.1
  obtain ⟨f2, h2, e2, w2⟩ := rowOk_out (split (rows_ok (!b02) (!b12) b23 b24)).2.2.1
  obtain ⟨f3, h3, e3, w3⟩ := rowOk_out (split (rows_ok (!b03) (!b13) (!b23) b34)).2.2.2.1
  obtain ⟨f4, h4, e4, w4⟩ := rowOk_out (split (rows_ok (!b04) (!b14) (!b24) (!b34))).2.2.2.2
  refine ⟨16 * (16 * (16 * (16 * (16 * 0 + f0) + f1) + f2) + f3) + f4, by omega, ?_, ?_⟩
  · show 16 * (16 * (16 * (16 * (16 * 0 + rowN _ 0 (List.range 5) 0) + rowN _ 1 (List.range 5) 0) + rowN _ 2 (List.range 5) 0) + rowN _ 3 (List.range 5) 0) + rowN _ 4 (List.range 5) 0 = _
    have g0 : rowN (mat b01 b02 b03 b04 b12 b13 b14 b23 b24 b34)[0]! 0 (List.range 5) 0 = f0 := e0
    have g1 : rowN (mat b01 b02 b03 b04 b12 b13 b14 b23 b24 b34)[1]! 1 (List.range 5) 0 = f1 := e1
    have g2 : rowN (mat b01 b02 b03 b04 b12 b13 b14 b23 b24 b34)[2]! 2 (List.range 5) 0 = f2 := e2
    have g3 : rowN (mat b01 b02 b03 b04 b12 b13 b14 b23 b24 b34)[3]! 3 (List.range 5) 0 = f3 := e3
    have g4 : rowN (mat b01 b02 b03 b04 b12 b13 b14 b23 b24 b34)[4]! 4 (List.range 5) 0 = f4 := e4
    rw [g0, g1, g2, g3, g4]
    omega
  · rw [digs_snoc h4, digs_snoc h3, digs_snoc h2, digs_snoc h1, digs_snoc h0]
    show [winF (65 + UInt8.ofNat f0) 0, winF (65 + UInt8.ofNat f1) 1, winF (65 + UInt8.ofNat f2) 2, winF (65 + UInt8.ofNat f3) 3, winF (65 + UInt8.ofNat f4) 4] = _
    rw [w0, w1, w2, w3, w4]
    rfl

theorem plain_facts (cut : List (List Int)) : ∃ T : List (List Bool), plainF cut = T ∧ T.length = 5 ∧ (∀ r, r ∈ T → r.length = 5) ∧ pathsN T = 1 + 2 * ringsN T ∧ ∃ n : Nat, n < 1048576 ∧ numN T (List.range 5) 0 = n ∧ winsF (digs 5 n) (List.range 5) = winsT T := by
  rw [plain_mat]
  refine ⟨_, rfl, rfl, fun r h => ?_, redei _ _ _ _ _ _ _ _ _ _, word_ok _ _ _ _ _ _ _ _ _ _⟩
  simp only [mat, List.mem_cons, List.not_mem_nil, or_false] at h
  rcases h with rfl | rfl | rfl | rfl | rfl <;> rfl

theorem ifap {c : Bool} {n : Nat} {F : List D → (D → Prop) → Prop} {K : D → Prop} (h : ∀ m : Int, m.natAbs = n → F [.int m] K) : (c = true → F [.int n] K) ∧ (c = false → F [.int (-n)] K) :=
  ⟨fun _ => h _ (by simp), fun _ => h _ (by simp)⟩
noncomputable abbrev gR (r : List Nat) : D := dI (phi r)
noncomputable def rows0 : List (List Nat) := (List.range 5).map fun p => [p]

noncomputable def PathOk (k : Nat) (rows : List (List Nat)) : Prop := (∀ r, r ∈ rows → r ≠ [] ∧ r.length + k ≤ 6 ∧ ∀ x, x ∈ r → x < 5) ∧ rows.length * 5 ^ k ≤ 3125
theorem hd0_mem {r : List Nat} (h : r ≠ []) : hd0 r ∈ r := by
  cases r with
  | nil => exact absurd rfl h
  | cons x r => exact List.mem_cons_self
theorem pathOk_step {T : List (List Bool)} {k : Nat} {rows : List (List Nat)} (h : PathOk (k + 1) rows) : PathOk k (stepR T rows) := by
  obtain ⟨h1, h2⟩ := h
  refine ⟨fun r hr => ?_, ?_⟩
  · unfold stepR at hr
    obtain ⟨r', h3, h4⟩ := List.mem_flatMap.mp hr
    obtain ⟨x, h5, rfl⟩ := List.mem_map.mp h4
    have hx := List.mem_range.mp (List.mem_filter.mp h5).1
    obtain ⟨_, a, b⟩ := h1 r' h3
    refine ⟨List.cons_ne_nil _ _, by rw [List.length_cons]; omega, fun y hy => ?_⟩
    rcases List.mem_cons.mp hy with rfl | hy
    · exact hx
    · exact b y hy
  · rw [Nat.pow_succ] at h2
    have hsl : (stepR T rows).length ≤ rows.length * 5 := by
      unfold stepR
      rw [List.length_flatMap]
      refine sum_le _ _ fun row _ => ?_
      rw [List.length_map]
      exact Nat.le_trans (List.length_filter_le _ _) (by simp)
    calc (stepR T rows).length * 5 ^ k ≤ rows.length * 5 * 5 ^ k := Nat.mul_le_mul_right _ hsl
      _ = rows.length * (5 ^ k * 5) := by rw [Nat.mul_assoc, Nat.mul_comm 5]
      _ ≤ 3125 := h2
theorem pathOk_len {k : Nat} {rows : List (List Nat)} (h : PathOk k rows) : rows.length ≤ 3125 := by
  have : 1 ≤ 5 ^ k := Nat.one_le_pow _ _ (by decide)
  calc rows.length = rows.length * 1 := (Nat.mul_one _).symm
    _ ≤ rows.length * 5 ^ k := Nat.mul_le_mul_left _ this
    _ ≤ 3125 := h.2
theorem wins_at {T : List (List Bool)} (h5 : T.length = 5) {v : Nat} (hv : v < 5) : (winsT T)[v]! = ((List.range 5).filter fun o => atT T v o).map fun o : Nat => 0 + (o : Int) := by
  unfold winsT
  rw [getElem!_pos _ v (by simpa using hv)]
  simp [rowWins, atT]

theorem fold_marks : ∀ (n : Nat) (acc : Array Nat), ((List.replicate n (#[34] : Array Nat)).foldl (· ++ ·) acc).toList = acc.toList ++ List.replicate n 34
  | 0, acc => by simp
  | n + 1, acc => by
    rw [List.replicate_succ, List.foldl_cons, fold_marks n, List.replicate_succ]
    simp
theorem q_cps : (Str.ofString "\"").cps = #[34] := by decide +kernel
theorem q_len : (Str.ofString "\"").length = 1 := by decide +kernel
theorem marks (k : Nat) : (Txt.mul (Str.ofString "\"") (k : Int)).cps.toList = List.replicate k 34 := by
  unfold Txt.mul
  rw [q_len, q_cps]
  by_cases h0 : (k : Int) < 1
  · rw [if_pos h0]
    have : k = 0 := by omega
    subst this
    rfl
  · rw [if_neg h0]
    by_cases h1 : k = 1
    · subst h1
      show (Str.ofString "\"").cps.toList = _
      rw [q_cps]; rfl
    · rw [if_neg (by simp; omega), Int.toNat_natCast]
      show ((List.replicate k (#[34] : Array Nat)).foldl (· ++ ·) #[]).toList = _
      rw [fold_marks]; simp
theorem marks_ok {k : Nat} (h : k ≤ 100000) : MulOk (Str.ofString "\"") (k : Int) := by
  unfold MulOk
  rw [q_len]
  refine ⟨?_, fun h1 h2 => ?_, fun h1 h2 => ?_⟩
  · simp only [Bool.or_eq_false_iff, decide_eq_false_iff_not]; omega
  · have hk : (0 : Int) < k := by omega
    have : (1 : Int) ≤ (2 ^ 63 - 1) / k := (Int.le_ediv_iff_mul_le hk).mpr (by omega)
    show ¬ (((1 : Nat) : Int) > (2 ^ 63 - 1) / (k : Int))
    omega
  · unfold Builtin.Str.tooLong
    rw [Int.toNat_natCast]
    exact decide_eq_false (by have : (1 : Nat) * k ≤ sizeLine := sl (by omega); omega)
theorem cntQ_le (T : List (List Bool)) (f : Nat) : ∀ k r, cntQ T f k r ≤ 4 ^ k
  | 0, r => by unfold cntQ; split <;> decide
  | k + 1, r => by
    unfold cntQ
    have := sum_le (fun x => if mayR T f r x = true then cntQ T f k ((f + 1 + x) :: r) else 0) (4 ^ k) (l := List.range (4 - f)) (fun x _ => by
      split
      · exact cntQ_le T f k _
      · exact Nat.zero_le _)
    refine Nat.le_trans this ?_
    rw [Nat.pow_succ, List.length_range, Nat.mul_comm (4 ^ k)]
    exact Nat.mul_le_mul_right _ (by omega)
theorem ringsN_le (T : List (List Bool)) : ringsN T ≤ 304 := by
  unfold ringsN
  have h0 := cntQ_le T 0 2 [0]
  have h1 := cntQ_le T 1 2 [1]
  have h2 := cntQ_le T 2 2 [2]
  have h3 := cntQ_le T 0 4 [0]
  omega

theorem c_dself {ks : List (Int × Int)} {pb : Bool → Prop} (hn : (ks.map (·.1)).Nodup) (h : pb false) : cmpW .NotEq (.dict ks) (.dict ks) pb := ⟨⟨rfl, hn⟩, h⟩

theorem shaped_ii (L : List (List Int)) : PySem.SeqAt.shaped (.list (L.map fun l => .list (l.map PyData.int))) = true := by
  have h1 : PyData.canLayAll0 (L.map fun l => .list (l.map PyData.int)) = true ∧ PyData.depthAll (L.map fun l => .list (l.map PyData.int)) ≤ 2 := by
    induction L with
    | nil => simp [PyData.canLayAll0, PyData.depthAll]
    | cons l L ih =>
      have h2 := W.depthAll_ints l
      have h3 := W.canLayAll0_ints l
      simp only [List.map_cons, PyData.canLayAll0, PyData.canLay0, PyData.depthAll, PyData.depth, h3, ih.1, Bool.and_self, true_and]
      omega
  show (PyData.canLay0 _ && decide (PyData.depth _ ≤ 64)) = true
  rw [Bool.and_eq_true]
  refine ⟨by simp only [PyData.canLay0]; exact h1.1, decide_eq_true ?_⟩
  simp only [PyData.depth]; omega

set_option maxHeartbeats 8000000 in
theorem d_law (P : Params) : Def1 P 151 allNames tab lawW := by
  refine ⟨_, _, [Str.ofString "script"], fun h X => ⟨_, _, X 151 _ rfl, rfl, rfl, rfl, rfl, rfl, rfl, codeRec_of X (by kernel_rfl), len1 fun a => rfl⟩, by decide +kernel, by decide +kernel, ?_⟩
  intro ds post hp
  obtain ⟨ns, rfl, hlen, hpost⟩ := hp
  · refine ⟨rfl, ?_⟩
    simp only [List.zip_cons_cons, List.zip_nil_right]
    (simp only [↓n_here, ↓n_off, ↓n_none, ↓n_bindHere, ↓n_bindOff, ↓n_inner, ↓r_here, ↓r_off, ↓r_mu, ↓is_F, ↓is_I, ↓is_K, ↓e_int, ↓e_flt, ↓e_str, ↓e_byt, ↓e_bool, ↓e_name, ↓e_bin, ↓e_neg, ↓e_list, ↓e_tup, ↓e_dict0, ↓e_dict1, ↓e_cmp, ↓e_and, ↓e_slice, ↓e_sub1, ↓e_sub2, ↓e_sub3, ↓e_sub4, ↓e_att, ↓e_meth, ↓e_call, ↓e_isi, ↓e_comp, ↓e_dcomp, ↓e_ifN, ↓e_ifc, ↓ss_nil, ↓ss_cons, ↓s_nilM, ↓s_dictM, ↓s_dictN, ↓s_bin, ↓s_call, ↓s_comp, ↓s_const, ↓s_list, ↓s_sub, ↓s_neg, ↓s_tup2, ↓s_tup3, ↓s_put, ↓s_aug, ↓s_augput, ↓s_items, ↓s_values, ↓s_for, ↓s_forN, ↓s_forA, ↓s_while, ↓s_clamp, ↓s_ret, ↓s_in, ↓s_ifNotEqRaise, ↓s_ifNotEqRet, ↓s_ifNotEqAsg, ↓s_ifEqIf, ↓s_ifLtRet, ↓s_ifGtRet, ↓s_ifOr, ↓s_ifIsi, ↓s_retT, ↓s_retC, ↓s_retK, ↓s_retU, ↓s_retB, ↓s_app, ↓s_brk, ↓b_iadd, ↓b_isub, ↓b_imul, ↓b_ifd, ↓b_imod, ↓b_ipow, ↓b_idiv, ↓b_fadd, ↓b_fsub, ↓b_fmul, ↓b_ifmul, ↓b_ladd, ↓b_sadd, ↓b_badd, ↓b_smul, ↓c_ieq, ↓c_ine, ↓c_ilt, ↓c_igt, ↓c_ige, ↓c_flt, ↓c_fgt, ↓c_seq, ↓c_sne, ↓c_tgt, ↓l_nil, ↓l_cons, ↓t_cmp, ↓t_name, ↓t_sub, ↓t_call, ↓t_and, ↓t_or, ↓t1_cmp, ↓t1_sub, ↓tr_b, ↓tr_i, ↓u_pair, ↓u_three, ↓m_none, ↓m_some, ↓o_none, ↓o_some, ↓i_list, ↓i_tup, ↓i_range, ↓x_str, ↓x_byt, ↓k_range1, ↓k_range2, ↓k_lenL, ↓k_lenS, ↓k_sum, ↓k_round, ↓k_min, ↓k_max, ↓k_abs, ↓k_int, ↓k_divmod, ↓k_fn, ↓w_count, ↓w_rjust, ↓w_cmp, ↓p_count, ↓p_rjust, ↓p_cmp, ↓z_bhh, ↓z_s0h, ↓z_slh, ↓z_lst, ↓f_nil, ↓f_cons, ↓ts_nil, ↓ts_one, ↓true_and, ↓and_true, ↓if_true, ↓if_false, ne_eq, strEq, String.reduceEq, not_false_eq_true, not_true_eq_false, ↓reduceCtorEq, ↓List.append_nil, ↓reduceIte, List.mem_cons, List.not_mem_nil, or_false, false_or, or_self, mut_eq, decide_true, decide_false, Bool.or_true, Bool.true_or, Bool.or_false, Bool.or_self, List.lookup_cons, strBeq])
    rw [g_lamps]
    refine ⟨ns, rfl, hlen, fun lamps hl5 hl3 => ?_⟩
    dsimp only [dII]
    rw [i_list]
    refine ⟨by simp [hl5], ?_⟩
    have h3 : ∀ l, l ∈ lamps → ∃ a b c : Int, l = [a, b, c] ∧ (-4 ≤ a ∧ a ≤ 20) ∧ (-4 ≤ b ∧ b ≤ 20) ∧ (-4 ≤ c ∧ c ≤ 20) := fun l h => by
      obtain ⟨h1, h2⟩ := hl3 l h
      match l, h1 with
      | [a, b, c], _ => exact ⟨a, b, c, rfl, h2 a (by simp), h2 b (by simp), h2 c (by simp)⟩
    refine comp_M dI (fun l => dI (l.map clI)) (fun l hl q hq => ?_) (by omega) ?_
    · obtain ⟨a, b, c, rfl, ha, hb, hc⟩ := h3 l hl
      (simp only [↓n_here, ↓n_off, ↓n_none, ↓n_bindHere, ↓n_bindOff, ↓n_inner, ↓r_here, ↓r_off, ↓r_mu, ↓is_F, ↓is_I, ↓is_K, ↓e_int, ↓e_flt, ↓e_str, ↓e_byt, ↓e_bool, ↓e_name, ↓e_bin, ↓e_neg, ↓e_list, ↓e_tup, ↓e_dict0, ↓e_dict1, ↓e_cmp, ↓e_and, ↓e_slice, ↓e_sub1, ↓e_sub2, ↓e_sub3, ↓e_sub4, ↓e_att, ↓e_meth, ↓e_call, ↓e_isi, ↓e_comp, ↓e_dcomp, ↓e_ifN, ↓e_ifc, ↓ss_nil, ↓ss_cons, ↓s_nilM, ↓s_dictM, ↓s_dictN, ↓s_bin, ↓s_call, ↓s_comp, ↓s_const, ↓s_list, ↓s_sub, ↓s_neg, ↓s_tup2, ↓s_tup3, ↓s_put, ↓s_aug, ↓s_augput, ↓s_items, ↓s_values, ↓s_for, ↓s_forN, ↓s_forA, ↓s_while, ↓s_clamp, ↓s_ret, ↓s_in, ↓s_ifNotEqRaise, ↓s_ifNotEqRet, ↓s_ifNotEqAsg, ↓s_ifEqIf, ↓s_ifLtRet, ↓s_ifGtRet, ↓s_ifOr, ↓s_ifIsi, ↓s_retT, ↓s_retC, ↓s_retK, ↓s_retU, ↓s_retB, ↓s_app, ↓s_brk, ↓b_iadd, ↓b_isub, ↓b_imul, ↓b_ifd, ↓b_imod, ↓b_ipow, ↓b_idiv, ↓b_fadd, ↓b_fsub, ↓b_fmul, ↓b_ifmul, ↓b_ladd, ↓b_sadd, ↓b_badd, ↓b_smul, ↓c_ieq, ↓c_ine, ↓c_ilt, ↓c_igt, ↓c_ige, ↓c_flt, ↓c_fgt, ↓c_seq, ↓c_sne, ↓c_tgt, ↓l_nil, ↓l_cons, ↓t_cmp, ↓t_name, ↓t_sub, ↓t_call, ↓t_and, ↓t_or, ↓t1_cmp, ↓t1_sub, ↓tr_b, ↓tr_i, ↓u_pair, ↓u_three, ↓m_none, ↓m_some, ↓o_none, ↓o_some, ↓i_list, ↓i_tup, ↓i_range, ↓x_str, ↓x_byt, ↓k_range1, ↓k_range2, ↓k_lenL, ↓k_lenS, ↓k_sum, ↓k_round, ↓k_min, ↓k_max, ↓k_abs, ↓k_int, ↓k_divmod, ↓k_fn, ↓w_count, ↓w_rjust, ↓w_cmp, ↓p_count, ↓p_rjust, ↓p_cmp, ↓z_bhh, ↓z_s0h, ↓z_slh, ↓z_lst, ↓f_nil, ↓f_cons, ↓ts_nil, ↓ts_one, ↓true_and, ↓and_true, ↓if_true, ↓if_false, ne_eq, strEq, String.reduceEq, not_false_eq_true, not_true_eq_false, ↓reduceCtorEq, ↓List.append_nil, ↓reduceIte, List.mem_cons, List.not_mem_nil, or_false, false_or, or_self, mut_eq, decide_true, decide_false, Bool.or_true, Bool.true_or, Bool.or_false, Bool.or_self, List.lookup_cons, strBeq])
      rw [g_film]
      exact ⟨a, b, c, rfl, ha, hb, hc, hq⟩
    rw [i_list]
    refine ⟨by simp [hl5], ?_⟩
    refine comp_M dI (fun l => dI (l.map clI)) (fun l hl q hq => ?_) (by omega) ?_
    · obtain ⟨a, b, c, rfl, ha, hb, hc⟩ := h3 l hl
      (simp only [↓n_here, ↓n_off, ↓n_none, ↓n_bindHere, ↓n_bindOff, ↓n_inner, ↓r_here, ↓r_off, ↓r_mu, ↓is_F, ↓is_I, ↓is_K, ↓e_int, ↓e_flt, ↓e_str, ↓e_byt, ↓e_bool, ↓e_name, ↓e_bin, ↓e_neg, ↓e_list, ↓e_tup, ↓e_dict0, ↓e_dict1, ↓e_cmp, ↓e_and, ↓e_slice, ↓e_sub1, ↓e_sub2, ↓e_sub3, ↓e_sub4, ↓e_att, ↓e_meth, ↓e_call, ↓e_isi, ↓e_comp, ↓e_dcomp, ↓e_ifN, ↓e_ifc, ↓ss_nil, ↓ss_cons, ↓s_nilM, ↓s_dictM, ↓s_dictN, ↓s_bin, ↓s_call, ↓s_comp, ↓s_const, ↓s_list, ↓s_sub, ↓s_neg, ↓s_tup2, ↓s_tup3, ↓s_put, ↓s_aug, ↓s_augput, ↓s_items, ↓s_values, ↓s_for, ↓s_forN, ↓s_forA, ↓s_while, ↓s_clamp, ↓s_ret, ↓s_in, ↓s_ifNotEqRaise, ↓s_ifNotEqRet, ↓s_ifNotEqAsg, ↓s_ifEqIf, ↓s_ifLtRet, ↓s_ifGtRet, ↓s_ifOr, ↓s_ifIsi, ↓s_retT, ↓s_retC, ↓s_retK, ↓s_retU, ↓s_retB, ↓s_app, ↓s_brk, ↓b_iadd, ↓b_isub, ↓b_imul, ↓b_ifd, ↓b_imod, ↓b_ipow, ↓b_idiv, ↓b_fadd, ↓b_fsub, ↓b_fmul, ↓b_ifmul, ↓b_ladd, ↓b_sadd, ↓b_badd, ↓b_smul, ↓c_ieq, ↓c_ine, ↓c_ilt, ↓c_igt, ↓c_ige, ↓c_flt, ↓c_fgt, ↓c_seq, ↓c_sne, ↓c_tgt, ↓l_nil, ↓l_cons, ↓t_cmp, ↓t_name, ↓t_sub, ↓t_call, ↓t_and, ↓t_or, ↓t1_cmp, ↓t1_sub, ↓tr_b, ↓tr_i, ↓u_pair, ↓u_three, ↓m_none, ↓m_some, ↓o_none, ↓o_some, ↓i_list, ↓i_tup, ↓i_range, ↓x_str, ↓x_byt, ↓k_range1, ↓k_range2, ↓k_lenL, ↓k_lenS, ↓k_sum, ↓k_round, ↓k_min, ↓k_max, ↓k_abs, ↓k_int, ↓k_divmod, ↓k_fn, ↓w_count, ↓w_rjust, ↓w_cmp, ↓p_count, ↓p_rjust, ↓p_cmp, ↓z_bhh, ↓z_s0h, ↓z_slh, ↓z_lst, ↓f_nil, ↓f_cons, ↓ts_nil, ↓ts_one, ↓true_and, ↓and_true, ↓if_true, ↓if_false, ne_eq, strEq, String.reduceEq, not_false_eq_true, not_true_eq_false, ↓reduceCtorEq, ↓List.append_nil, ↓reduceIte, List.mem_cons, List.not_mem_nil, or_false, false_or, or_self, mut_eq, decide_true, decide_false, Bool.or_true, Bool.true_or, Bool.or_false, Bool.or_self, List.lookup_cons, strBeq])
      refine ⟨by simp, ?_⟩
      refine comp_M D.int (fun x => D.int (clI x)) (fun x hx q hq => ?_) (by simp) ?_
      · (simp only [↓n_here, ↓n_off, ↓n_none, ↓n_bindHere, ↓n_bindOff, ↓n_inner, ↓r_here, ↓r_off, ↓r_mu, ↓is_F, ↓is_I, ↓is_K, ↓e_int, ↓e_flt, ↓e_str, ↓e_byt, ↓e_bool, ↓e_name, ↓e_bin, ↓e_neg, ↓e_list, ↓e_tup, ↓e_dict0, ↓e_dict1, ↓e_cmp, ↓e_and, ↓e_slice, ↓e_sub1, ↓e_sub2, ↓e_sub3, ↓e_sub4, ↓e_att, ↓e_meth, ↓e_call, ↓e_isi, ↓e_comp, ↓e_dcomp, ↓e_ifN, ↓e_ifc, ↓ss_nil, ↓ss_cons, ↓s_nilM, ↓s_dictM, ↓s_dictN, ↓s_bin, ↓s_call, ↓s_comp, ↓s_const, ↓s_list, ↓s_sub, ↓s_neg, ↓s_tup2, ↓s_tup3, ↓s_put, ↓s_aug, ↓s_augput, ↓s_items, ↓s_values, ↓s_for, ↓s_forN, ↓s_forA, ↓s_while, ↓s_clamp, ↓s_ret, ↓s_in, ↓s_ifNotEqRaise, ↓s_ifNotEqRet, ↓s_ifNotEqAsg, ↓s_ifEqIf, ↓s_ifLtRet, ↓s_ifGtRet, ↓s_ifOr, ↓s_ifIsi, ↓s_retT, ↓s_retC, ↓s_retK, ↓s_retU, ↓s_retB, ↓s_app, ↓s_brk, ↓b_iadd, ↓b_isub, ↓b_imul, ↓b_ifd, ↓b_imod, ↓b_ipow, ↓b_idiv, ↓b_fadd, ↓b_fsub, ↓b_fmul, ↓b_ifmul, ↓b_ladd, ↓b_sadd, ↓b_badd, ↓b_smul, ↓c_ieq, ↓c_ine, ↓c_ilt, ↓c_igt, ↓c_ige, ↓c_flt, ↓c_fgt, ↓c_seq, ↓c_sne, ↓c_tgt, ↓l_nil, ↓l_cons, ↓t_cmp, ↓t_name, ↓t_sub, ↓t_call, ↓t_and, ↓t_or, ↓t1_cmp, ↓t1_sub, ↓tr_b, ↓tr_i, ↓u_pair, ↓u_three, ↓m_none, ↓m_some, ↓o_none, ↓o_some, ↓i_list, ↓i_tup, ↓i_range, ↓x_str, ↓x_byt, ↓k_range1, ↓k_range2, ↓k_lenL, ↓k_lenS, ↓k_sum, ↓k_round, ↓k_min, ↓k_max, ↓k_abs, ↓k_int, ↓k_divmod, ↓k_fn, ↓w_count, ↓w_rjust, ↓w_cmp, ↓p_count, ↓p_rjust, ↓p_cmp, ↓z_bhh, ↓z_s0h, ↓z_slh, ↓z_lst, ↓f_nil, ↓f_cons, ↓ts_nil, ↓ts_one, ↓true_and, ↓and_true, ↓if_true, ↓if_false, ne_eq, strEq, String.reduceEq, not_false_eq_true, not_true_eq_false, ↓reduceCtorEq, ↓List.append_nil, ↓reduceIte, List.mem_cons, List.not_mem_nil, or_false, false_or, or_self, mut_eq, decide_true, decide_false, Bool.or_true, Bool.true_or, Bool.or_false, Bool.or_self, List.lookup_cons, strBeq])
        exact hq
      · exact hq
    have ecut : lamps.map (fun l => dI (l.map clI)) = (lamps.map fun l => l.map clI).map dI := by rw [List.map_map]; rfl
    rw [ecut]
    generalize hcut : (lamps.map fun l => l.map clI) = cut
    have hc5 : cut.length = 5 := by rw [← hcut]; simpa using hl5
    have hc3 : ∀ l, l ∈ cut → l.length = 3 ∧ ∀ x, x ∈ l → 0 ≤ x ∧ x ≤ 16 := fun l h => by
      rw [← hcut] at h
      obtain ⟨l', h1, rfl⟩ := List.mem_map.mp h
      refine ⟨by rw [List.length_map]; exact (hl3 l' h1).1, fun x hx => ?_⟩
      obtain ⟨y, _, rfl⟩ := List.mem_map.mp hx
      unfold clI
      split <;> (try split) <;> omega
    rw [c_self (pyD_dII cut) (shaped_ii _)]
    refine ⟨fun e => (by cases e), fun _ => ?_⟩
    rw [g_duels]
    refine ⟨cut, rfl, hc5, fun r h => (hc3 r h).1, ?_⟩
    rw [duels_eq cut hc5 (fun r h => (hc3 r h).1)]
    obtain ⟨T, hT, hT5, hTr, hR, n, hn, eN, eW⟩ := plain_facts cut
    rw [hT]
    rw [g_number]
    refine ⟨T, rfl, hT5, hTr, ?_⟩
    rw [eN]
    try (simp only [↓n_here, ↓n_off, ↓n_none, ↓n_bindHere, ↓n_bindOff, ↓n_inner, ↓r_here, ↓r_off, ↓r_mu, ↓is_F, ↓is_I, ↓is_K, ↓e_int, ↓e_flt, ↓e_str, ↓e_byt, ↓e_bool, ↓e_name, ↓e_bin, ↓e_neg, ↓e_list, ↓e_tup, ↓e_dict0, ↓e_dict1, ↓e_cmp, ↓e_and, ↓e_slice, ↓e_sub1, ↓e_sub2, ↓e_sub3, ↓e_sub4, ↓e_att, ↓e_meth, ↓e_call, ↓e_isi, ↓e_comp, ↓e_dcomp, ↓e_ifN, ↓e_ifc, ↓ss_nil, ↓ss_cons, ↓s_nilM, ↓s_dictM, ↓s_dictN, ↓s_bin, ↓s_call, ↓s_comp, ↓s_const, ↓s_list, ↓s_sub, ↓s_neg, ↓s_tup2, ↓s_tup3, ↓s_put, ↓s_aug, ↓s_augput, ↓s_items, ↓s_values, ↓s_for, ↓s_forN, ↓s_forA, ↓s_while, ↓s_clamp, ↓s_ret, ↓s_in, ↓s_ifNotEqRaise, ↓s_ifNotEqRet, ↓s_ifNotEqAsg, ↓s_ifEqIf, ↓s_ifLtRet, ↓s_ifGtRet, ↓s_ifOr, ↓s_ifIsi, ↓s_retT, ↓s_retC, ↓s_retK, ↓s_retU, ↓s_retB, ↓s_app, ↓s_brk, ↓b_iadd, ↓b_isub, ↓b_imul, ↓b_ifd, ↓b_imod, ↓b_ipow, ↓b_idiv, ↓b_fadd, ↓b_fsub, ↓b_fmul, ↓b_ifmul, ↓b_ladd, ↓b_sadd, ↓b_badd, ↓b_smul, ↓c_ieq, ↓c_ine, ↓c_ilt, ↓c_igt, ↓c_ige, ↓c_flt, ↓c_fgt, ↓c_seq, ↓c_sne, ↓c_tgt, ↓l_nil, ↓l_cons, ↓t_cmp, ↓t_name, ↓t_sub, ↓t_call, ↓t_and, ↓t_or, ↓t1_cmp, ↓t1_sub, ↓tr_b, ↓tr_i, ↓u_pair, ↓u_three, ↓m_none, ↓m_some, ↓o_none, ↓o_some, ↓i_list, ↓i_tup, ↓i_range, ↓x_str, ↓x_byt, ↓k_range1, ↓k_range2, ↓k_lenL, ↓k_lenS, ↓k_sum, ↓k_round, ↓k_min, ↓k_max, ↓k_abs, ↓k_int, ↓k_divmod, ↓k_fn, ↓w_count, ↓w_rjust, ↓w_cmp, ↓p_count, ↓p_rjust, ↓p_cmp, ↓z_bhh, ↓z_s0h, ↓z_slh, ↓z_lst, ↓f_nil, ↓f_cons, ↓ts_nil, ↓ts_one, ↓true_and, ↓and_true, ↓if_true, ↓if_false, ne_eq, strEq, String.reduceEq, not_false_eq_true, not_true_eq_false, ↓reduceCtorEq, ↓List.append_nil, ↓reduceIte, List.mem_cons, List.not_mem_nil, or_false, false_or, or_self, mut_eq, decide_true, decide_false, Bool.or_true, Bool.true_or, Bool.or_false, Bool.or_self, List.lookup_cons, strBeq])
    rw [x_map dI (by decide) (by omega) (by omega)]
    have hlen0 : (lamps[(0 : Int).toNat]!).length = 3 := (hl3 _ (get_mem (by omega))).1
    rw [x_ints (by decide) (by omega) (by omega), b_imod, c_ieq]
    refine ⟨by decide, ?_⟩
    refine ifap fun m hm => ?_
    rw [g_ap]
    refine ⟨_, rfl, by omega, ?_⟩
    rw [hm]
    dsimp only
    rw [p_rjust, w_rjust]
    obtain ⟨hd1, hd2⟩ := rjust_digs 5 n hn
    refine ⟨trivial, ⟨by decide, by decide, by omega⟩, ?_⟩
    rw [show (5 : Int).toNat = 5 from rfl, hd2, g_wins]
    refine ⟨_, rfl, digs_len 5 n, ?_⟩
    rw [eW, g_plain]
    refine ⟨cut, rfl, hc5, fun r h => (hc3 r h).1, ?_⟩
    rw [hT]
    refine ⟨by decide, ?_⟩
    refine comp_M (fun i : Nat => D.int (0 + (i : Int))) (fun p => dI (rowWins T[p]!)) (fun p hp q hq => ?_) (by simp) ?_
    · have hp5 : p < 5 := by simpa using hp
      have hrow : T[p]!.length = 5 := hTr _ (get_mem (by omega))
      (simp only [↓n_here, ↓n_off, ↓n_none, ↓n_bindHere, ↓n_bindOff, ↓n_inner, ↓r_here, ↓r_off, ↓r_mu, ↓is_F, ↓is_I, ↓is_K, ↓e_int, ↓e_flt, ↓e_str, ↓e_byt, ↓e_bool, ↓e_name, ↓e_bin, ↓e_neg, ↓e_list, ↓e_tup, ↓e_dict0, ↓e_dict1, ↓e_cmp, ↓e_and, ↓e_slice, ↓e_sub1, ↓e_sub2, ↓e_sub3, ↓e_sub4, ↓e_att, ↓e_meth, ↓e_call, ↓e_isi, ↓e_comp, ↓e_dcomp, ↓e_ifN, ↓e_ifc, ↓ss_nil, ↓ss_cons, ↓s_nilM, ↓s_dictM, ↓s_dictN, ↓s_bin, ↓s_call, ↓s_comp, ↓s_const, ↓s_list, ↓s_sub, ↓s_neg, ↓s_tup2, ↓s_tup3, ↓s_put, ↓s_aug, ↓s_augput, ↓s_items, ↓s_values, ↓s_for, ↓s_forN, ↓s_forA, ↓s_while, ↓s_clamp, ↓s_ret, ↓s_in, ↓s_ifNotEqRaise, ↓s_ifNotEqRet, ↓s_ifNotEqAsg, ↓s_ifEqIf, ↓s_ifLtRet, ↓s_ifGtRet, ↓s_ifOr, ↓s_ifIsi, ↓s_retT, ↓s_retC, ↓s_retK, ↓s_retU, ↓s_retB, ↓s_app, ↓s_brk, ↓b_iadd, ↓b_isub, ↓b_imul, ↓b_ifd, ↓b_imod, ↓b_ipow, ↓b_idiv, ↓b_fadd, ↓b_fsub, ↓b_fmul, ↓b_ifmul, ↓b_ladd, ↓b_sadd, ↓b_badd, ↓b_smul, ↓c_ieq, ↓c_ine, ↓c_ilt, ↓c_igt, ↓c_ige, ↓c_flt, ↓c_fgt, ↓c_seq, ↓c_sne, ↓c_tgt, ↓l_nil, ↓l_cons, ↓t_cmp, ↓t_name, ↓t_sub, ↓t_call, ↓t_and, ↓t_or, ↓t1_cmp, ↓t1_sub, ↓tr_b, ↓tr_i, ↓u_pair, ↓u_three, ↓m_none, ↓m_some, ↓o_none, ↓o_some, ↓i_list, ↓i_tup, ↓i_range, ↓x_str, ↓x_byt, ↓k_range1, ↓k_range2, ↓k_lenL, ↓k_lenS, ↓k_sum, ↓k_round, ↓k_min, ↓k_max, ↓k_abs, ↓k_int, ↓k_divmod, ↓k_fn, ↓w_count, ↓w_rjust, ↓w_cmp, ↓p_count, ↓p_rjust, ↓p_cmp, ↓z_bhh, ↓z_s0h, ↓z_slh, ↓z_lst, ↓f_nil, ↓f_cons, ↓ts_nil, ↓ts_one, ↓true_and, ↓and_true, ↓if_true, ↓if_false, ne_eq, strEq, String.reduceEq, not_false_eq_true, not_true_eq_false, ↓reduceCtorEq, ↓List.append_nil, ↓reduceIte, List.mem_cons, List.not_mem_nil, or_false, false_or, or_self, mut_eq, decide_true, decide_false, Bool.or_true, Bool.true_or, Bool.or_false, Bool.or_self, List.lookup_cons, strBeq])
      refine ⟨by decide, ?_⟩
      refine comp_A (fun i : Nat => D.int (0 + (i : Int))) (fun o => (T[p]!)[o]!) (fun o => .int (0 + (o : Int))) (fun o ho q hq => ?_) (fun o ho _ q hq => ?_) (by simp) ?_
      · have ho5 : o < 5 := by simpa using ho
        (simp only [↓n_here, ↓n_off, ↓n_none, ↓n_bindHere, ↓n_bindOff, ↓n_inner, ↓r_here, ↓r_off, ↓r_mu, ↓is_F, ↓is_I, ↓is_K, ↓e_int, ↓e_flt, ↓e_str, ↓e_byt, ↓e_bool, ↓e_name, ↓e_bin, ↓e_neg, ↓e_list, ↓e_tup, ↓e_dict0, ↓e_dict1, ↓e_cmp, ↓e_and, ↓e_slice, ↓e_sub1, ↓e_sub2, ↓e_sub3, ↓e_sub4, ↓e_att, ↓e_meth, ↓e_call, ↓e_isi, ↓e_comp, ↓e_dcomp, ↓e_ifN, ↓e_ifc, ↓ss_nil, ↓ss_cons, ↓s_nilM, ↓s_dictM, ↓s_dictN, ↓s_bin, ↓s_call, ↓s_comp, ↓s_const, ↓s_list, ↓s_sub, ↓s_neg, ↓s_tup2, ↓s_tup3, ↓s_put, ↓s_aug, ↓s_augput, ↓s_items, ↓s_values, ↓s_for, ↓s_forN, ↓s_forA, ↓s_while, ↓s_clamp, ↓s_ret, ↓s_in, ↓s_ifNotEqRaise, ↓s_ifNotEqRet, ↓s_ifNotEqAsg, ↓s_ifEqIf, ↓s_ifLtRet, ↓s_ifGtRet, ↓s_ifOr, ↓s_ifIsi, ↓s_retT, ↓s_retC, ↓s_retK, ↓s_retU, ↓s_retB, ↓s_app, ↓s_brk, ↓b_iadd, ↓b_isub, ↓b_imul, ↓b_ifd, ↓b_imod, ↓b_ipow, ↓b_idiv, ↓b_fadd, ↓b_fsub, ↓b_fmul, ↓b_ifmul, ↓b_ladd, ↓b_sadd, ↓b_badd, ↓b_smul, ↓c_ieq, ↓c_ine, ↓c_ilt, ↓c_igt, ↓c_ige, ↓c_flt, ↓c_fgt, ↓c_seq, ↓c_sne, ↓c_tgt, ↓l_nil, ↓l_cons, ↓t_cmp, ↓t_name, ↓t_sub, ↓t_call, ↓t_and, ↓t_or, ↓t1_cmp, ↓t1_sub, ↓tr_b, ↓tr_i, ↓u_pair, ↓u_three, ↓m_none, ↓m_some, ↓o_none, ↓o_some, ↓i_list, ↓i_tup, ↓i_range, ↓x_str, ↓x_byt, ↓k_range1, ↓k_range2, ↓k_lenL, ↓k_lenS, ↓k_sum, ↓k_round, ↓k_min, ↓k_max, ↓k_abs, ↓k_int, ↓k_divmod, ↓k_fn, ↓w_count, ↓w_rjust, ↓w_cmp, ↓p_count, ↓p_rjust, ↓p_cmp, ↓z_bhh, ↓z_s0h, ↓z_slh, ↓z_lst, ↓f_nil, ↓f_cons, ↓ts_nil, ↓ts_one, ↓true_and, ↓and_true, ↓if_true, ↓if_false, ne_eq, strEq, String.reduceEq, not_false_eq_true, not_true_eq_false, ↓reduceCtorEq, ↓List.append_nil, ↓reduceIte, List.mem_cons, List.not_mem_nil, or_false, false_or, or_self, mut_eq, decide_true, decide_false, Bool.or_true, Bool.true_or, Bool.or_false, Bool.or_self, List.lookup_cons, strBeq])
        rw [x_map dB (by omega) (by omega) (by omega), x_map D.bool (by omega) (by rw [show (0 + (p : Int)).toNat = p by omega]; omega) (by rw [show (0 + (p : Int)).toNat = p by omega]; omega), tr_b]
        rw [show (0 + (p : Int)).toNat = p by omega, show (0 + (o : Int)).toNat = o by omega]
        exact hq
      · (simp only [↓n_here, ↓n_off, ↓n_none, ↓n_bindHere, ↓n_bindOff, ↓n_inner, ↓r_here, ↓r_off, ↓r_mu, ↓is_F, ↓is_I, ↓is_K, ↓e_int, ↓e_flt, ↓e_str, ↓e_byt, ↓e_bool, ↓e_name, ↓e_bin, ↓e_neg, ↓e_list, ↓e_tup, ↓e_dict0, ↓e_dict1, ↓e_cmp, ↓e_and, ↓e_slice, ↓e_sub1, ↓e_sub2, ↓e_sub3, ↓e_sub4, ↓e_att, ↓e_meth, ↓e_call, ↓e_isi, ↓e_comp, ↓e_dcomp, ↓e_ifN, ↓e_ifc, ↓ss_nil, ↓ss_cons, ↓s_nilM, ↓s_dictM, ↓s_dictN, ↓s_bin, ↓s_call, ↓s_comp, ↓s_const, ↓s_list, ↓s_sub, ↓s_neg, ↓s_tup2, ↓s_tup3, ↓s_put, ↓s_aug, ↓s_augput, ↓s_items, ↓s_values, ↓s_for, ↓s_forN, ↓s_forA, ↓s_while, ↓s_clamp, ↓s_ret, ↓s_in, ↓s_ifNotEqRaise, ↓s_ifNotEqRet, ↓s_ifNotEqAsg, ↓s_ifEqIf, ↓s_ifLtRet, ↓s_ifGtRet, ↓s_ifOr, ↓s_ifIsi, ↓s_retT, ↓s_retC, ↓s_retK, ↓s_retU, ↓s_retB, ↓s_app, ↓s_brk, ↓b_iadd, ↓b_isub, ↓b_imul, ↓b_ifd, ↓b_imod, ↓b_ipow, ↓b_idiv, ↓b_fadd, ↓b_fsub, ↓b_fmul, ↓b_ifmul, ↓b_ladd, ↓b_sadd, ↓b_badd, ↓b_smul, ↓c_ieq, ↓c_ine, ↓c_ilt, ↓c_igt, ↓c_ige, ↓c_flt, ↓c_fgt, ↓c_seq, ↓c_sne, ↓c_tgt, ↓l_nil, ↓l_cons, ↓t_cmp, ↓t_name, ↓t_sub, ↓t_call, ↓t_and, ↓t_or, ↓t1_cmp, ↓t1_sub, ↓tr_b, ↓tr_i, ↓u_pair, ↓u_three, ↓m_none, ↓m_some, ↓o_none, ↓o_some, ↓i_list, ↓i_tup, ↓i_range, ↓x_str, ↓x_byt, ↓k_range1, ↓k_range2, ↓k_lenL, ↓k_lenS, ↓k_sum, ↓k_round, ↓k_min, ↓k_max, ↓k_abs, ↓k_int, ↓k_divmod, ↓k_fn, ↓w_count, ↓w_rjust, ↓w_cmp, ↓p_count, ↓p_rjust, ↓p_cmp, ↓z_bhh, ↓z_s0h, ↓z_slh, ↓z_lst, ↓f_nil, ↓f_cons, ↓ts_nil, ↓ts_one, ↓true_and, ↓and_true, ↓if_true, ↓if_false, ne_eq, strEq, String.reduceEq, not_false_eq_true, not_true_eq_false, ↓reduceCtorEq, ↓List.append_nil, ↓reduceIte, List.mem_cons, List.not_mem_nil, or_false, false_or, or_self, mut_eq, decide_true, decide_false, Bool.or_true, Bool.true_or, Bool.or_false, Bool.or_self, List.lookup_cons, strBeq])
        exact hq
      · have e : ((List.range (5 - 0 : Int).toNat).filter fun o => (T[p]!)[o]!).map (fun o : Nat => D.int (0 + (o : Int))) = (rowWins T[p]!).map D.int := by
          unfold rowWins
          rw [List.map_map]
          rfl
        rw [e]; exact hq
    have eW2 : (List.range (5 - 0 : Int).toNat).map (fun p => dI (rowWins T[p]!)) = (winsT T).map dI := by
      unfold winsT
      rw [List.map_map]
      rfl
    rw [eW2, c_self (pyD_dII _) (shaped_ii _)]
    refine ⟨fun e => (by cases e), fun _ => ?_⟩
    refine ⟨by decide, ?_⟩
    refine comp_M (fun i : Nat => D.int (0 + (i : Int))) (fun p => gR [p]) (fun p hp q hq => ?_) (by simp) ?_
    · (simp only [↓n_here, ↓n_off, ↓n_none, ↓n_bindHere, ↓n_bindOff, ↓n_inner, ↓r_here, ↓r_off, ↓r_mu, ↓is_F, ↓is_I, ↓is_K, ↓e_int, ↓e_flt, ↓e_str, ↓e_byt, ↓e_bool, ↓e_name, ↓e_bin, ↓e_neg, ↓e_list, ↓e_tup, ↓e_dict0, ↓e_dict1, ↓e_cmp, ↓e_and, ↓e_slice, ↓e_sub1, ↓e_sub2, ↓e_sub3, ↓e_sub4, ↓e_att, ↓e_meth, ↓e_call, ↓e_isi, ↓e_comp, ↓e_dcomp, ↓e_ifN, ↓e_ifc, ↓ss_nil, ↓ss_cons, ↓s_nilM, ↓s_dictM, ↓s_dictN, ↓s_bin, ↓s_call, ↓s_comp, ↓s_const, ↓s_list, ↓s_sub, ↓s_neg, ↓s_tup2, ↓s_tup3, ↓s_put, ↓s_aug, ↓s_augput, ↓s_items, ↓s_values, ↓s_for, ↓s_forN, ↓s_forA, ↓s_while, ↓s_clamp, ↓s_ret, ↓s_in, ↓s_ifNotEqRaise, ↓s_ifNotEqRet, ↓s_ifNotEqAsg, ↓s_ifEqIf, ↓s_ifLtRet, ↓s_ifGtRet, ↓s_ifOr, ↓s_ifIsi, ↓s_retT, ↓s_retC, ↓s_retK, ↓s_retU, ↓s_retB, ↓s_app, ↓s_brk, ↓b_iadd, ↓b_isub, ↓b_imul, ↓b_ifd, ↓b_imod, ↓b_ipow, ↓b_idiv, ↓b_fadd, ↓b_fsub, ↓b_fmul, ↓b_ifmul, ↓b_ladd, ↓b_sadd, ↓b_badd, ↓b_smul, ↓c_ieq, ↓c_ine, ↓c_ilt, ↓c_igt, ↓c_ige, ↓c_flt, ↓c_fgt, ↓c_seq, ↓c_sne, ↓c_tgt, ↓l_nil, ↓l_cons, ↓t_cmp, ↓t_name, ↓t_sub, ↓t_call, ↓t_and, ↓t_or, ↓t1_cmp, ↓t1_sub, ↓tr_b, ↓tr_i, ↓u_pair, ↓u_three, ↓m_none, ↓m_some, ↓o_none, ↓o_some, ↓i_list, ↓i_tup, ↓i_range, ↓x_str, ↓x_byt, ↓k_range1, ↓k_range2, ↓k_lenL, ↓k_lenS, ↓k_sum, ↓k_round, ↓k_min, ↓k_max, ↓k_abs, ↓k_int, ↓k_divmod, ↓k_fn, ↓w_count, ↓w_rjust, ↓w_cmp, ↓p_count, ↓p_rjust, ↓p_cmp, ↓z_bhh, ↓z_s0h, ↓z_slh, ↓z_lst, ↓f_nil, ↓f_cons, ↓ts_nil, ↓ts_one, ↓true_and, ↓and_true, ↓if_true, ↓if_false, ne_eq, strEq, String.reduceEq, not_false_eq_true, not_true_eq_false, ↓reduceCtorEq, ↓List.append_nil, ↓reduceIte, List.mem_cons, List.not_mem_nil, or_false, false_or, or_self, mut_eq, decide_true, decide_false, Bool.or_true, Bool.true_or, Bool.or_false, Bool.or_self, List.lookup_cons, strBeq])
      exact ⟨by simp, by simpa [gR, dI, phi] using hq⟩
    have eO : (List.range (5 - 0 : Int).toNat).map (fun p => gR [p]) = rows0.map gR := by
      unfold rows0
      rw [List.map_map]
      rfl
    rw [eO]
    have hwl : (winsT T).length = 5 := by unfold winsT; simp
    refine ⟨by decide, ?_⟩
    refine for_rule (fun ds ρ μ => ∃ (rows : List (List Nat)) (st : List Nat), μ = none ∧ ds = st.map (fun i : Nat => D.int (0 + (i : Int))) ∧ PathOk st.length rows ∧ ρ "orders" = some (.list (rows.map gR)) ∧ ρ "wins" = some (dII (winsT T)) ∧ ρ "plain" = some (dBB T) ∧
        pathsR T st.length rows = pathsR T 4 rows0) ?_ ?_ _ _ _ ⟨rows0, List.range 4, rfl, rfl, ?_, setR_here, ?_, ?_, rfl⟩
    · rintro ρ μ ⟨rows, st, rfl, hst, hok, hord, hwins, hplain, hrw⟩
      cases st with
      | cons _ _ => cases hst
      | nil =>
      have hrw' : rows = pathsR T 4 rows0 := hrw
      have hrl := pathOk_len hok
      have hne : ∀ r, r ∈ rows → r ≠ [] := fun r hr => (hok.1 r hr).1
      have hlr : ∀ r, r ∈ rows → r.length ≤ 6 := fun r hr => by have := (hok.1 r hr).2.1; omega
      dsimp only
      rw [m_none, n_at hord, i_list]
      refine ⟨trivial, by rw [List.length_map]; omega, ?_⟩
      refine for_rule (fun ds ρ μ => ∃ (rest : List (List Nat)) (t : List (Int × Int)), μ = none ∧ ds = rest.map gR ∧ (∀ r, r ∈ rest → r ∈ rows) ∧ t.length + rest.length ≤ 3125 ∧ ρ "orders" = some (.list (rows.map gR)) ∧ ρ "table" = some (.dict t) ∧ ρ "plain" = some (dBB T) ∧
          tabF (rest.map fun r => (phi r)[(0 : Int).toNat]!) t = tabF (rows.map fun r => (phi r)[(0 : Int).toNat]!) []) ?_ ?_ _ _ _ ⟨rows, [], rfl, rfl, fun _ h => h, by simpa using hrl, ?_, setR_here, ?_, rfl⟩
      · rintro ρ μ ⟨rest, t, rfl, hrest, _, htl, hord, htab, hplain, htt⟩
        cases rest with
        | cons _ _ => cases hrest
        | nil =>
        have ht : t = tabF (rows.map fun r => (phi r)[(0 : Int).toNat]!) [] := htt
        dsimp only
        rw [n_at hord, i_list]
        refine ⟨by rw [List.length_map]; omega, ?_⟩
        refine comp_M gR (fun r => D.int (phi r)[(0 : Int).toNat]!) (fun r hr q hq => ?_) (by omega) ?_
        · (simp only [↓n_here, ↓n_off, ↓n_none, ↓n_bindHere, ↓n_bindOff, ↓n_inner, ↓r_here, ↓r_off, ↓r_mu, ↓is_F, ↓is_I, ↓is_K, ↓e_int, ↓e_flt, ↓e_str, ↓e_byt, ↓e_bool, ↓e_name, ↓e_bin, ↓e_neg, ↓e_list, ↓e_tup, ↓e_dict0, ↓e_dict1, ↓e_cmp, ↓e_and, ↓e_slice, ↓e_sub1, ↓e_sub2, ↓e_sub3, ↓e_sub4, ↓e_att, ↓e_meth, ↓e_call, ↓e_isi, ↓e_comp, ↓e_dcomp, ↓e_ifN, ↓e_ifc, ↓ss_nil, ↓ss_cons, ↓s_nilM, ↓s_dictM, ↓s_dictN, ↓s_bin, ↓s_call, ↓s_comp, ↓s_const, ↓s_list, ↓s_sub, ↓s_neg, ↓s_tup2, ↓s_tup3, ↓s_put, ↓s_aug, ↓s_augput, ↓s_items, ↓s_values, ↓s_for, ↓s_forN, ↓s_forA, ↓s_while, ↓s_clamp, ↓s_ret, ↓s_in, ↓s_ifNotEqRaise, ↓s_ifNotEqRet, ↓s_ifNotEqAsg, ↓s_ifEqIf, ↓s_ifLtRet, ↓s_ifGtRet, ↓s_ifOr, ↓s_ifIsi, ↓s_retT, ↓s_retC, ↓s_retK, ↓s_retU, ↓s_retB, ↓s_app, ↓s_brk, ↓b_iadd, ↓b_isub, ↓b_imul, ↓b_ifd, ↓b_imod, ↓b_ipow, ↓b_idiv, ↓b_fadd, ↓b_fsub, ↓b_fmul, ↓b_ifmul, ↓b_ladd, ↓b_sadd, ↓b_badd, ↓b_smul, ↓c_ieq, ↓c_ine, ↓c_ilt, ↓c_igt, ↓c_ige, ↓c_flt, ↓c_fgt, ↓c_seq, ↓c_sne, ↓c_tgt, ↓l_nil, ↓l_cons, ↓t_cmp, ↓t_name, ↓t_sub, ↓t_call, ↓t_and, ↓t_or, ↓t1_cmp, ↓t1_sub, ↓tr_b, ↓tr_i, ↓u_pair, ↓u_three, ↓m_none, ↓m_some, ↓o_none, ↓o_some, ↓i_list, ↓i_tup, ↓i_range, ↓x_str, ↓x_byt, ↓k_range1, ↓k_range2, ↓k_lenL, ↓k_lenS, ↓k_sum, ↓k_round, ↓k_min, ↓k_max, ↓k_abs, ↓k_int, ↓k_divmod, ↓k_fn, ↓w_count, ↓w_rjust, ↓w_cmp, ↓p_count, ↓p_rjust, ↓p_cmp, ↓z_bhh, ↓z_s0h, ↓z_slh, ↓z_lst, ↓f_nil, ↓f_cons, ↓ts_nil, ↓ts_one, ↓true_and, ↓and_true, ↓if_true, ↓if_false, ne_eq, strEq, String.reduceEq, not_false_eq_true, not_true_eq_false, ↓reduceCtorEq, ↓List.append_nil, ↓reduceIte, List.mem_cons, List.not_mem_nil, or_false, false_or, or_self, mut_eq, decide_true, decide_false, Bool.or_true, Bool.true_or, Bool.or_false, Bool.or_self, List.lookup_cons, strBeq])
          have h0 : 0 < (phi r).length := by rw [phi_len]; exact List.length_pos_iff.mpr (hne r hr)
          rw [x_ints (by decide) (by omega) (by have := hlr r hr; rw [phi_len]; omega)]
          exact hq
        generalize hfs : (rows.map fun r => (phi r)[(0 : Int).toNat]!) = fs at *
        have efs : rows.map (fun r => D.int (phi r)[(0 : Int).toNat]!) = fs.map D.int := by rw [← hfs, List.map_map]; rfl
        have hfl : fs.length = rows.length := by rw [← hfs, List.length_map]
        rw [efs, m_none, n_at htab]
        refine ⟨trivial, ?_⟩
        rw [intsD_of]
        obtain ⟨te, tn⟩ := tab_eq fs
        refine ⟨by omega, fun i => i, fun i => (fs.count i : Int), fun i hi => ⟨rfl, rfl⟩, ?_⟩
        rw [← te, ht]
        refine c_dself tn ⟨fun e => (by cases e), fun _ => ?_⟩
        rw [n_at (ht ▸ htab), g_count]
        refine ⟨_, rfl, ?_⟩
        show notMu _ none ∧ _
        rw [tab_sum, hfl]
        have hrl2 : rows.length = 2 * ringsN T + 1 := by
          rw [hrw', pathsR_len]
          have : (rows0.map (cntR T 4)).sum = pathsN T := by
            show cntR T 4 [0] + (cntR T 4 [1] + (cntR T 4 [2] + (cntR T 4 [3] + (cntR T 4 [4] + 0)))) = _
            rfl
          rw [this, hR]; omega
        have hr := ringsN_le T
        rw [hrl2, m_none, b_smul]
        refine ⟨trivial, marks_ok (by omega), ?_⟩
        have hml := marks (2 * ringsN T + 1)
        have hsl : (Txt.mul (Str.ofString "\"") ((2 * ringsN T + 1 : Nat) : Int)).length = 2 * ringsN T + 1 := by rw [str_len, hml, List.length_replicate]
        generalize Txt.mul (Str.ofString "\"") ((2 * ringsN T + 1 : Nat) : Int) = ms at *
        rw [b_sadd]
        have l1 : (Str.ofString "257 \"").length = 5 := by decide +kernel
        have l2 : (Str.ofString "x\" orders in all").length = 16 := by decide +kernel
        have happ : ∀ x y : PySem.Str, (x ++ y).cps.toList = x.cps.toList ++ y.cps.toList := fun x y => by
          show (x.cps ++ y.cps).toList = _
          rw [Array.toList_append]
        refine ⟨by omega, ?_⟩
        rw [b_sadd]
        refine ⟨by rw [str_len, happ, List.length_append, ← str_len, ← str_len]; omega, ?_⟩
        rw [g_parse]
        refine ⟨_, ringsN T, (Str.ofString "x\" orders in all").cps.toList.tail, rfl, by omega, by decide +kernel, ?_, ?_⟩
        · rw [happ, happ, hml]
          have t1 : (Str.ofString "257 \"").cps.toList = [50, 53, 55, 32, 34] := by decide +kernel
          have t2 : (Str.ofString "x\" orders in all").cps.toList = 120 :: (Str.ofString "x\" orders in all").cps.toList.tail := by decide +kernel
          rw [t1, ← t2]
        dsimp only
        rw [m_none, n_at hplain, g_rings]
        refine ⟨trivial, T, _, rfl, hT5, hTr, .inl rfl, ?_⟩
        have hre := rings_eq T
        generalize ringsF T 3 (List.range (6 - 3 - 0 : Int).toNat) 0 = ra at *
        try dsimp only
        rw [n_at hplain]
        refine ⟨T, _, rfl, hT5, hTr, .inr rfl, ?_⟩
        generalize ringsF T 5 (List.range (6 - 5 - 0 : Int).toNat) 0 = rb at *
        try dsimp only
        rw [b_iadd, m_none, hre]
        refine ⟨trivial, ?_⟩
        rw [b_imul]
        refine ⟨.of_left (by decide), ?_⟩
        rw [b_iadd, c_ieq]
        refine ⟨fun _ => ?_, fun e => ?_⟩
        · rw [b_smul]
          refine ⟨marks_ok (by omega), ?_⟩
          rw [c_seq, marks]
          simpa using hpost
        · exfalso
          simp at e
          omega
      · rintro d r ρ μ K ⟨rest, t, rfl, hrest, hmem, htl, hord, htab, hplain, htt⟩ hK
        cases rest with
        | nil => cases hrest
        | cons r0 rest =>
        simp only [List.map_cons, List.cons.injEq] at hrest
        obtain ⟨rfl, rfl⟩ := hrest
        have hr0 := hmem r0 List.mem_cons_self
        have h0 : 0 < (phi r0).length := by rw [phi_len]; exact List.length_pos_iff.mpr (hne r0 hr0)
        simp only [List.length_cons] at htl
        rw [m_none, n_at htab, x_ints (by decide) (by omega) (by have := hlr r0 hr0; rw [phi_len]; omega)]
        dsimp only
        rw [g_add]
        refine ⟨trivial, _, _, rfl, by simp; omega, ?_⟩
        rw [m_none]
        refine ⟨trivial, hK _ _ ⟨rest, _, rfl, rfl, fun r hr => hmem r (List.mem_cons_of_mem _ hr), ?_, ?_, setR_here, ?_, htt⟩⟩
        · have := addK_len t (phi r0)[(0 : Int).toNat]!
          omega
        · rw [setR_off (strNe (by decide)), setR_off (strNe (by decide))]; exact hord
        · rw [setR_off (strNe (by decide)), setR_off (strNe (by decide))]; exact hplain
      · rw [setR_off (strNe (by decide))]; exact hord
      · rw [setR_off (strNe (by decide))]; exact hplain
    · rintro d r ρ μ K ⟨rows, st, rfl, hst, hok, hord, hwins, hplain, hrw⟩ hK
      cases st with
      | nil => cases hst
      | cons s0 st =>
      simp only [List.map_cons, List.cons.injEq] at hst
      obtain ⟨rfl, rfl⟩ := hst
      have hrl := pathOk_len hok
      rw [m_none, n_at hord, i_list]
      refine ⟨trivial, by rw [List.length_map]; omega, ?_⟩
      refine comp_AA gR (fun r => (List.range 5).filter fun o => atT T (hd0 r) o) (fun x : Nat => D.int (0 + (x : Int))) (fun r x => !r.contains x) (fun r x => gR (x :: r)) 5 (fun r hr q hq => ?_) (fun r hr x hx q hq => ?_) (fun r hr x hx _ q hq => ?_) (fun r hr => Nat.le_trans (List.length_filter_le _ _) (by simp)) (by omega) ?_
      · obtain ⟨hne, hln, hel⟩ := hok.1 r hr
        have hv := hel _ (hd0_mem hne)
        (simp only [↓n_here, ↓n_off, ↓n_none, ↓n_bindHere, ↓n_bindOff, ↓n_inner, ↓r_here, ↓r_off, ↓r_mu, ↓is_F, ↓is_I, ↓is_K, ↓e_int, ↓e_flt, ↓e_str, ↓e_byt, ↓e_bool, ↓e_name, ↓e_bin, ↓e_neg, ↓e_list, ↓e_tup, ↓e_dict0, ↓e_dict1, ↓e_cmp, ↓e_and, ↓e_slice, ↓e_sub1, ↓e_sub2, ↓e_sub3, ↓e_sub4, ↓e_att, ↓e_meth, ↓e_call, ↓e_isi, ↓e_comp, ↓e_dcomp, ↓e_ifN, ↓e_ifc, ↓ss_nil, ↓ss_cons, ↓s_nilM, ↓s_dictM, ↓s_dictN, ↓s_bin, ↓s_call, ↓s_comp, ↓s_const, ↓s_list, ↓s_sub, ↓s_neg, ↓s_tup2, ↓s_tup3, ↓s_put, ↓s_aug, ↓s_augput, ↓s_items, ↓s_values, ↓s_for, ↓s_forN, ↓s_forA, ↓s_while, ↓s_clamp, ↓s_ret, ↓s_in, ↓s_ifNotEqRaise, ↓s_ifNotEqRet, ↓s_ifNotEqAsg, ↓s_ifEqIf, ↓s_ifLtRet, ↓s_ifGtRet, ↓s_ifOr, ↓s_ifIsi, ↓s_retT, ↓s_retC, ↓s_retK, ↓s_retU, ↓s_retB, ↓s_app, ↓s_brk, ↓b_iadd, ↓b_isub, ↓b_imul, ↓b_ifd, ↓b_imod, ↓b_ipow, ↓b_idiv, ↓b_fadd, ↓b_fsub, ↓b_fmul, ↓b_ifmul, ↓b_ladd, ↓b_sadd, ↓b_badd, ↓b_smul, ↓c_ieq, ↓c_ine, ↓c_ilt, ↓c_igt, ↓c_ige, ↓c_flt, ↓c_fgt, ↓c_seq, ↓c_sne, ↓c_tgt, ↓l_nil, ↓l_cons, ↓t_cmp, ↓t_name, ↓t_sub, ↓t_call, ↓t_and, ↓t_or, ↓t1_cmp, ↓t1_sub, ↓tr_b, ↓tr_i, ↓u_pair, ↓u_three, ↓m_none, ↓m_some, ↓o_none, ↓o_some, ↓i_list, ↓i_tup, ↓i_range, ↓x_str, ↓x_byt, ↓k_range1, ↓k_range2, ↓k_lenL, ↓k_lenS, ↓k_sum, ↓k_round, ↓k_min, ↓k_max, ↓k_abs, ↓k_int, ↓k_divmod, ↓k_fn, ↓w_count, ↓w_rjust, ↓w_cmp, ↓p_count, ↓p_rjust, ↓p_cmp, ↓z_bhh, ↓z_s0h, ↓z_slh, ↓z_lst, ↓f_nil, ↓f_cons, ↓ts_nil, ↓ts_one, ↓true_and, ↓and_true, ↓if_true, ↓if_false, ne_eq, strEq, String.reduceEq, not_false_eq_true, not_true_eq_false, ↓reduceCtorEq, ↓List.append_nil, ↓reduceIte, List.mem_cons, List.not_mem_nil, or_false, false_or, or_self, mut_eq, decide_true, decide_false, Bool.or_true, Bool.true_or, Bool.or_false, Bool.or_self, List.lookup_cons, strBeq])
        rw [n_at hwins, x_last (by rw [ne_eq, ← List.length_eq_zero_iff, phi_len, List.length_eq_zero_iff]; exact hne) (by rw [phi_len]; omega), phi_last hne, x_map dI (by omega) (by omega) (by omega), Int.toNat_natCast, wins_at hT5 hv, i_list]
        refine ⟨?_, ?_⟩
        · rw [List.length_map, List.length_map]
          exact Nat.le_trans (List.length_filter_le _ _) (by simp)
        · rw [List.map_map]; exact hq
      · (simp only [↓n_here, ↓n_off, ↓n_none, ↓n_bindHere, ↓n_bindOff, ↓n_inner, ↓r_here, ↓r_off, ↓r_mu, ↓is_F, ↓is_I, ↓is_K, ↓e_int, ↓e_flt, ↓e_str, ↓e_byt, ↓e_bool, ↓e_name, ↓e_bin, ↓e_neg, ↓e_list, ↓e_tup, ↓e_dict0, ↓e_dict1, ↓e_cmp, ↓e_and, ↓e_slice, ↓e_sub1, ↓e_sub2, ↓e_sub3, ↓e_sub4, ↓e_att, ↓e_meth, ↓e_call, ↓e_isi, ↓e_comp, ↓e_dcomp, ↓e_ifN, ↓e_ifc, ↓ss_nil, ↓ss_cons, ↓s_nilM, ↓s_dictM, ↓s_dictN, ↓s_bin, ↓s_call, ↓s_comp, ↓s_const, ↓s_list, ↓s_sub, ↓s_neg, ↓s_tup2, ↓s_tup3, ↓s_put, ↓s_aug, ↓s_augput, ↓s_items, ↓s_values, ↓s_for, ↓s_forN, ↓s_forA, ↓s_while, ↓s_clamp, ↓s_ret, ↓s_in, ↓s_ifNotEqRaise, ↓s_ifNotEqRet, ↓s_ifNotEqAsg, ↓s_ifEqIf, ↓s_ifLtRet, ↓s_ifGtRet, ↓s_ifOr, ↓s_ifIsi, ↓s_retT, ↓s_retC, ↓s_retK, ↓s_retU, ↓s_retB, ↓s_app, ↓s_brk, ↓b_iadd, ↓b_isub, ↓b_imul, ↓b_ifd, ↓b_imod, ↓b_ipow, ↓b_idiv, ↓b_fadd, ↓b_fsub, ↓b_fmul, ↓b_ifmul, ↓b_ladd, ↓b_sadd, ↓b_badd, ↓b_smul, ↓c_ieq, ↓c_ine, ↓c_ilt, ↓c_igt, ↓c_ige, ↓c_flt, ↓c_fgt, ↓c_seq, ↓c_sne, ↓c_tgt, ↓l_nil, ↓l_cons, ↓t_cmp, ↓t_name, ↓t_sub, ↓t_call, ↓t_and, ↓t_or, ↓t1_cmp, ↓t1_sub, ↓tr_b, ↓tr_i, ↓u_pair, ↓u_three, ↓m_none, ↓m_some, ↓o_none, ↓o_some, ↓i_list, ↓i_tup, ↓i_range, ↓x_str, ↓x_byt, ↓k_range1, ↓k_range2, ↓k_lenL, ↓k_lenS, ↓k_sum, ↓k_round, ↓k_min, ↓k_max, ↓k_abs, ↓k_int, ↓k_divmod, ↓k_fn, ↓w_count, ↓w_rjust, ↓w_cmp, ↓p_count, ↓p_rjust, ↓p_cmp, ↓z_bhh, ↓z_s0h, ↓z_slh, ↓z_lst, ↓f_nil, ↓f_cons, ↓ts_nil, ↓ts_one, ↓true_and, ↓and_true, ↓if_true, ↓if_false, ne_eq, strEq, String.reduceEq, not_false_eq_true, not_true_eq_false, ↓reduceCtorEq, ↓List.append_nil, ↓reduceIte, List.mem_cons, List.not_mem_nil, or_false, false_or, or_self, mut_eq, decide_true, decide_false, Bool.or_true, Bool.true_or, Bool.or_false, Bool.or_self, List.lookup_cons, strBeq])
        have e : 0 + (x : Int) = (x : Int) := by omega
        rw [c_notin, e, phi_mem]
        exact hq
      · obtain ⟨hne, hln, hel⟩ := hok.1 r hr
        (simp only [↓n_here, ↓n_off, ↓n_none, ↓n_bindHere, ↓n_bindOff, ↓n_inner, ↓r_here, ↓r_off, ↓r_mu, ↓is_F, ↓is_I, ↓is_K, ↓e_int, ↓e_flt, ↓e_str, ↓e_byt, ↓e_bool, ↓e_name, ↓e_bin, ↓e_neg, ↓e_list, ↓e_tup, ↓e_dict0, ↓e_dict1, ↓e_cmp, ↓e_and, ↓e_slice, ↓e_sub1, ↓e_sub2, ↓e_sub3, ↓e_sub4, ↓e_att, ↓e_meth, ↓e_call, ↓e_isi, ↓e_comp, ↓e_dcomp, ↓e_ifN, ↓e_ifc, ↓ss_nil, ↓ss_cons, ↓s_nilM, ↓s_dictM, ↓s_dictN, ↓s_bin, ↓s_call, ↓s_comp, ↓s_const, ↓s_list, ↓s_sub, ↓s_neg, ↓s_tup2, ↓s_tup3, ↓s_put, ↓s_aug, ↓s_augput, ↓s_items, ↓s_values, ↓s_for, ↓s_forN, ↓s_forA, ↓s_while, ↓s_clamp, ↓s_ret, ↓s_in, ↓s_ifNotEqRaise, ↓s_ifNotEqRet, ↓s_ifNotEqAsg, ↓s_ifEqIf, ↓s_ifLtRet, ↓s_ifGtRet, ↓s_ifOr, ↓s_ifIsi, ↓s_retT, ↓s_retC, ↓s_retK, ↓s_retU, ↓s_retB, ↓s_app, ↓s_brk, ↓b_iadd, ↓b_isub, ↓b_imul, ↓b_ifd, ↓b_imod, ↓b_ipow, ↓b_idiv, ↓b_fadd, ↓b_fsub, ↓b_fmul, ↓b_ifmul, ↓b_ladd, ↓b_sadd, ↓b_badd, ↓b_smul, ↓c_ieq, ↓c_ine, ↓c_ilt, ↓c_igt, ↓c_ige, ↓c_flt, ↓c_fgt, ↓c_seq, ↓c_sne, ↓c_tgt, ↓l_nil, ↓l_cons, ↓t_cmp, ↓t_name, ↓t_sub, ↓t_call, ↓t_and, ↓t_or, ↓t1_cmp, ↓t1_sub, ↓tr_b, ↓tr_i, ↓u_pair, ↓u_three, ↓m_none, ↓m_some, ↓o_none, ↓o_some, ↓i_list, ↓i_tup, ↓i_range, ↓x_str, ↓x_byt, ↓k_range1, ↓k_range2, ↓k_lenL, ↓k_lenS, ↓k_sum, ↓k_round, ↓k_min, ↓k_max, ↓k_abs, ↓k_int, ↓k_divmod, ↓k_fn, ↓w_count, ↓w_rjust, ↓w_cmp, ↓p_count, ↓p_rjust, ↓p_cmp, ↓z_bhh, ↓z_s0h, ↓z_slh, ↓z_lst, ↓f_nil, ↓f_cons, ↓ts_nil, ↓ts_one, ↓true_and, ↓and_true, ↓if_true, ↓if_false, ne_eq, strEq, String.reduceEq, not_false_eq_true, not_true_eq_false, ↓reduceCtorEq, ↓List.append_nil, ↓reduceIte, List.mem_cons, List.not_mem_nil, or_false, false_or, or_self, mut_eq, decide_true, decide_false, Bool.or_true, Bool.true_or, Bool.or_false, Bool.or_self, List.lookup_cons, strBeq])
        refine ⟨by simp, by rw [List.length_map, phi_len]; simp; omega, ?_⟩
        have e : D.list ((phi r).map D.int ++ [D.int (0 + (x : Int))]) = gR (x :: r) := by
          show _ = D.list ((phi (x :: r)).map D.int)
          rw [phi_cons]; simp
        rw [e]; exact hq
      · rw [m_none]
        have em : (rows.flatMap fun r => ((((List.range 5).filter fun o => atT T (hd0 r) o).filter fun x => !r.contains x).map fun x => gR (x :: r))) = (stepR T rows).map gR := by
          unfold stepR
          rw [List.map_flatMap]
          refine flat_congr fun r _ => ?_
          rw [List.filter_filter, List.map_map]
          rfl
        rw [em]
        refine ⟨trivial, hK _ _ ⟨stepR T rows, st, rfl, rfl, pathOk_step hok, setR_here, ?_, ?_, hrw⟩⟩
        · rw [setR_off (strNe (by decide)), setR_off (strNe (by decide))]; exact hwins
        · rw [setR_off (strNe (by decide)), setR_off (strNe (by decide))]; exact hplain
    · exact ⟨by decide, by decide⟩
    · rw [setR_off (strNe (by decide)), setR_off (strNe (by decide))]; exact setR_here
    · rw [setR_off (strNe (by decide))]; exact setR_here

theorem rpl_of_well {prog : Program} {w : World} {σ : Sg} {h : Heap} : ∀ {vs : List Value} {xs : List Int}, WellAll w.params h vs (ofPys (xs.map PyData.int)) → RpL prog w 91 σ vs (xs.map D.int)
  | [], [], _ => .nil
  | v :: vs, x :: xs, h => by
    cases h with
    | cons a r =>
      cases a
      exact .cons (.int _ _) (rpl_of_well r)
  | [], _ :: _, h => nomatch h
  | _ :: _, [], h => nomatch h

theorem law_top (d_law : ∀ P, Def1 P 151 allNames tab lawW) {prog : Program} {w : World} {s : Shared} {mg mb : PySem.Str → Option Value} {la : Addr} {xs : List Int} {Q : Value → Shared → Prop} {E : Value → Shared → Prop}
    (K : KX w.params s.heap) (G : s.heap.Ns mainGlobals mg) (B : s.heap.Ns builtinsNs mb) (hb : ∀ x : PySem.Str, x ≠ "__name__" → mb x = bootBuiltins x) (hl : s.heap.NoLimit)
    (hx : Well w.params s.heap (.ref la) (ofPy (.list (xs.map PyData.int)))) (hn : xs.length ≤ 63) (hQ : ∀ h tk, Kept s.heap h → Q (.bool true) { s with heap := h, toks := tk }) :
    wpAny (model prog w) callerA (call (.ref 151) [.ref la]) Q E s := by
  have hc := (d_law w.params).fn (calls_law (prog := prog) (w := w) w.params)
  have wd := wd_top K G B hb hl
  cases hx with
  | @list _ vs _ hg hw =>
  refine hc.go (σ := fun a => s.heap.get? a) (ds := [.list (xs.map D.int)]) (post := fun d => d = .bool true) ⟨rfl, by decide, by decide⟩ (fun _ _ e => e) wd (.cons (.list (n := 0) hg (rpl_of_well hw)) .nil) ⟨xs, rfl, hn, rfl⟩ ?_
  rintro d rfl v σ' h' tk nx r
  cases r
  exact hQ _ _ nx.kept
end Mine.Internal
set_option maxHeartbeats 8000000 in
theorem PySem.Challenge.cw_xg0029_01_holds : PySem.Challenge.rw_xg0029_01.Holds := by
  exact Mine.Internal.hd (by
  intro w s₀ s₁ mg mb G Y fa o pm cd doc dV kV ho hd hcd hD hmg hg args vals as hpre hlay hrd hwl hlo
  have KX := kIn_of Y
  refine Ground.open G ?_
  intro T B D TE TW
  wrow_args hpre hlay hrd hwl hlo
  all_goals skip
  rename_i xs hs hlay0 hL1 hr1 hl2 q1 q2 la vs q3 hL2 ra w1 r0 hI hr2 hcond hc2
  have e : fa = 151 := by
    have := mg_of KX T.g (n := "law") (v := .ref 151) (by kernel_rfl)
    have h2 := hmg.symm.trans this
    cases h2; rfl
  subst e
  refine Mine.Internal.law_top Mine.Internal.d_law KX T.g T.b T.builtins T.nolimit w1 (by omega) fun h tk k => ?_
  exact ⟨.inl ⟨.bool true, .bool true, [], rfl, fun _ => rfl, .bool true, by kernel_rfl, fun _ => ⟨.nil, fun _ h => nomatch h⟩⟩, .of_keep k, rfl, .of_eq hg⟩)
