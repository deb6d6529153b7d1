import PyProof.Rows.All
import Wide.All
import OpenK.AllK
import Wide.FinOn
import Lean
import PySem.Challenge.RW_lq0012_03
set_option genSizeOf false
set_option genInjectivity false
set_option Elab.async false
set_option maxRecDepth 100000
set_option maxHeartbeats 0
set_option linter.all false
section
open PySem
namespace Mine
theorem ble {n m : Nat} (h : Nat.ble n m = true) : n ≤ m := Nat.le_of_ble_eq_true h
end Mine
namespace Mine.Dx
theorem any_eq {α : Type} {p : α → Bool} {x : Option α} (h : x.any p = true) : ∃ a, x = some a ∧ p a = true := by cases x with | none => cases h | some a => exact ⟨a, rfl, h⟩
theorem elO {α : Type} {x : Option α} {p : α → Bool} {M : Prop} (h : x.any p = true) (f : ∀ a, x = some a → p a = true → M) : M := (any_eq h).elim fun a q => f a q.1 q.2
theorem l2 {a b : Bool} (h : (a && b) = true) : a = true := (Bool.and_eq_true_iff.mp h).1
theorem r2 {a b : Bool} (h : (a && b) = true) : b = true := (Bool.and_eq_true_iff.mp h).2
theorem no_some {α : Type} {x : α} {P : Prop} (h : none = some x) : P := nomatch h
theorem no_true {P : Prop} (h : false = true) : P := nomatch h
noncomputable def AllQ {α : Type} (f : α → Prop) : List α → Prop
  | [] => True
  | x :: r => f x ∧ AllQ f r
theorem AllQ.mem {α : Type} {f : α → Prop} : ∀ {l : List α}, AllQ f l → ∀ x ∈ l, f x
  | _ :: _, h, _, .head _ => h.1
  | _ :: _, h, x, .tail _ q => h.2.mem x q
theorem ff {b : Bool} (h : (!b) = true) : b = false := by cases b with | false => rfl | true => cases h
noncomputable def one {α : Type} : List α → Option α
  | [a] => some a
  | _ => none
theorem one_eq {α : Type} {l : List α} {a : α} (h : one l = some a) : l = [a] := by
  match l, h with
  | [_], h => cases h; rfl
theorem one_el {α : Type} {l : List α} {M : List α → Prop} {p : α → Bool} (h : (one l).any p = true) (f : ∀ a, p a = true → M [a]) : M l := elO h fun a q r => one_eq q ▸ f a r
theorem emp_el {α : Type} {l : List α} {M : List α → Prop} (h : l.isEmpty = true) (f : M []) : M l := List.isEmpty_iff.mp h ▸ f
theorem non_el {α : Type} {l : Option α} {M : Option α → Prop} (h : l.isNone = true) (f : M none) : M l := Option.isNone_iff_eq_none.mp h ▸ f
noncomputable def FE (k : Nat) : Type := ([Const × Nat × Pos, Str × Pos, PySem.Expr × Str × Pos, PySem.Expr × Operator × PySem.Expr × Pos, UnaryOp × PySem.Expr × Pos, PySem.Expr × List CmpOp × List PySem.Expr × Pos, PySem.Expr × PySem.Expr × Pos, PySem.Expr × List PySem.Expr × List Keyword × Pos, PySem.Expr × PySem.Expr × PySem.Expr × Pos, BoolOp × List PySem.Expr × Pos, List PySem.Expr × Nat × Pos, List PySem.Expr × Pos, Option PySem.Expr × Option PySem.Expr × Option PySem.Expr × Pos, PySem.Expr × List Comprehension × Scope × Pos, Arguments × PySem.Expr × Scope × Pos] : List Type).getD k Unit
noncomputable def desE : PySem.Expr → (k : Nat) × FE k
  | .Constant a0 a1 a2 => ⟨0, (a0, a1, a2)⟩
  | .Name a0 a1 => ⟨1, (a0, a1)⟩
  | .Attribute a0 a1 a2 => ⟨2, (a0, a1, a2)⟩
  | .BinOp a0 a1 a2 a3 => ⟨3, (a0, a1, a2, a3)⟩
  | .UnaryOp a0 a1 a2 => ⟨4, (a0, a1, a2)⟩
  | .Compare a0 a1 a2 a3 => ⟨5, (a0, a1, a2, a3)⟩
  | .Subscript a0 a1 a2 => ⟨6, (a0, a1, a2)⟩
  | .Call a0 a1 a2 a3 => ⟨7, (a0, a1, a2, a3)⟩
  | .IfExp a0 a1 a2 a3 => ⟨8, (a0, a1, a2, a3)⟩
  | .BoolOp a0 a1 a2 => ⟨9, (a0, a1, a2)⟩
  | .Tuple a0 a1 a2 => ⟨10, (a0, a1, a2)⟩
  | .List a0 a1 => ⟨11, (a0, a1)⟩
  | .Slice a0 a1 a2 a3 => ⟨12, (a0, a1, a2, a3)⟩
  | .ListComp a0 a1 a2 a3 => ⟨13, (a0, a1, a2, a3)⟩
  | .Lambda a0 a1 a2 a3 => ⟨14, (a0, a1, a2, a3)⟩
  | _ => ⟨15, ()⟩
noncomputable def mkE (k : Nat) (x : FE k) (e : PySem.Expr) : Prop := match k, x with
  | 0, x => e = .Constant x.1 x.2.1 x.2.2
  | 1, x => e = .Name x.1 x.2
  | 2, x => e = .Attribute x.1 x.2.1 x.2.2
  | 3, x => e = .BinOp x.1 x.2.1 x.2.2.1 x.2.2.2
  | 4, x => e = .UnaryOp x.1 x.2.1 x.2.2
  | 5, x => e = .Compare x.1 x.2.1 x.2.2.1 x.2.2.2
  | 6, x => e = .Subscript x.1 x.2.1 x.2.2
  | 7, x => e = .Call x.1 x.2.1 x.2.2.1 x.2.2.2
  | 8, x => e = .IfExp x.1 x.2.1 x.2.2.1 x.2.2.2
  | 9, x => e = .BoolOp x.1 x.2.1 x.2.2
  | 10, x => e = .Tuple x.1 x.2.1 x.2.2
  | 11, x => e = .List x.1 x.2
  | 12, x => e = .Slice x.1 x.2.1 x.2.2.1 x.2.2.2
  | 13, x => e = .ListComp x.1 x.2.1 x.2.2.1 x.2.2.2
  | 14, x => e = .Lambda x.1 x.2.1 x.2.2.1 x.2.2.2
  | _, _ => True
theorem desE_mk (e : PySem.Expr) : mkE (desE e).1 (desE e).2 e := by cases e <;> first | exact rfl | exact trivial
noncomputable def atE (k : Nat) (e : PySem.Expr) : Option (FE k) := if h : (desE e).1 = k then some (h ▸ (desE e).2) else none
theorem atE_mk {k : Nat} {e : PySem.Expr} {x : FE k} (h : atE k e = some x) : mkE k x e := by
  unfold atE at h
  split at h
  · rename_i q; subst q; cases h; exact desE_mk e
  · cases h
theorem atE_el {k : Nat} {e : PySem.Expr} {p : FE k → Bool} {M : Prop} (h : (atE k e).any p = true) (f : ∀ x, mkE k x e → p x = true → M) : M := elO h fun x q r => f x (atE_mk q) r
noncomputable def FS (k : Nat) : Type := ([List PySem.Expr × PySem.Expr × Pos, PySem.Expr × Operator × PySem.Expr × Pos, PySem.Expr × List Stmt × List Stmt × Pos, Option PySem.Expr × Pos, PySem.Expr × Pos, PySem.Expr × PySem.Expr × List Stmt × List Stmt × Pos, PySem.Expr × List Stmt × List Stmt × Pos, Pos, Pos, Str × Arguments × List Stmt × List PySem.Expr × Option PySem.Expr × List TypeParam × Scope × Option Scope × Str × Pos, Str × List PySem.Expr × List Keyword × List Stmt × List PySem.Expr × List TypeParam × Scope × Option Scope × Str × List Str × Pos] : List Type).getD k Unit
noncomputable def desS : Stmt → (k : Nat) × FS k
  | .Assign a0 a1 a2 => ⟨0, (a0, a1, a2)⟩
  | .AugAssign a0 a1 a2 a3 => ⟨1, (a0, a1, a2, a3)⟩
  | .If a0 a1 a2 a3 => ⟨2, (a0, a1, a2, a3)⟩
  | .Return a0 a1 => ⟨3, (a0, a1)⟩
  | .Expr a0 a1 => ⟨4, (a0, a1)⟩
  | .For a0 a1 a2 a3 a4 => ⟨5, (a0, a1, a2, a3, a4)⟩
  | .While a0 a1 a2 a3 => ⟨6, (a0, a1, a2, a3)⟩
  | .Pass a0 => ⟨7, a0⟩
  | .Break a0 => ⟨8, a0⟩
  | .FunctionDef a0 a1 a2 a3 a4 a5 a6 a7 a8 a9 => ⟨9, (a0, a1, a2, a3, a4, a5, a6, a7, a8, a9)⟩
  | .ClassDef a0 a1 a2 a3 a4 a5 a6 a7 a8 a9 a10 => ⟨10, (a0, a1, a2, a3, a4, a5, a6, a7, a8, a9, a10)⟩
  | _ => ⟨11, ()⟩
noncomputable def mkS (k : Nat) (x : FS k) (e : Stmt) : Prop := match k, x with
  | 0, x => e = .Assign x.1 x.2.1 x.2.2
  | 1, x => e = .AugAssign x.1 x.2.1 x.2.2.1 x.2.2.2
  | 2, x => e = .If x.1 x.2.1 x.2.2.1 x.2.2.2
  | 3, x => e = .Return x.1 x.2
  | 4, x => e = .Expr x.1 x.2
  | 5, x => e = .For x.1 x.2.1 x.2.2.1 x.2.2.2.1 x.2.2.2.2
  | 6, x => e = .While x.1 x.2.1 x.2.2.1 x.2.2.2
  | 7, x => e = .Pass x
  | 8, x => e = .Break x
  | 9, x => e = .FunctionDef x.1 x.2.1 x.2.2.1 x.2.2.2.1 x.2.2.2.2.1 x.2.2.2.2.2.1 x.2.2.2.2.2.2.1 x.2.2.2.2.2.2.2.1 x.2.2.2.2.2.2.2.2.1 x.2.2.2.2.2.2.2.2.2
  | 10, x => e = .ClassDef x.1 x.2.1 x.2.2.1 x.2.2.2.1 x.2.2.2.2.1 x.2.2.2.2.2.1 x.2.2.2.2.2.2.1 x.2.2.2.2.2.2.2.1 x.2.2.2.2.2.2.2.2.1 x.2.2.2.2.2.2.2.2.2.1 x.2.2.2.2.2.2.2.2.2.2
  | _, _ => True
theorem desS_mk (e : Stmt) : mkS (desS e).1 (desS e).2 e := by cases e <;> first | exact rfl | exact trivial
noncomputable def atS (k : Nat) (e : Stmt) : Option (FS k) := if h : (desS e).1 = k then some (h ▸ (desS e).2) else none
theorem atS_mk {k : Nat} {e : Stmt} {x : FS k} (h : atS k e = some x) : mkS k x e := by
  unfold atS at h
  split at h
  · rename_i q; subst q; cases h; exact desS_mk e
  · cases h
theorem atS_el {k : Nat} {e : Stmt} {p : FS k → Bool} {M : Prop} (h : (atS k e).any p = true) (f : ∀ x, mkS k x e → p x = true → M) : M := elO h fun x q r => f x (atS_mk q) r
end Mine.Dx
end
section
open PySem PySem.W PyProof.Rows
namespace Mine.Tw
open PySem.TablesWhole Mine.Dx
noncomputable abbrev P := PySem.Challenge.pw_lq0012_03
noncomputable def stmtAt (n : Nat) : Stmt := (P.main.body.drop n).headD (.Pass default)
noncomputable def bodyOf (s : Stmt) : List Stmt := ((atS 10 s).map fun x => x.2.2.2.1).getD []
noncomputable def scopeOf (s : Stmt) : Scope := ((atS 10 s).map fun x => x.2.2.2.2.2.2.1).getD P.main.scope
noncomputable def isCls (s : Stmt) : Bool := (atS 10 s).any fun x => x.2.2.2.2.2.1.isEmpty
noncomputable def part {β : Type} (d : β) (f : FS 10 → β) (s : Stmt) : β := ((atS 10 s).map f).getD d
noncomputable def headOf (cx : TablesWhole.Ctx) (sc : Scope) (s : Stmt) (gl : List Str) : Bool := wClassHead holds cx sc (part [] (·.2.1) s) (part [] (·.2.2.1) s) (part [] (·.2.2.2.2.1) s) [] (scopeOf s) (part none (·.2.2.2.2.2.2.2.1) s) (part default (·.2.2.2.2.2.2.2.2.1) s) (part default (·.2.2.2.2.2.2.2.2.2.2) s) gl
theorem wS_cls {top : Scope} {cx : TablesWhole.Ctx} {sc : Scope} (s : Stmt) (h : isCls s = true) : wS holds top cx sc s = (headOf cx sc s (declSs true (bodyOf s)) && wSs holds top ⟨scopeOf s, declSs false (bodyOf s), declSs true (bodyOf s), cx.encl, none⟩ (scopeOf s) (bodyOf s)) := by
  refine atS_el h fun x q r => ?_
  obtain ⟨a0, a1, a2, a3, a4, a5, a6, a7, a8, a9, a10⟩ := x
  cases q
  exact emp_el (M := fun a5 => wS holds top cx sc (.ClassDef a0 a1 a2 a3 a4 a5 a6 a7 a8 a9 a10) = (headOf cx sc (.ClassDef a0 a1 a2 a3 a4 a5 a6 a7 a8 a9 a10) (declSs true a3) && wSs holds top ⟨a6, declSs false a3, declSs true a3, cx.encl, none⟩ a6 a3)) r rfl
theorem wSs_all {top : Scope} {cx : TablesWhole.Ctx} {sc : Scope} : ∀ l : List Stmt, (∀ s ∈ l, wS holds top cx sc s = true) → wSs holds top cx sc l = true
  | [], _ => rfl
  | s :: r, h => by
    show (wS holds top cx sc s && wSs holds top cx sc r) = true
    rw [h s (List.mem_cons_self ..), wSs_all r fun x hx => h x (List.mem_cons_of_mem _ hx)]; rfl
theorem all_cut {α : Type} (f : α → Bool) (n : Nat) (l : List α) (h1 : (l.take n).all f = true) (h2 : (l.drop n).all f = true) : l.all f = true := by
  rw [← List.take_append_drop n l, List.all_append, h1, h2]; rfl
theorem step_drop {α : Type} {p : List α → Prop} {l : List α} {a b c : Nat} (h : c = a + b) (x : p (l.drop c)) : p ((l.drop a).drop b) := by
  rw [List.drop_drop, ← h]; exact x
noncomputable def clsScope : Scope := scopeOf (stmtAt 2)
noncomputable def clsBody : List Stmt := bodyOf (stmtAt 2)
noncomputable def cxM : TablesWhole.Ctx := ⟨P.main.scope, [], [], [], none⟩
noncomputable def cxC : TablesWhole.Ctx := ⟨clsScope, [], [], [], none⟩
noncomputable def codeOf (x : Str) : Nat := x.cps.toList.foldl (fun n c => n * 1114112 + c) 0
noncomputable def nd : List Nat → Bool
  | [] => true
  | a :: l => l.all (fun b => !Nat.beq a b) && nd l
theorem nd_pw : ∀ {l : List Nat}, nd l = true → l.Pairwise (· ≠ ·)
  | [], _ => .nil
  | a :: l, h => by
    obtain ⟨h1, h2⟩ := Bool.and_eq_true_iff.mp (show (l.all (fun b => !Nat.beq a b) && nd l) = true from h)
    refine .cons (fun b hb => ?_) (nd_pw h2)
    have := List.all_eq_true.mp h1 b hb
    intro e
    subst e
    simp at this
theorem filter_none {α : Type} {c : Str} {f : Str → Nat} : ∀ {l : List (Str × α)}, (∀ y ∈ l, f c ≠ f y.1) → l.filter (·.1 == c) = []
  | [], _ => rfl
  | y :: l, h => by
    have hy : (y.1 == c) = false := by
      cases e : y.1 == c with
      | false => rfl
      | true => exact absurd (congrArg f (eq_of_beq e)).symm (h y (List.mem_cons_self ..))
    rw [List.filter_cons_of_neg (by rw [hy]; exact Bool.false_ne_true), filter_none fun z hz => h z (List.mem_cons_of_mem _ hz)]
theorem filter_one {α : Type} {f : Str → Nat} : ∀ {l : List (Str × α)}, (l.map fun x => f x.1).Pairwise (· ≠ ·) → ∀ x ∈ l, l.filter (·.1 == x.1) = [x]
  | [], _, _, hx => nomatch hx
  | y :: l, h, x, hx => by
    rw [List.map_cons, List.pairwise_cons] at h
    have hn : ∀ z ∈ l, f y.1 ≠ f z.1 := fun z hz => h.1 _ (List.mem_map.mpr ⟨z, hz, rfl⟩)
    rcases List.mem_cons.mp hx with rfl | hx
    · rw [List.filter_cons_of_pos (p := fun z : Str × α => z.1 == x.1) (beq_self_eq_true x.1), filter_none hn]
    · have : (y.1 == x.1) = false := by
        cases e : y.1 == x.1 with
        | false => rfl
        | true => exact absurd (congrArg f (eq_of_beq e)) (hn x hx)
      rw [List.filter_cons_of_neg (by rw [this]; exact Bool.false_ne_true), filter_one h.2 x hx]
theorem noTwice_of {sc : Scope} (h : nd (sc.names.map fun x => codeOf x.1) = true) : noTwice sc = true := by
  unfold noTwice
  rw [List.all_eq_true]
  rintro ⟨n, k⟩ hx
  have := filter_one (nd_pw h) _ hx
  dsimp only at this ⊢
  rw [this]
theorem noTwice_cls : noTwice clsScope = true := noTwice_of (by decide +kernel)
noncomputable def bindOf (s : Stmt) : Str := ((atS 9 s).map fun x => x.2.2.2.2.2.2.2.2.1).getD (((atS 0 s).bind fun x => (one x.1).bind fun t => (atE 1 t).map fun y => y.1).getD default)
theorem names_are : clsScope.names = clsBody.map fun s => (bindOf s, NameKind.local) := by kernel_rfl
theorem lookup_all {k : NameKind} {n : Str} : ∀ {l : List (Str × NameKind)}, (∀ x ∈ l, x.2 = k) → n ∈ l.map (·.1) → l.lookup n = some k
  | [], _, h => nomatch h
  | (a, b) :: l, hk, h => by
    rw [List.lookup_cons]
    cases e : n == a with
    | true => exact congrArg some (hk (a, b) (List.mem_cons_self ..))
    | false =>
      refine lookup_all (fun x hx => hk x (List.mem_cons_of_mem _ hx)) ?_
      rcases List.mem_cons.mp h with h | h
      · exact absurd (beq_iff_eq.mpr h) (by rw [e]; exact Bool.false_ne_true)
      · exact h
theorem look {n : Str} (h : n ∈ clsBody.map bindOf) : clsScope.names.lookup n = some .local := by
  refine lookup_all (fun x hx => ?_) ?_
  · rw [names_are] at hx
    obtain ⟨s, _, rfl⟩ := List.mem_map.mp hx
    rfl
  · rw [names_are, List.map_map]; exact h
theorem bind_ok {n : Str} {p : Option Pos} (h : n ∈ clsBody.map bindOf) : holds.bind cxC clsScope n p = true := by
  have e := look h
  show ((clsScope.names.lookup n).isSome && (match clsScope.names.lookup n with
    | some k => if ([] : List Str).contains n then k == .globalExplicit else if ([] : List Str).contains n then k == .free else k == .local || k == .cell
    | none => true)) = true
  rw [e]; rfl
noncomputable def defOk (top : Scope) (x : FS 9) : Bool :=
    (wEs holds cxC clsScope none x.2.2.2.1 && (wDefaults holds cxC clsScope none x.2.1 && (holds.params x.2.2.2.2.2.2.1 x.2.1 && (holds.enterFrom [] none (declSs true x.2.2.1) clsScope x.2.2.2.2.2.2.1 && (wAnns holds cxC clsScope none x.2.1 && wEo holds cxC clsScope none x.2.2.2.2.1))))) &&
     wSs holds top ⟨x.2.2.2.2.2.2.1, declSs false x.2.2.1, declSs true x.2.2.1, [x.2.2.2.2.2.2.1], none⟩ x.2.2.2.2.2.2.1 x.2.2.1
noncomputable def restOf (top : Scope) (s : Stmt) : Bool :=
  (atS 9 s).any (fun x => x.2.2.2.2.2.1.isEmpty && defOk top x) || (atS 0 s).any fun x => (one x.1).any fun t => (atE 1 t).any fun _ => (atE 11 x.2.1).isSome || wE holds cxC clsScope none x.2.1
noncomputable def itemsOf (s : Stmt) : List Expr := ((atS 0 s).bind fun x => (atE 11 x.2.1).map fun y => y.1).getD []
theorem wS_rest {top : Scope} (s : Stmt) (h : bindOf s ∈ clsBody.map bindOf) (hr : restOf top s = true) (hi : wEs holds cxC clsScope none (itemsOf s) = true) : wS holds top cxC clsScope s = true := by
  have hb : ∀ p, holds.bind cxC clsScope (bindOf s) p = true := fun p => bind_ok h
  clear h
  rcases Bool.or_eq_true_iff.mp hr with hr | hr
  · refine atS_el hr fun x q r => ?_
    obtain ⟨name, args, body, decorators, returns, tps, own, tscope, bind, pos⟩ := x
    cases q
    have hb : holds.bind cxC clsScope bind (some pos) = true := hb (some pos)
    obtain ⟨r, hr⟩ := Bool.and_eq_true_iff.mp r
    obtain ⟨hr, h7⟩ := Bool.and_eq_true_iff.mp hr
    obtain ⟨h1, hr⟩ := Bool.and_eq_true_iff.mp hr
    obtain ⟨h2, hr⟩ := Bool.and_eq_true_iff.mp hr
    obtain ⟨h3, hr⟩ := Bool.and_eq_true_iff.mp hr
    obtain ⟨h4, hr⟩ := Bool.and_eq_true_iff.mp hr
    obtain ⟨h5, h6⟩ := Bool.and_eq_true_iff.mp hr
    dsimp only at h1 h2 h3 h4 h5 h6 h7
    refine emp_el (M := fun tps => wS holds top cxC clsScope (.FunctionDef name args body decorators returns tps own tscope bind pos) = true) r ?_
    show ((wEs holds cxC clsScope none decorators && (wDefaults holds cxC clsScope none args && (holds.bind cxC clsScope bind (some pos) && (holds.params own args && ((holds.enterFrom [] none (declSs true body) clsScope own && (wAnns holds cxC clsScope none args && (wEo holds cxC clsScope none returns && true))) && true))))) &&
      wSs holds top ⟨own, declSs false body, declSs true body, [own], none⟩ own body) = true
    rw [h1, h2, h3, h4, h5, h6, h7, hb]
    rfl
  · refine atS_el hr fun x q r => ?_
    obtain ⟨ts, v, pos⟩ := x
    cases q
    revert hi hb
    refine one_el (M := fun ts => wEs holds cxC clsScope none (itemsOf (.Assign ts v pos)) = true → (∀ p, holds.bind cxC clsScope (bindOf (.Assign ts v pos)) p = true) → wS holds top cxC clsScope (.Assign ts v pos) = true) r fun t r => ?_
    refine atE_el r fun y q r hi hb => ?_
    obtain ⟨id, p1⟩ := y
    cases q
    have hb : holds.bind cxC clsScope id (some p1) = true := hb (some p1)
    show (wE holds cxC clsScope none v && (holds.bind cxC clsScope id (some p1) && true)) = true
    rw [hb, Bool.and_true, Bool.and_true]
    rcases Bool.or_eq_true_iff.mp r with r | r
    · cases e : atE 11 v with
      | none => rw [e] at r; cases r
      | some y =>
        have hv := atE_mk e
        obtain ⟨es, p2⟩ := y
        cases hv
        exact hi
    · exact r
theorem wEs_names : ∀ l : List Expr, (∀ e ∈ l, ∃ id pos, e = .Name id pos ∧ id ∈ clsBody.map bindOf) → wEs holds cxC clsScope none l = true
  | [], _ => rfl
  | e :: r, h => by
    obtain ⟨id, pos, rfl, hm⟩ := h e (List.mem_cons_self ..)
    show (wE holds cxC clsScope none (.Name id pos) && wEs holds cxC clsScope none r) = true
    rw [wEs_names r fun x hx => h x (List.mem_cons_of_mem _ hx), Bool.and_true]
    have hf : clsScope.functionLike = false := by decide +kernel
    show (if (id == ("super" : Str) && clsScope.functionLike) = true then _ else clsScope.bears id) = true
    rw [hf, Bool.and_false, if_neg Bool.false_ne_true]
    unfold Scope.bears
    rw [look hm]; rfl
noncomputable def nameOf (e : Expr) : Str := ((atE 1 e).map fun y => y.1).getD default
noncomputable def isName (e : Expr) : Bool := (atE 1 e).any fun _ => true
noncomputable def ins : List Expr := itemsOf ((clsBody.drop 214).headD (.Pass default))
theorem ins_names : ins.all isName = true := by decide +kernel
noncomputable def idx : List Nat := [63, 64, 62, 62, 62, 65, 66, 62, 67, 68, 69, 62, 62, 70, 71, 62, 72, 73, 62, 62, 62, 74, 75, 62, 76, 77, 62, 62, 62, 78, 79, 62, 80, 81, 62, 62, 82, 83, 84, 62, 85, 86, 87, 62, 88, 89, 90, 62, 91, 92, 62, 62, 62, 93, 94, 62, 95, 96, 62, 62, 62, 97, 98, 62, 99, 100, 62, 62, 62, 101, 102, 62, 103, 104, 105, 62, 106, 107, 108, 62, 109, 110, 62, 62, 62, 111, 112, 62, 113, 114, 62, 62, 62, 115, 116, 62, 117, 118, 62, 62, 62, 119, 120, 62, 121, 122, 123, 62, 124, 125, 126, 62, 127, 128, 62, 62, 62, 129, 130, 62, 131, 132, 62, 62, 62, 133, 134, 62, 62, 135, 62, 62, 136, 137, 138, 62, 139, 62, 140, 62, 141, 142, 143, 62, 144, 145, 62, 62, 146, 147, 148, 62, 149, 150, 151, 62, 62, 152, 62, 62, 153, 154, 155, 62, 156, 157, 158, 62, 159, 160, 161, 62, 162, 163, 164, 62, 165, 166, 62, 62, 167, 168, 169, 62, 170, 171, 172, 62, 173, 174, 175, 62, 176, 177, 62, 62, 178, 179, 180, 62, 181, 182, 183, 62, 184, 185, 186, 62, 187, 188, 62, 62, 62, 189, 190, 62, 191, 192, 62, 62, 62, 193, 194, 62, 195, 196, 62, 62, 197, 198, 199, 62, 200, 201, 202, 62, 203, 204, 205, 62, 206, 207, 62, 62, 62, 208, 209, 62, 210, 211, 62, 62, 62, 212, 213, 62]
theorem ins_at : ins.map nameOf = idx.map fun i => ((clsBody.map bindOf).drop i).headD default := by kernel_rfl
theorem idx_lt : idx.all (fun i => decide (i < 217)) = true := by decide +kernel
theorem body_len : clsBody.length = 217 := by decide +kernel
theorem head_mem {α : Type} {d : α} {l : List α} {i : Nat} (h : i < l.length) : (l.drop i).headD d ∈ l := by
  rw [List.drop_eq_getElem_cons h]
  exact List.getElem_mem h
theorem ins_ok : wEs holds cxC clsScope none ins = true := by
  refine wEs_names _ fun e he => ?_
  refine atE_el (List.all_eq_true.mp ins_names e he) fun y q _ => ?_
  obtain ⟨id, pos⟩ := y
  cases q
  refine ⟨id, pos, rfl, ?_⟩
  have : id ∈ ins.map nameOf := List.mem_map.mpr ⟨_, he, rfl⟩
  rw [ins_at] at this
  obtain ⟨i, hi, rfl⟩ := List.mem_map.mp this
  have hl := of_decide_eq_true (List.all_eq_true.mp idx_lt i hi)
  exact head_mem (by rw [List.length_map, body_len]; exact hl)
theorem cb0 : ((clsBody.drop 0).take 24).all (restOf P.main.scope) = true := by decide +kernel
theorem cb24 : ((clsBody.drop 24).take 24).all (restOf P.main.scope) = true := by decide +kernel
theorem cb48 : ((clsBody.drop 48).take 24).all (restOf P.main.scope) = true := by decide +kernel
theorem cb72 : ((clsBody.drop 72).take 24).all (restOf P.main.scope) = true := by decide +kernel
theorem cb96 : ((clsBody.drop 96).take 24).all (restOf P.main.scope) = true := by decide +kernel
theorem cb120 : ((clsBody.drop 120).take 24).all (restOf P.main.scope) = true := by decide +kernel
theorem cb144 : ((clsBody.drop 144).take 24).all (restOf P.main.scope) = true := by decide +kernel
theorem cb168 : ((clsBody.drop 168).take 24).all (restOf P.main.scope) = true := by decide +kernel
theorem cb192 : ((clsBody.drop 192).take 24).all (restOf P.main.scope) = true := by decide +kernel
theorem cb216 : ((clsBody.drop 216).take 24).all (restOf P.main.scope) = true := by decide +kernel
theorem cbE : (clsBody.drop 240).all (restOf P.main.scope) = true := by decide +kernel
theorem cc216 : (clsBody.drop 216).all (restOf P.main.scope) = true := all_cut _ 24 _ cb216 (step_drop (p := fun l => l.all (restOf P.main.scope) = true) (c := 240) rfl cbE)
theorem cc192 : (clsBody.drop 192).all (restOf P.main.scope) = true := all_cut _ 24 _ cb192 (step_drop (p := fun l => l.all (restOf P.main.scope) = true) (c := 216) rfl cc216)
theorem cc168 : (clsBody.drop 168).all (restOf P.main.scope) = true := all_cut _ 24 _ cb168 (step_drop (p := fun l => l.all (restOf P.main.scope) = true) (c := 192) rfl cc192)
theorem cc144 : (clsBody.drop 144).all (restOf P.main.scope) = true := all_cut _ 24 _ cb144 (step_drop (p := fun l => l.all (restOf P.main.scope) = true) (c := 168) rfl cc168)
theorem cc120 : (clsBody.drop 120).all (restOf P.main.scope) = true := all_cut _ 24 _ cb120 (step_drop (p := fun l => l.all (restOf P.main.scope) = true) (c := 144) rfl cc144)
theorem cc96 : (clsBody.drop 96).all (restOf P.main.scope) = true := all_cut _ 24 _ cb96 (step_drop (p := fun l => l.all (restOf P.main.scope) = true) (c := 120) rfl cc120)
theorem cc72 : (clsBody.drop 72).all (restOf P.main.scope) = true := all_cut _ 24 _ cb72 (step_drop (p := fun l => l.all (restOf P.main.scope) = true) (c := 96) rfl cc96)
theorem cc48 : (clsBody.drop 48).all (restOf P.main.scope) = true := all_cut _ 24 _ cb48 (step_drop (p := fun l => l.all (restOf P.main.scope) = true) (c := 72) rfl cc72)
theorem cc24 : (clsBody.drop 24).all (restOf P.main.scope) = true := all_cut _ 24 _ cb24 (step_drop (p := fun l => l.all (restOf P.main.scope) = true) (c := 48) rfl cc48)
theorem cc0 : (clsBody.drop 0).all (restOf P.main.scope) = true := all_cut _ 24 _ cb0 (step_drop (p := fun l => l.all (restOf P.main.scope) = true) (c := 24) rfl cc24)
theorem items_but : ((clsBody.take 214) ++ (clsBody.drop 215)).all (fun s => wEs holds cxC clsScope none (itemsOf s)) = true := by decide +kernel
theorem body_split : clsBody = clsBody.take 214 ++ (clsBody.drop 214).headD (.Pass default) :: clsBody.drop 215 := by
  have e : clsBody.drop 214 = (clsBody.drop 214).headD (.Pass default) :: clsBody.drop 215 := by
    rw [List.drop_eq_getElem_cons (i := 214) (by rw [body_len]; decide)]
    rfl
  rw [← e, List.take_append_drop]
theorem items_ok (s : Stmt) (h : s ∈ clsBody) : wEs holds cxC clsScope none (itemsOf s) = true := by
  have hb := List.all_eq_true.mp items_but
  rw [body_split] at h
  rcases List.mem_append.mp h with h | h
  · exact hb s (List.mem_append_left _ h)
  · rcases List.mem_cons.mp h with h | h
    · rw [h]; exact ins_ok
    · exact hb s (List.mem_append_right _ h)
theorem cls_body_ok : wSs holds P.main.scope cxC clsScope clsBody = true := by
  refine wSs_all _ fun s hs => wS_rest s (List.mem_map.mpr ⟨s, hs, rfl⟩) (List.all_eq_true.mp cc0 s hs) (items_ok s hs)
theorem decl_f : declSs false clsBody = [] := by decide +kernel
theorem decl_t : declSs true clsBody = [] := by decide +kernel
theorem head_ok : headOf cxM P.main.scope (stmtAt 2) [] = true := by
  have a : noTwice (scopeOf (stmtAt 2)) = true := noTwice_cls
  unfold headOf wClassHead Alg.enterFrom
  rw [a]
  decide +kernel
theorem cls_ok : wS holds P.main.scope cxM P.main.scope (stmtAt 2) = true := by
  rw [wS_cls _ (by decide +kernel)]
  have d : declSs false (bodyOf (stmtAt 2)) = [] := decl_f
  have d' : declSs true (bodyOf (stmtAt 2)) = [] := decl_t
  rw [d, d', head_ok, Bool.true_and]
  exact cls_body_ok
noncomputable def told : List Str := wSs gather P.main.scope ⟨P.main.scope, [], [], [], none⟩ P.main.scope P.main.body
theorem told_nil : told = [] := List.isEmpty_iff.mp (by kernel_rfl)
theorem split3 : ∃ r, P.main.body = P.main.body.take 2 ++ stmtAt 2 :: r ∧ r = P.main.body.drop 3 := ⟨_, by kernel_rfl, rfl⟩
theorem wSs_app {top : Scope} {cx : TablesWhole.Ctx} {sc : Scope} : ∀ l r : List Stmt, wSs holds top cx sc l = true → wSs holds top cx sc r = true → wSs holds top cx sc (l ++ r) = true
  | [], _, _, h => h
  | s :: l, r, h, h' => by
    obtain ⟨a, b⟩ := Bool.and_eq_true_iff.mp (show (wS holds top cx sc s && wSs holds top cx sc l) = true from h)
    show (wS holds top cx sc s && wSs holds top cx sc (l ++ r)) = true
    rw [a, wSs_app l r b h']; rfl
theorem b0 : wSs holds P.main.scope cxM P.main.scope (P.main.body.take 2) = true := by decide +kernel
theorem b2 : wSs holds P.main.scope cxM P.main.scope (P.main.body.drop 3) = true := by kernel_rfl
theorem wSs_cons {top : Scope} {cx : TablesWhole.Ctx} {sc : Scope} {s : Stmt} {r : List Stmt} (h : wS holds top cx sc s = true) (h' : wSs holds top cx sc r = true) : wSs holds top cx sc (s :: r) = true := by
  show (wS holds top cx sc s && wSs holds top cx sc r) = true
  rw [h, h']; rfl
theorem body_ok : wSs holds P.main.scope cxM P.main.scope P.main.body = true := by
  obtain ⟨r, e, hr⟩ := split3
  have b2' := b2
  rw [← hr] at b2'
  rw [e]
  exact wSs_app _ _ b0 (wSs_cons cls_ok b2')
theorem twice_main : noTwice P.main.scope = true := by decide +kernel
theorem module_of {m : Module} (h1 : noTwice m.scope = true) (h2 : wSs gather m.scope ⟨m.scope, [], [], [], none⟩ m.scope m.body = []) (h3 : wSs holds m.scope ⟨m.scope, [], [], [], none⟩ m.scope m.body = true) : wModule holds m = true := by
  show (true && (noTwice m.scope && (wSs holds m.scope ⟨m.scope, [], wSs gather m.scope ⟨m.scope, [], [], [], none⟩ m.scope m.body, [], none⟩ m.scope m.body && true))) = true
  rw [h1, h2, h3]; rfl
theorem main_ok : wModule holds P.main = true := module_of twice_main told_nil body_ok
theorem program_of {p : Program} (h : wModule holds p.main = true) (h1 : p.modules = []) (h2 : p.parses = []) (h3 : p.harvested = []) : p.tablesWhole = true := by
  show (wModule holds p.main && (holds.all (p.modules.map fun (_, _, m) => wModule holds m) && (holds.all (p.parses.map (wParse holds)) && (holds.all (p.harvested.map (wParse holds)) && true)))) = true
  rw [h, h1, h2, h3]; rfl
theorem tw : PySem.Challenge.pw_lq0012_03.tablesWhole = true := program_of main_ok rfl rfl rfl
end Mine.Tw
end
section
open PySem PySem.W PyProof.Rows
namespace Mine.Go
open Sem (wp)
structure Sh where
  g : Nat → Option Obj
  ov : List (Nat × Obj)
  n : Nat
  t : Nat
noncomputable def look : List (Nat × Obj) → Nat → Option Obj
  | [], _ => none
  | p :: l, a => match Nat.beq p.1 a with
    | true => some p.2
    | false => look l a
noncomputable def put : List (Nat × Obj) → Nat → Obj → List (Nat × Obj)
  | [], a, o => [(a, o)]
  | p :: l, a, o => match Nat.beq p.1 a with
    | true => (p.1, o) :: l
    | false => p :: put l a o
noncomputable def Sh.get (s : Sh) (a : Nat) : Option Obj := match look s.ov a with
  | some o => some o
  | none => s.g a
theorem look_put (l : List (Nat × Obj)) (a b : Nat) (o : Obj) : look (put l a o) b = if b = a then some o else look l b := by
  induction l with
  | nil =>
    show (match Nat.beq a b with | true => some o | false => look [] b) = _
    cases e : Nat.beq a b with
    | true => rw [if_pos (Nat.eq_of_beq_eq_true e).symm]
    | false => rw [if_neg fun q => Nat.ne_of_beq_eq_false e q.symm]
  | cons p l ih =>
    unfold put
    cases e : Nat.beq p.1 a with
    | true =>
      have e' := Nat.eq_of_beq_eq_true e
      show (match Nat.beq p.1 b with | true => some o | false => look l b) = _
      cases f : Nat.beq p.1 b with
      | true => rw [if_pos ((Nat.eq_of_beq_eq_true f).symm.trans e')]
      | false =>
        rw [if_neg fun q => Nat.ne_of_beq_eq_false f (e'.trans q.symm)]
        show _ = (match Nat.beq p.1 b with | true => some p.2 | false => look l b)
        rw [f]
    | false =>
      show (match Nat.beq p.1 b with | true => some p.2 | false => look (put l a o) b) = _
      cases f : Nat.beq p.1 b with
      | true =>
        rw [if_neg fun q => Nat.ne_of_beq_eq_false e ((Nat.eq_of_beq_eq_true f).trans q)]
        show _ = (match Nat.beq p.1 b with | true => some p.2 | false => look l b)
        rw [f]
      | false =>
        rw [ih]
        show _ = if b = a then some o else (match Nat.beq p.1 b with | true => some p.2 | false => look l b)
        rw [f]
theorem look_cons (l : List (Nat × Obj)) (a b : Nat) (o : Obj) : look ((a, o) :: l) b = if b = a then some o else look l b := by
  show (match Nat.beq a b with | true => some o | false => look l b) = _
  cases e : Nat.beq a b with
  | true => rw [if_pos (Nat.eq_of_beq_eq_true e).symm]
  | false => rw [if_neg fun q => Nat.ne_of_beq_eq_false e q.symm]
structure Rep (s₀ s : Shared) (sh : Sh) : Prop where
  size : s.heap.objs.size = sh.n
  get : ∀ a, s.heap.get? a = sh.get a
  toks : s.toks = sh.t
  life : s.heap.life = s₀.heap.life
  gens : s.gens = s₀.gens
  drawn : s.drawn = s₀.drawn
  os : s.os = s₀.os
theorem get?_update {h : Heap} {a : Addr} {f : Obj → Obj} {o : Obj} (ho : h.get? a = some o) (hf : (f o).isFreed = false) (b : Addr) : (h.update a f).get? b = if b = a then some (f o) else h.get? b := by
  by_cases e : b = a
  · rw [if_pos e, e]; exact Heap.get?_update_self _ ho hf
  · rw [if_neg e]; exact Heap.get?_update_ne _ _ _ _ e
theorem get?_push {h : Heap} {o : Obj} (hf : o.isFreed = false) (b : Addr) : (h.push o).get? b = if b = h.objs.size then some o else h.get? b := by
  by_cases e : b = h.objs.size
  · rw [if_pos e, e]; exact Heap.get?_push_size _ hf
  · rw [if_neg e]; exact Heap.get?_push_ne _ _ _ e
theorem Rep.update {s₀ s : Shared} {sh : Sh} (R : Rep s₀ s sh) {a : Nat} {f : Obj → Obj} {o : Obj} (ho : sh.get a = some o) (hf : (f o).isFreed = false) :
    Rep s₀ { s with heap := s.heap.update a f } { sh with ov := put sh.ov a (f o) } := by
  have ho' : s.heap.get? a = some o := (R.get a).trans ho
  refine ⟨?_, fun b => ?_, R.toks, ?_, R.gens, R.drawn, R.os⟩
  · show (s.heap.update a f).objs.size = sh.n
    rw [← R.size]; obtain ⟨os, l⟩ := s.heap; simp [Heap.update]
  · show (s.heap.update a f).get? b = Sh.get _ b
    rw [get?_update ho' hf b]
    unfold Sh.get
    rw [look_put]
    by_cases e : b = a
    · rw [if_pos e, if_pos e]
    · rw [if_neg e, if_neg e]; exact R.get b
  · show (s.heap.update a f).life = _
    rw [← R.life]; obtain ⟨os, l⟩ := s.heap; simp [Heap.update]
theorem Rep.push {s₀ s : Shared} {sh : Sh} (R : Rep s₀ s sh) {o : Obj} (hf : o.isFreed = false) :
    Rep s₀ { s with heap := s.heap.push o } { sh with ov := (sh.n, o) :: sh.ov, n := sh.n + 1 } := by
  refine ⟨?_, fun b => ?_, R.toks, ?_, R.gens, R.drawn, R.os⟩
  · show (s.heap.push o).objs.size = sh.n + 1
    rw [← R.size]; exact Heap.size_push ..
  · show (s.heap.push o).get? b = Sh.get _ b
    rw [get?_push hf b, R.size]
    unfold Sh.get
    rw [look_cons]
    by_cases e : b = sh.n
    · rw [if_pos e, if_pos e]
    · rw [if_neg e, if_neg e]; exact R.get b
  · show (s.heap.push o).life = _
    rw [← R.life]; obtain ⟨os, l⟩ := s.heap; rfl
section
variable (prog : Program) (w : World) (calls : Ctx → Pos → Sh → Option (Result × Sh))
noncomputable def goT {α : Type} (Γ : Ctx) : Sem α → Pos → Sh → Option (Except Value α × Pos × Sh)
  | .pure a, p, s => some (.ok a, p, s)
  | .raise e, p, s => some (.error e, p, s)
  | .unsupported _, _, _ => none
  | .finish _, _, _ => none
  | .rule _ k, p, s => goT Γ (k ()) p s
  | .at p' k, _, s => goT Γ (k ()) p' s
  | .load a _ k, p, s => match s.get a with
    | some o => goT Γ (k o) p s
    | none => none
  | .update a _ f k, p, s => match s.get a with
    | some o => (match (f o).isFreed with
      | false => goT Γ (k ()) p { s with ov := put s.ov a (f o) }
      | true => none)
    | none => none
  | .alloc o k, p, s => match o.isFreed with
    | false => goT Γ (k s.n) p { s with ov := (s.n, o) :: s.ov, n := s.n + 1 }
    | true => none
  | .loadIfAlive a k, p, s => goT Γ (k (s.get a)) p s
  | .point _ k, p, s => goT Γ (k ()) p s
  | .register _ _, _, _ => none
  | .fresh k, p, s => goT Γ (k s.t) p { s with t := s.t + 1 }
  | .ask k, p, s => goT Γ (k ⟨prog, w.params⟩) p s
  | .choose _ _ _, _, _ => none
  | .os _ _ _, _, _ => none
  | .call c h _ _ k, p, s => match calls (Γ.enter c h p) p s with
    | some (r, s') => goT Γ (k r) p s'
    | none => none
  | .handled own k, p, s => goT Γ (k (if own then Γ.own else Γ.handled)) p s
  | .newGen _ _, _, _ => none
  | .genState _ _, _, _ => none
  | .resume _ _ _ _, _, _ => none
  | .yield _ _ _ _, _, _ => none
  | .stack k, p, s => goT Γ (k ((Γ.code, p) :: Γ.below)) p s
  | .fork _ _, _, _ => none
  | .thread k, p, s => goT Γ (k 0) p s
  | .await _ _ _ _ _, _, _ => none
end
noncomputable def goC (den : Code → Sem Fin) (prog : Program) (w : World) : Nat → Ctx → Pos → Sh → Option (Result × Sh)
  | 0, _, _, _ => none
  | n + 1, Γ, p, s => match goT prog w (goC den prog w n) Γ (den Γ.code) p s with
    | some (.ok (.done f), _, s') => some (.ok f, s')
    | some (.ok (.again c), p', s') => (match c.quiet with
      | true => goC den prog w n (Γ.goto c) p' s'
      | false => none)
    | some (.error e, _, s') => some (.error e, s')
    | none => none
section
variable {prog : Program} {w : World} {calls : Ctx → Pos → Sh → Option (Result × Sh)} {α : Type} {Γ : Ctx} {p : Pos} {s : Sh}
set_option smartUnfolding false in
theorem goT_load_ {a part} {k : Obj → Sem α} : goT prog w calls Γ (.load a part k) p s = match s.get a with | some o => goT prog w calls Γ (k o) p s | none => none := rfl
theorem goT_update_ {a part f} {k : Unit → Sem α} : goT prog w calls Γ (.update a part f k) p s = match s.get a with
    | some o => (match (f o).isFreed with | false => goT prog w calls Γ (k ()) p { s with ov := put s.ov a (f o) } | true => none)
    | none => none := rfl
theorem goT_alloc_ {o} {k : Addr → Sem α} : goT prog w calls Γ (.alloc o k) p s = match o.isFreed with | false => goT prog w calls Γ (k s.n) p { s with ov := (s.n, o) :: s.ov, n := s.n + 1 } | true => none := rfl
set_option smartUnfolding false in
theorem goT_call_ {c h g l} {k : Result → Sem α} : goT prog w calls Γ (.call c h g l k) p s = match calls (Γ.enter c h p) p s with | some (r, s') => goT prog w calls Γ (k r) p s' | none => none := rfl
theorem goC_succ {den : Code → Sem Fin} {n : Nat} : goC den prog w (n + 1) Γ p s = match goT prog w (goC den prog w n) Γ (den Γ.code) p s with
    | some (.ok (.done f), _, s') => some (.ok f, s')
    | some (.ok (.again c), p', s') => (match c.quiet with | true => goC den prog w n (Γ.goto c) p' s' | false => none)
    | some (.error e, _, s') => some (.error e, s')
    | none => none := rfl
end
noncomputable def CallsOk (M : Model) (s₀ : Shared) (calls : Ctx → Pos → Sh → Option (Result × Sh)) : Prop :=
  ∀ Γ p s sh r sh', Rep s₀ s sh → calls Γ p sh = some (r, sh') → ∃ s', Rep s₀ s' sh' ∧ wpCode M Γ (fun r' s'' => r' = r ∧ s'' = s') p s
noncomputable def Snd (M : Model) (s₀ : Shared) (calls : Ctx → Pos → Sh → Option (Result × Sh)) (Γ : Ctx) {α : Type} (t : Sem α) : Prop :=
    ∀ (p : Pos) (s : Shared) (sh : Sh) (x : Except Value α) (p' : Pos) (sh' : Sh), Rep s₀ s sh → goT M.prog M.w calls Γ t p sh = some (x, p', sh') →
      ∃ s', Rep s₀ s' sh' ∧ wp M Γ t (fun a p'' s'' => x = .ok a ∧ p'' = p' ∧ s'' = s') (fun e p'' s'' => x = .error e ∧ p'' = p' ∧ s'' = s') p s
theorem Snd.step {M : Model} {s₀ : Shared} {calls : Ctx → Pos → Sh → Option (Result × Sh)} {Γ : Ctx} {α : Type} {t u : Sem α} (h : Snd M s₀ calls Γ u) (g : ∀ p sh, goT M.prog M.w calls Γ t p sh = goT M.prog M.w calls Γ u p sh) (e : ∀ Q E p s, wp M Γ t Q E p s = wp M Γ u Q E p s) : Snd M s₀ calls Γ t :=
  fun p s sh x p' sh' R q => let ⟨s', R', H⟩ := h p s sh x p' sh' R ((g p sh).symm.trans q); ⟨s', R', Eq.mpr (e ..) H⟩
theorem goT_sound {M : Model} {s₀ : Shared} {calls : Ctx → Pos → Sh → Option (Result × Sh)} (hc : CallsOk M s₀ calls) {α : Type} (Γ : Ctx) (t : Sem α) : Snd M s₀ calls Γ t := by
  induction t with
  | pure a =>
    intro p s sh x p' sh' R h
    cases h
    exact ⟨s, R, rfl, rfl, rfl⟩
  | raise e =>
    intro p s sh x p' sh' R h
    cases h
    exact ⟨s, R, rfl, rfl, rfl⟩
  | unsupported | finish | register | choose | os | newGen | genState | resume | yield | fork | await => exact fun _ _ _ _ _ _ _ h => Mine.Dx.no_some h
  | rule _ k ih => exact (ih ()).step (fun _ _ => rfl) fun _ _ _ _ => Sem.wp_rule ..
  | point l k ih => exact (ih ()).step (fun _ _ => rfl) fun _ _ _ _ => Sem.wp_point ..
  | ask k ih => exact (ih _).step (fun _ _ => rfl) fun _ _ _ _ => Sem.wp_ask ..
  | handled own k ih => exact (ih _).step (fun _ _ => rfl) fun _ _ _ _ => Sem.wp_handled ..
  | stack k ih =>
    intro p s sh x p' sh' R h
    obtain ⟨s', R', H⟩ := ih _ p s sh x p' sh' R h
    exact ⟨s', R', Eq.mpr (Sem.wp_stack ..) H⟩
  | thread k ih => exact (ih _).step (fun _ _ => rfl) fun _ _ _ _ => Sem.wp_thread ..
  | «at» q k ih =>
    intro p s sh x p' sh' R h
    obtain ⟨s', R', H⟩ := ih () q s sh x p' sh' R h
    exact ⟨s', R', Eq.mpr (Sem.wp_at ..) H⟩
  | loadIfAlive a k ih =>
    intro p s sh x p' sh' R h
    obtain ⟨s', R', H⟩ := ih _ p s sh x p' sh' R h
    exact ⟨s', R', by rw [Sem.wp_loadIfAlive, R.get a]; exact H⟩
  | fresh k ih =>
    intro p s sh x p' sh' R h
    have R' : Rep s₀ { s with toks := s.toks + 1 } { sh with t := sh.t + 1 } := ⟨R.size, R.get, congrArg (· + 1) R.toks, R.life, R.gens, R.drawn, R.os⟩
    obtain ⟨s', R', H⟩ := ih s.toks p { s with toks := s.toks + 1 } { sh with t := sh.t + 1 } x p' sh' R' (by rw [R.toks]; exact h)
    exact ⟨s', R', Eq.mpr (Sem.wp_fresh ..) H⟩
  | load a part k ih =>
    intro p s sh x p' sh' R h
    rw [goT_load_] at h
    cases e : sh.get a with
    | none => rw [e] at h; cases h
    | some o =>
      rw [e] at h
      obtain ⟨s', R', H⟩ := ih o p s sh x p' sh' R h
      exact ⟨s', R', (Sem.wp_load ..).mpr ⟨o, (R.get a).trans e, H⟩⟩
  | update a part f k ih =>
    intro p s sh x p' sh' R h
    rw [goT_update_] at h
    cases e : sh.get a with
    | none => rw [e] at h; cases h
    | some o =>
      rw [e] at h
      cases ef : (f o).isFreed with
      | true => simp only [ef] at h; cases h
      | false =>
        simp only [ef] at h
        obtain ⟨s', R', H⟩ := ih () p _ _ x p' sh' (R.update e ef) h
        exact ⟨s', R', (Sem.wp_update ..).mpr ⟨by rw [R.get a, e]; rfl, H⟩⟩
  | alloc o k ih =>
    intro p s sh x p' sh' R h
    rw [goT_alloc_] at h
    cases ef : o.isFreed with
    | true => rw [ef] at h; cases h
    | false =>
      rw [ef] at h
      obtain ⟨s', R', H⟩ := ih _ p _ _ x p' sh' (R.push ef) h
      exact ⟨s', R', by rw [Sem.wp_alloc, R.size]; exact H⟩
  | call c hd g l k ih =>
    intro p s sh x p' sh' R h
    rw [goT_call_] at h
    cases e : calls (Γ.enter c hd p) p sh with
    | none => rw [e] at h; cases h
    | some rs =>
      obtain ⟨r, sh₁⟩ := rs
      rw [e] at h
      obtain ⟨s₁, R₁, C⟩ := hc _ _ _ _ _ _ R e
      obtain ⟨s', R', H⟩ := ih r p s₁ sh₁ x p' sh' R₁ h
      refine ⟨s', R', ?_⟩
      rw [Sem.wp_call]
      exact wpCode_mono (fun r' s'' q => by obtain ⟨rfl, rfl⟩ := q; exact H) C
theorem goC_sound {prog : Program} {w : World} {den : Code → Sem Fin} {s₀ : Shared} : ∀ n, CallsOk ⟨den, prog, w⟩ s₀ (goC den prog w n)
  | 0 => fun _ _ _ _ _ _ _ h => by cases h
  | n + 1 => fun Γ p s sh r sh' R h => by
    rw [goC_succ] at h
    cases e : goT prog w (goC den prog w n) Γ (den Γ.code) p sh with
    | none => rw [e] at h; cases h
    | some y =>
      obtain ⟨x, p₁, sh₁⟩ := y
      obtain ⟨s₁, R₁, H⟩ := goT_sound (M := ⟨den, prog, w⟩) (goC_sound n) Γ (den Γ.code) p s sh x p₁ sh₁ R e
      rw [e] at h
      cases x with
      | error ev =>
        simp only [Option.some.injEq, Prod.mk.injEq] at h
        obtain ⟨rfl, rfl⟩ := h
        refine ⟨s₁, R₁, (wpCode_iff_wp ..).mpr (Sem.wp_mono _ Γ _ (fun a p' s' q => ?_) (fun e' p' s' q => ?_) p s H)⟩
        · cases q.1
        · obtain ⟨q1, _, q3⟩ := q
          cases q1
          exact ⟨rfl, q3⟩
      | ok fin =>
        cases fin with
        | done f =>
          simp only [Option.some.injEq, Prod.mk.injEq] at h
          obtain ⟨rfl, rfl⟩ := h
          refine ⟨s₁, R₁, (wpCode_iff_wp ..).mpr (Sem.wp_mono _ Γ _ (fun a p' s' q => ?_) (fun e' p' s' q => ?_) p s H)⟩
          · obtain ⟨q1, _, q3⟩ := q
            cases q1
            exact ⟨rfl, q3⟩
          · cases q.1
        | again c =>
          dsimp only at h
          cases hq : c.quiet with
          | false => rw [hq] at h; cases h
          | true =>
            rw [hq] at h
            obtain ⟨s', R', C⟩ := goC_sound n (Γ.goto c) p₁ s₁ sh₁ r sh' R₁ h
            refine ⟨s', R', (wpCode_iff_wp ..).mpr (Sem.wp_mono _ Γ _ (fun a p' s' q => ?_) (fun e' p' s' q => ?_) p s H)⟩
            · obtain ⟨q1, q2, q3⟩ := q
              cases q1
              subst q2 q3
              exact ⟨hq, C⟩
            · cases q.1
end Mine.Go
end
section
open PySem PySem.W PyProof.Rows
namespace Mine.Go
open Sem (wp)
structure Stop (α : Type) where
  c : Code
  hd : Option Value
  p : Pos
  sh : Sh
  k : Result → Sem α
section
variable (prog : Program) (w : World) (stop : Code → Bool) (calls : Ctx → Pos → Sh → Option (Result × Sh))
noncomputable def untilT {α : Type} (Γ : Ctx) : Sem α → Pos → Sh → Option (Stop α)
  | .pure _, _, _ => none
  | .raise _, _, _ => none
  | .unsupported _, _, _ => none
  | .finish _, _, _ => none
  | .rule _ k, p, s => untilT Γ (k ()) p s
  | .at p' k, _, s => untilT Γ (k ()) p' s
  | .load a _ k, p, s => match s.get a with
    | some o => untilT Γ (k o) p s
    | none => none
  | .update a _ f k, p, s => match s.get a with
    | some o => (match (f o).isFreed with
      | false => untilT Γ (k ()) p { s with ov := put s.ov a (f o) }
      | true => none)
    | none => none
  | .alloc o k, p, s => match o.isFreed with
    | false => untilT Γ (k s.n) p { s with ov := (s.n, o) :: s.ov, n := s.n + 1 }
    | true => none
  | .loadIfAlive a k, p, s => untilT Γ (k (s.get a)) p s
  | .point _ k, p, s => untilT Γ (k ()) p s
  | .register _ _, _, _ => none
  | .fresh k, p, s => untilT Γ (k s.t) p { s with t := s.t + 1 }
  | .ask k, p, s => untilT Γ (k ⟨prog, w.params⟩) p s
  | .choose _ _ _, _, _ => none
  | .os _ _ _, _, _ => none
  | .call c h _ _ k, p, s => match stop c with
    | true => some ⟨c, h, p, s, k⟩
    | false => match calls (Γ.enter c h p) p s with
      | some (r, s') => untilT Γ (k r) p s'
      | none => none
  | .handled own k, p, s => untilT Γ (k (if own then Γ.own else Γ.handled)) p s
  | .newGen _ _, _, _ => none
  | .genState _ _, _, _ => none
  | .resume _ _ _ _, _, _ => none
  | .yield _ _ _ _, _, _ => none
  | .stack k, p, s => untilT Γ (k ((Γ.code, p) :: Γ.below)) p s
  | .fork _ _, _, _ => none
  | .thread k, p, s => untilT Γ (k 0) p s
  | .await _ _ _ _ _, _, _ => none
end
section
variable {prog : Program} {w : World} {stop : Code → Bool} {calls : Ctx → Pos → Sh → Option (Result × Sh)} {α : Type} {Γ : Ctx} {p : Pos} {s : Sh}
set_option smartUnfolding false in
theorem untilT_load_ {a part} {k : Obj → Sem α} : untilT prog w stop calls Γ (.load a part k) p s = match s.get a with | some o => untilT prog w stop calls Γ (k o) p s | none => none := rfl
theorem untilT_update_ {a part f} {k : Unit → Sem α} : untilT prog w stop calls Γ (.update a part f k) p s = match s.get a with
    | some o => (match (f o).isFreed with | false => untilT prog w stop calls Γ (k ()) p { s with ov := put s.ov a (f o) } | true => none)
    | none => none := rfl
theorem untilT_alloc_ {o} {k : Addr → Sem α} : untilT prog w stop calls Γ (.alloc o k) p s = match o.isFreed with | false => untilT prog w stop calls Γ (k s.n) p { s with ov := (s.n, o) :: s.ov, n := s.n + 1 } | true => none := rfl
set_option smartUnfolding false in
theorem untilT_call_ {c h g l} {k : Result → Sem α} : untilT prog w stop calls Γ (.call c h g l k) p s = match stop c with
    | true => some ⟨c, h, p, s, k⟩
    | false => match calls (Γ.enter c h p) p s with | some (r, s') => untilT prog w stop calls Γ (k r) p s' | none => none := rfl
end
noncomputable def Unt (M : Model) (s₀ : Shared) (stop : Code → Bool) (calls : Ctx → Pos → Sh → Option (Result × Sh)) {α : Type} (Γ : Ctx) (Q : α → Pos → Shared → Prop) (E : Value → Pos → Shared → Prop) (t : Sem α) : Prop :=
    ∀ (p : Pos) (s : Shared) (sh : Sh) (y : Stop α), Rep s₀ s sh → untilT M.prog M.w stop calls Γ t p sh = some y →
      (∀ s', Rep s₀ s' y.sh → wpCode M (Γ.enter y.c y.hd y.p) (fun r s'' => wp M Γ (y.k r) Q E y.p s'') y.p s') → wp M Γ t Q E p s
theorem Unt.step {M : Model} {s₀ : Shared} {stop : Code → Bool} {calls : Ctx → Pos → Sh → Option (Result × Sh)} {α : Type} {Γ : Ctx} {Q : α → Pos → Shared → Prop} {E : Value → Pos → Shared → Prop} {t u : Sem α} (h : Unt M s₀ stop calls Γ Q E u) (g : ∀ p sh, untilT M.prog M.w stop calls Γ t p sh = untilT M.prog M.w stop calls Γ u p sh) (e : ∀ p s, wp M Γ t Q E p s = wp M Γ u Q E p s) : Unt M s₀ stop calls Γ Q E t :=
  fun p s sh y R q H => Eq.mpr (e p s) (h p s sh y R ((g p sh).symm.trans q) H)
theorem untilT_sound {M : Model} {s₀ : Shared} {stop : Code → Bool} {calls : Ctx → Pos → Sh → Option (Result × Sh)} (hc : CallsOk M s₀ calls) {α : Type} (Γ : Ctx) (Q : α → Pos → Shared → Prop) (E : Value → Pos → Shared → Prop) (t : Sem α) : Unt M s₀ stop calls Γ Q E t := by
  induction t with
  | pure | raise | unsupported | finish | register | choose | os | newGen | genState | resume | yield | fork | await => exact fun _ _ _ _ _ h => Mine.Dx.no_some h
  | rule _ k ih => exact (ih ()).step (fun _ _ => rfl) fun _ _ => Sem.wp_rule ..
  | «at» q k ih => exact fun p s sh y R h H => Eq.mpr (Sem.wp_at ..) (ih () q s sh y R h H)
  | point l k ih => exact (ih ()).step (fun _ _ => rfl) fun _ _ => Sem.wp_point ..
  | loadIfAlive a k ih => intro p s sh y R h H; rw [Sem.wp_loadIfAlive, R.get a]; exact ih _ p s sh y R h H
  | ask k ih => exact (ih _).step (fun _ _ => rfl) fun _ _ => Sem.wp_ask ..
  | handled own k ih => exact (ih _).step (fun _ _ => rfl) fun _ _ => Sem.wp_handled ..
  | stack k ih => exact fun p s sh y R h H => Eq.mpr (Sem.wp_stack ..) (ih _ p s sh y R h H)
  | thread k ih => exact (ih _).step (fun _ _ => rfl) fun _ _ => Sem.wp_thread ..
  | fresh k ih =>
    intro p s sh y R h H
    have R' : Rep s₀ { s with toks := s.toks + 1 } { sh with t := sh.t + 1 } := ⟨R.size, R.get, congrArg (· + 1) R.toks, R.life, R.gens, R.drawn, R.os⟩
    exact Eq.mpr (Sem.wp_fresh ..) (ih s.toks p { s with toks := s.toks + 1 } { sh with t := sh.t + 1 } y R' (by rw [R.toks]; exact h) H)
  | load a part k ih =>
    intro p s sh y R h H
    rw [untilT_load_] at h
    cases e : sh.get a with
    | none => rw [e] at h; cases h
    | some o =>
      rw [e] at h
      exact (Sem.wp_load ..).mpr ⟨o, (R.get a).trans e, ih o p s sh y R h H⟩
  | update a part f k ih =>
    intro p s sh y R h H
    rw [untilT_update_] at h
    cases e : sh.get a with
    | none => rw [e] at h; cases h
    | some o =>
      rw [e] at h
      cases ef : (f o).isFreed with
      | true => simp only [ef] at h; cases h
      | false =>
        simp only [ef] at h
        exact (Sem.wp_update ..).mpr ⟨by rw [R.get a, e]; rfl, ih () p _ _ y (R.update e ef) h H⟩
  | alloc o k ih =>
    intro p s sh y R h H
    rw [untilT_alloc_] at h
    cases ef : o.isFreed with
    | true => rw [ef] at h; cases h
    | false =>
      rw [ef] at h
      rw [Sem.wp_alloc, R.size]
      exact ih _ p _ _ y (R.push ef) h H
  | call c hd g l k ih =>
    intro p s sh y R h H
    rw [untilT_call_] at h
    cases es : stop c with
    | true =>
      rw [es] at h
      cases h
      rw [Sem.wp_call]
      exact H s R
    | false =>
      rw [es] at h
      cases e : calls (Γ.enter c hd p) p sh with
      | none => rw [e] at h; cases h
      | some rs =>
        obtain ⟨r, sh₁⟩ := rs
        rw [e] at h
        obtain ⟨s₁, R₁, C⟩ := hc _ _ _ _ _ _ R e
        rw [Sem.wp_call]
        exact wpCode_mono (fun r' s'' q => by obtain ⟨rfl, rfl⟩ := q; exact ih _ p _ _ y R₁ h H) C
end Mine.Go
end
section
open PySem PySem.W PyProof.Rows
namespace Mine.Go
section
variable {prog : Program} {w : World} {calls : Ctx → Pos → Sh → Option (Result × Sh)} {Γ : Ctx} {α β : Type}
noncomputable def thenT (calls : Ctx → Pos → Sh → Option (Result × Sh)) (prog : Program) (w : World) (Γ : Ctx) (f : α → Sem β) : Option (Except Value α × Pos × Sh) → Option (Except Value β × Pos × Sh)
  | some (.ok a, p, s) => goT prog w calls Γ (f a) p s
  | some (.error e, p, s) => some (.error e, p, s)
  | none => none
theorem goT_bind (m : Sem α) (f : α → Sem β) : ∀ p s, goT prog w calls Γ (m.bind f) p s = thenT calls prog w Γ f (goT prog w calls Γ m p s) := by
  induction m with
  | pure a => intro p s; rfl
  | raise e => intro p s; rfl
  | unsupported | finish | register | choose | os | newGen | genState | resume | yield | fork | await => intro p s; rfl
  | rule _ k ih => intro p s; exact ih () p s
  | «at» q k ih => intro p s; exact ih () q s
  | point l k ih => intro p s; exact ih () p s
  | loadIfAlive a k ih => intro p s; exact ih _ p s
  | ask k ih => intro p s; exact ih _ p s
  | handled own k ih => intro p s; exact ih _ p s
  | stack k ih => intro p s; exact ih _ p s
  | thread k ih => intro p s; exact ih _ p s
  | fresh k ih => intro p s; exact ih _ p _
  | load a part k ih =>
    intro p s
    simp only [Sem.bind, goT_load_]
    cases s.get a with
    | none => rfl
    | some o => exact ih o p s
  | update a part g k ih =>
    intro p s
    simp only [Sem.bind, goT_update_]
    cases s.get a with
    | none => rfl
    | some o =>
      dsimp only
      cases (g o).isFreed with
      | true => rfl
      | false => exact ih () p _
  | alloc o k ih =>
    intro p s
    simp only [Sem.bind, goT_alloc_]
    cases o.isFreed with
    | true => rfl
    | false => exact ih _ p _
  | call c hd g l k ih =>
    intro p s
    simp only [Sem.bind, goT_call_]
    cases calls (Γ.enter c hd p) p s with
    | none => rfl
    | some rs => exact ih _ p _
theorem goT_bind' (m : Sem α) (f : α → Sem β) (p : Pos) (s : Sh) : goT prog w calls Γ (m >>= f) p s = thenT calls prog w Γ f (goT prog w calls Γ m p s) := goT_bind m f p s
theorem goT_seq {m : Sem α} {f : α → Sem β} {p q : Pos} {s s1 : Sh} {a : α} (h : goT prog w calls Γ m p s = some (.ok a, q, s1)) : goT prog w calls Γ (m >>= f) p s = goT prog w calls Γ (f a) q s1 := by rw [goT_bind', h]; rfl
end
end Mine.Go
end
section
open PySem PySem.W PyProof.Rows
namespace Mine.Go
section
variable {prog : Program} {w : World} {calls : Ctx → Pos → Sh → Option (Result × Sh)} {Γ : Ctx} {α β : Type}
theorem goT_keep (vs : List Value) (m : Sem α) : ∀ p s, goT prog w calls Γ (m.keep vs) p s = goT prog w calls Γ m p s := by
  induction m with
  | pure a => intro p s; rfl
  | raise e => intro p s; rfl
  | unsupported | finish | register | choose | os | newGen | genState | resume | yield | fork | await => intro p s; rfl
  | rule _ k ih => intro p s; exact ih () p s
  | «at» q k ih => intro p s; exact ih () q s
  | point l k ih => intro p s; exact ih () p s
  | loadIfAlive a k ih => intro p s; exact ih _ p s
  | ask k ih => intro p s; exact ih _ p s
  | handled own k ih => intro p s; exact ih _ p s
  | stack k ih => intro p s; exact ih _ p s
  | thread k ih => intro p s; exact ih _ p s
  | fresh k ih => intro p s; exact ih _ p _
  | load a part k ih =>
    intro p s
    simp only [Sem.keep, goT_load_]
    cases s.get a with
    | none => rfl
    | some o => exact ih o p s
  | update a part g k ih =>
    intro p s
    simp only [Sem.keep, goT_update_]
    cases s.get a with
    | none => rfl
    | some o =>
      dsimp only
      cases (g o).isFreed with
      | true => rfl
      | false => exact ih () p _
  | alloc o k ih =>
    intro p s
    simp only [Sem.keep, goT_alloc_]
    cases o.isFreed with
    | true => rfl
    | false => exact ih _ p _
  | call c hd g l k ih =>
    intro p s
    simp only [Sem.keep, goT_call_]
    cases calls (Γ.enter c hd p) p s with
    | none => rfl
    | some rs => exact ih _ p _
theorem goT_holding (vs : List Value) (m : Sem α) (p : Pos) (s : Sh) : goT prog w calls Γ (holding vs m) p s = goT prog w calls Γ m p s := by
  unfold holding
  split
  · rfl
  · exact goT_keep _ _ _ _
theorem goT_pure (a : α) (p : Pos) (s : Sh) : goT prog w calls Γ (pure a) p s = some (.ok a, p, s) := rfl
theorem goT_standAt (q p : Pos) (s : Sh) : goT prog w calls Γ (standAt q) p s = some (.ok (), q, s) := rfl
theorem goT_point (p : Pos) (s : Sh) : goT prog w calls Γ point p s = some (.ok (), p, s) := rfl
theorem goT_mkText (x : Str) (p : Pos) (s : Sh) : goT prog w calls Γ (mkText x) p s = some (.ok (.str x s.t), p, { s with t := s.t + 1 }) := rfl
theorem goT_fresh (p : Pos) (s : Sh) : goT prog w calls Γ fresh p s = some (.ok s.t, p, { s with t := s.t + 1 }) := rfl
theorem goT_alloc {o : Obj} (h : o.isFreed = false) (p : Pos) (s : Sh) : goT prog w calls Γ (alloc o) p s = some (.ok s.n, p, { s with ov := (s.n, o) :: s.ov, n := s.n + 1 }) := by
  show goT prog w calls Γ (.alloc o .pure) p s = _
  rw [goT_alloc_, h]; rfl
theorem goT_load {a : Nat} {o : Obj} {s : Sh} (h : s.get a = some o) (p : Pos) : goT prog w calls Γ (load a) p s = some (.ok o, p, s) := by
  show goT prog w calls Γ (.load a none .pure) p s = _
  rw [goT_load_, h]; rfl
theorem goT_loadPart {a : Nat} {o : Obj} {s : Sh} {part : Option Value} (h : s.get a = some o) (p : Pos) : goT prog w calls Γ (loadPart a part) p s = some (.ok o, p, s) := by
  show goT prog w calls Γ (.load a part .pure) p s = _
  rw [goT_load_, h]; rfl
theorem goT_update {a : Nat} {o : Obj} {s : Sh} {f : Obj → Obj} (h : s.get a = some o) (hf : (f o).isFreed = false) (p : Pos) : goT prog w calls Γ (update a f) p s = some (.ok (), p, { s with ov := put s.ov a (f o) }) := by
  show goT prog w calls Γ (.update a none f .pure) p s = _
  rw [goT_update_, h]; dsimp only; rw [hf]; rfl
theorem goT_updatePart {a : Nat} {o : Obj} {s : Sh} {f : Obj → Obj} {part : Option Value} (h : s.get a = some o) (hf : (f o).isFreed = false) (p : Pos) : goT prog w calls Γ (updatePart a part f) p s = some (.ok (), p, { s with ov := put s.ov a (f o) }) := by
  show goT prog w calls Γ (.update a part f .pure) p s = _
  rw [goT_update_, h]; dsimp only; rw [hf]; rfl
noncomputable def texts : List Str → Nat → List Value
  | [], _ => []
  | x :: l, t => .str x t :: texts l (t + 1)
theorem goT_mapM (l : List Str) : ∀ (p : Pos) (s : Sh), goT prog w calls Γ (l.mapM mkText) p s = some (.ok (texts l s.t), p, { s with t := s.t + l.length }) := by
  induction l with
  | nil => intro p s; rfl
  | cons x l ih =>
    intro p s
    rw [List.mapM_cons, goT_bind', goT_mkText]
    simp only [thenT]
    rw [goT_bind', ih]
    simp only [thenT, goT_pure, texts, List.length_cons]
    rw [Nat.add_assoc, Nat.add_comm 1]
theorem goT_newTextTuple (vs : List Value) (p : Pos) (s : Sh) : goT prog w calls Γ (newTextTuple vs) p s = some (.ok (.ref s.n), p, { s with ov := (s.n, { cls := .type "tuple", data := .seq vs.toArray }) :: s.ov, n := s.n + 1 }) := rfl
theorem goT_newFields (ty : String) (vs : List Value) (h : vs.length ≤ sizeLine + 2) (p : Pos) (s : Sh) : goT prog w calls Γ (newFields ty vs) p s = some (.ok (.ref s.n), p, { s with ov := (s.n, { cls := .type ty, data := .fields vs.toArray }) :: s.ov, n := s.n + 1 }) := by
  unfold newFields newObj
  simp only [List.size_toArray]
  rw [if_neg (Nat.not_lt.mpr h)]
  rfl
theorem goT_newFunc (fd : FuncData) (p : Pos) (s : Sh) : goT prog w calls Γ (newObj (.type "function") (.func fd)) p s = some (.ok (.ref s.n), p, { s with ov := (s.n, { cls := .type "function", data := .func fd }) :: s.ov, n := s.n + 1 }) := rfl
theorem goT_nsGet {a : Nat} {x : Str} {o : Obj} {s : Sh} {r : Option Value} (h : s.get a = some o) (hr : lookIn x o = some r) (p : Pos) : goT prog w calls Γ (nsGet a x) p s = some (.ok r, p, s) := by
  unfold nsGet
  rw [goT_bind', goT_loadPart h]
  simp only [thenT]
  rw [nsLook_of hr]; rfl
noncomputable def hs (w : World) (x : Str) : Int := if x.cps.isEmpty then 0 else reduceHash (w.params.strHash x.cps)
theorem goT_strHash (x : Str) (p : Pos) (s : Sh) : goT prog w calls Γ (strHash x) p s = some (.ok (hs w x), p, s) := by
  unfold strHash hs
  split <;> rfl
theorem goT_nsSet {a : Nat} {x : Str} {v : Value} {es : List DictEntry} {k : Nat} {s : Sh} (h : s.get a = some (dictOf es k)) (hn : es.any (·.refKey) = false) (p : Pos) :
    goT prog w calls Γ (nsSet a x v) p s = some (.ok (), p, { s with ov := put s.ov a (dictOf (putL x (hs w x) (.str x s.t) v es) (putN x es k)), t := s.t + 1 }) := by
  unfold nsSet
  rw [goT_bind', goT_strHash]
  simp only [thenT]
  rw [goT_bind', goT_mkText]
  simp only [thenT]
  rw [goT_bind', goT_loadPart (s := { s with t := s.t + 1 }) h]
  simp only [thenT]
  rw [aRefKeyMayBeTheName_at]
  have e : (List.toArray es).any (·.refKey) = false := by rw [← Array.any_toList]; exact hn
  rw [e, Bool.and_false]
  simp only [Bool.false_eq_true, if_false]
  show goT prog w calls Γ (updatePart a _ _) p { s with t := s.t + 1 } = _
  rw [goT_updatePart (s := { s with t := s.t + 1 }) h (by rw [putName_dict]; rfl)]
  rw [putName_dict]
end
end Mine.Go
end
section
open PySem PySem.W PyProof.Rows
namespace Mine.Go
theorem get_push (s : Sh) (o : Obj) (t a : Nat) : Sh.get { s with ov := (s.n, o) :: s.ov, n := s.n + 1, t := t } a = if a = s.n then some o else s.get a := by
  unfold Sh.get
  rw [look_cons]
  by_cases e : a = s.n
  · rw [if_pos e, if_pos e]
  · rw [if_neg e, if_neg e]
theorem get_put (s : Sh) (o : Obj) (t b a : Nat) : Sh.get { s with ov := put s.ov b o, t := t } a = if a = b then some o else s.get a := by
  unfold Sh.get
  rw [look_put]
  by_cases e : a = b
  · rw [if_pos e, if_pos e]
  · rw [if_neg e, if_neg e]
theorem look_app {l r : List (Nat × Obj)} {n a : Nat} (h : ∀ x ∈ l, n ≤ x.1) (ha : a < n) : look (l ++ r) a = look r a := by
  induction l with
  | nil => rfl
  | cons x l ih =>
    obtain ⟨b, o⟩ := x
    have hb : n ≤ b := h _ (.head _)
    rw [List.cons_append, look_cons, if_neg (by lia)]
    exact ih fun y hy => h y (.tail _ hy)
theorem get_app {s : Sh} {l : List (Nat × Obj)} {a n t : Nat} (h : ∀ x ∈ l, s.n ≤ x.1) (ha : a < s.n) : Sh.get ⟨s.g, l ++ s.ov, n, t⟩ a = s.get a := by
  unfold Sh.get
  rw [look_app h ha]
noncomputable def noScope : Scope := { kind := .module, names := [], isGenerator := false, isCoroutine := false, more := [] }
end Mine.Go
end
section
open PySem PySem.W PyProof.Rows
namespace Mine.Go
theorem forIn_yields {α β : Type} (l : List α) (f : α → β → Sem (ForInStep β)) (h : ∀ x ∈ l, ∀ r, f x r = pure (.yield r)) (b : β) : forIn (m := Sem) l b f = pure b := by
  induction l with
  | nil => rfl
  | cons x l ih =>
    rw [List.forIn_cons, h x (.head _) b]
    exact ih fun y hy => h y (.tail _ hy)
theorem closure_nil {sc : Scope} {env : Env} (h : sc.names.all (fun x => x.2 != .free) = true) : closureFor sc env = pure [] := by
  unfold closureFor
  dsimp only
  rw [forIn_yields]
  · rfl
  · intro x hx r
    have := List.all_eq_true.mp h x hx
    simp only [bne_iff_ne, ne_eq] at this
    simp only [beq_iff_eq, this, if_false]
theorem ann_nil {env : Env} : ∀ {as : List Arg}, as.all (·.annotation.isNone) = true → annotationsOf as env = []
  | [], _ => rfl
  | ⟨n, a, q⟩ :: r, h => by
    simp only [List.all_cons, Bool.and_eq_true, Option.isNone_iff_eq_none] at h
    obtain ⟨h1, h2⟩ := h
    subst h1
    exact (arm_annotationsOf_cons_2 n q r env).trans (ann_nil h2)
theorem exec_def {name bind : Str} {as : List Arg} {body : List Stmt} {scope : Scope} {pos : Pos} {env : Env} (ha : as.all (·.annotation.isNone) = true) :
    exec (.FunctionDef name ⟨[], as, none, [], [], none, []⟩ body [] none [] scope none bind pos) env = (do
      standAt pos
      let f ← makeFunction name (qualnameIn env name bind) ⟨[], as, none, [], [], none, []⟩ (.stmts body) scope env [] [] [] pos pos.line
      standAt pos
      bindName env bind f
      pure .next) := by
  rw [arm_exec_FunctionDef]
  unfold defStmt
  have e : annotationsOf (as ++ [] ++ Option.toList none ++ [] ++ Option.toList none) env = [] := by simpa using ann_nil ha
  simp only [e]
  rfl
end Mine.Go
end
section
open PySem PySem.W PyProof.Rows
namespace Mine.Go
noncomputable def locs (as : Arguments) (sc : Scope) (b : List Stmt) : List Str × List Str := (localNames as sc (.stmts b)).getD ([], [])
noncomputable def tupO (vs : List Value) : Obj := { cls := .type "tuple", data := .seq vs.toArray }
noncomputable def recO (vs : List Value) : Obj := { cls := .none, data := .fields vs.toArray }
noncomputable def tmplO (name q : Str) (as : Arguments) (sc : Scope) (b : List Stmt) : Obj :=
  { cls := .none, data := .func { name := name, qualname := q, params := as, body := .stmts b, scope := sc, globals := builtinsNs, closure := [], defaults := .none, kwdefaults := .none } }
noncomputable def codeO (n t : Nat) (file name q : Str) (line argc flags : Nat) (fn : Bool) (txt : Nat) (l : List Str × List Str) : Obj :=
  let e := t + 3 + l.1.length + l.2.length
  { cls := .type "code", data := .fields [.str name t, .str q (t + 1), .str file (t + 2), rawInt line, rawInt argc, rawInt 0, rawInt 0, rawInt flags, .ref n, .bool fn, rawInt txt, .ref (n + 1), .none,
    .ref (n + 2), .ref (n + 3), .ref (n + 4), rawInt e, rawInt line, .str file (e + 1)].toArray }
section
variable {prog : Program} {w : World} {calls : Ctx → Pos → Sh → Option (Result × Sh)} {Γ : Ctx}
theorem goT_newCode (c : CodeContext) (name q : Str) (line argc flags : Nat) (l : List Str × List Str) (as : Arguments) (sc : Scope) (b : List Stmt) (p : Pos) (s : Sh) :
    goT prog w calls Γ (newCode c name q line argc 0 0 flags [] true none (some l) (some { name := name, qualname := q, params := as, body := .stmts b, scope := sc, globals := builtinsNs, closure := [], defaults := .none, kwdefaults := .none })) p s =
    some (.ok (.ref (s.n + 5)), p, { s with
      ov := (s.n + 5, codeO s.n s.t c.file name q line argc flags true c.text l) :: (s.n + 4, tmplO name q as sc b) :: (s.n + 3, tupO (texts l.2 (s.t + 3 + l.1.length))) :: (s.n + 2, tupO (texts l.1 (s.t + 3))) :: (s.n + 1, recO []) :: (s.n, tupO []) :: s.ov,
      n := s.n + 6, t := s.t + 5 + l.1.length + l.2.length }) := by
  unfold newCode
  rw [goT_seq (goT_mkText ..)]
  rw [goT_seq (goT_mkText ..)]
  rw [goT_seq (goT_mkText ..)]
  rw [goT_seq (goT_mapM ..)]
  rw [goT_seq (goT_newTextTuple ..)]
  rw [goT_seq (goT_alloc rfl ..)]
  rw [goT_seq (goT_mapM ..)]
  rw [goT_seq (goT_newTextTuple ..)]
  rw [goT_seq (goT_mapM ..)]
  rw [goT_seq (goT_newTextTuple ..)]
  rw [goT_seq (goT_alloc rfl ..)]
  rw [goT_seq (goT_pure ..)]
  rw [goT_seq (goT_fresh ..)]
  rw [goT_seq (goT_mkText ..)]
  rw [goT_newFields _ _ (by show 19 ≤ _; decide)]
  simp only [texts, List.length_nil, Nat.add_zero, Nat.add_assoc, codeO, tmplO, tupO, recO]
  congr 3
  congr 1
  lia
end
end Mine.Go
end
section
open PySem PySem.W PyProof.Rows
namespace Mine.Go
noncomputable def tabOf : List (Nat × Nat × Value) → List Value
  | [] => []
  | (a, b, c) :: r => rawInt a :: rawInt b :: c :: tabOf r
theorem tabOf_app (l : List (Nat × Nat × Value)) (a b : Nat) (c : Value) : tabOf l ++ [rawInt a, rawInt b, c] = tabOf (l ++ [(a, b, c)]) := by
  induction l with
  | nil => rfl
  | cons x l ih => obtain ⟨a', b', c'⟩ := x; simp only [tabOf, List.cons_append, ih]
theorem codeAmong_none {pos : Pos} : ∀ (l : List (Nat × Nat × Value)), (∀ x ∈ l, x.1 ≠ pos.line) → codeAmong pos (tabOf l) = none
  | [], _ => rfl
  | (a, b, c) :: r, h => by
    have h1 : ((a : Int) == (pos.line : Int)) = false := by
      have := h _ (.head _)
      simp only [beq_eq_false_iff_ne]
      lia
    simp only [tabOf, rawInt, codeAmong, h1, Bool.false_and, Bool.false_eq_true, if_false]
    exact codeAmong_none r fun x hx => h x (.tail _ hx)
theorem codeAmong_last {pos : Pos} {v : Value} : ∀ (l : List (Nat × Nat × Value)), (∀ x ∈ l, x.1 ≠ pos.line) → codeAmong pos (tabOf (l ++ [(pos.line, pos.col, v)])) = some v
  | [], _ => by simp [tabOf, rawInt, codeAmong]
  | (a, b, c) :: r, h => by
    have h1 : ((a : Int) == (pos.line : Int)) = false := by
      have := h _ (.head _)
      simp only [beq_eq_false_iff_ne]
      lia
    simp only [List.cons_append, tabOf, rawInt, codeAmong, h1, Bool.false_and, Bool.false_eq_true, if_false]
    exact codeAmong_last r fun x hx => h x (.tail _ hx)
section
variable {prog : Program} {w : World} {calls : Ctx → Pos → Sh → Option (Result × Sh)} {Γ : Ctx}
theorem goT_fieldsOf {a : Nat} {c : Value} {d : Option Addr} {vs : Array Value} {sl : Array (Option Value)} {s : Sh} (h : s.get a = some ⟨c, d, .fields vs, sl⟩) (p : Pos) : goT prog w calls Γ (fieldsOf (.ref a)) p s = some (.ok vs, p, s) := by
  unfold fieldsOf
  dsimp only
  rw [goT_bind', goT_load h]
  rfl
theorem goT_updFields {a : Nat} {vs : List Value} {f : Array Value → Array Value} {s : Sh} (h : s.get a = some (recO vs)) (p : Pos) : goT prog w calls Γ (updateFieldsOfTheText a f) p s = some (.ok (), p, { s with ov := put s.ov a { cls := .none, data := .fields (f vs.toArray) } }) := by
  unfold updateFieldsOfTheText
  rw [goT_bind', goT_load h]
  show goT prog w calls Γ (update a (Obj.mapFields f)) p s = _
  rw [goT_update h rfl]
  rfl
structure CodeRecd (cv : Array Value) (T : Nat) (file : Str) (fT : Nat) (fn : Bool) (txt : Nat) : Prop where
  places : cv.getD 11 .none = .ref T
  file : cv.getD 18 .none = .str file fT
  flags : cv.getD 7 .none = .int 0 0
  infn : cv.getD 9 .none = .bool fn
  text : cv.getD 10 .none = .int (txt : Int) 0
theorem goT_codeAt {env : Env} {pos : Pos} {make : CodeContext → Sem Value} {c T txt fT : Nat} {file : Str} {cv : Array Value} {tl : List (Nat × Nat × Value)} {s s' : Sh} {v : Value} {p : Pos}
    (hc : env.code = .ref c) (hk : (env.scope.kind == .function) = false) (h1 : s.get c = some { cls := .type "code", data := .fields cv }) (R : CodeRecd cv T file fT false txt) (h2 : s.get T = some (recO (tabOf tl))) (hp : ∀ x ∈ tl, x.1 ≠ pos.line)
    (hm : goT prog w calls Γ (make { file := file, future := 0, inFunction := false, text := txt }) p s = some (.ok v, p, s')) (h3 : s'.get T = some (recO (tabOf tl))) :
    goT prog w calls Γ (codeAt env pos make) p s = some (.ok v, p, { s' with ov := put s'.ov T (recO (tabOf (tl ++ [(pos.line, pos.col, v)]))) }) := by
  unfold codeAt
  rw [hc]
  rw [if_neg (by simp)]
  rw [goT_seq (goT_fieldsOf h1 ..)]
  rw [R.places]
  dsimp only
  rw [goT_seq (goT_fieldsOf h2 ..)]
  rw [codeAmong_none tl hp]
  dsimp only
  rw [R.file, R.flags, R.infn, R.text]
  dsimp only
  rw [goT_bind', hk]
  have e1 : (Int.toNat 0 &&& (coFutureAnnotations ||| coFutureBarry)) = 0 := by decide
  rw [e1, Int.toNat_natCast]
  simp only [Bool.or_false, hm, thenT]
  rw [goT_seq (goT_updFields h3 ..)]
  have e2 : (if (codeAmong pos (tabOf tl).toArray.toList).isSome = true then (tabOf tl).toArray else (tabOf tl).toArray ++ #[rawInt ↑pos.line, rawInt ↑pos.col, v]) = (tabOf (tl ++ [(pos.line, pos.col, v)])).toArray := by
    rw [codeAmong_none tl hp]
    simp only [Option.isSome_none, Bool.false_eq_true, if_false, ← tabOf_app]
    simp
  rw [e2]
  have e3 : Sh.get { s' with ov := put s'.ov T { cls := .none, data := .fields (tabOf (tl ++ [(pos.line, pos.col, v)])).toArray } } T = some (recO (tabOf (tl ++ [(pos.line, pos.col, v)]))) := by
    rw [get_put s' _ s'.t, if_pos rfl]; rfl
  rw [goT_seq (goT_fieldsOf e3 ..)]
  rw [codeAmong_last tl hp]
  rfl
end
end Mine.Go
end
section
open PySem PySem.W PyProof.Rows
namespace Mine.Go
noncomputable def fnO (n : Nat) (name q : Str) (as : Arguments) (sc : Scope) (b : List Stmt) (dfl pm : Value) (bt : Nat) : Obj :=
  { cls := .type "function", data := .func { name := name, qualname := q, params := as, body := .stmts b, scope := sc, globals := mainNs, closure := [], closureTuple := .none, code := .ref (n + 5), builtins := bt, defaults := dfl, kwdefaults := .none, annotations := none, pyModule := pm, doc := .none } }
noncomputable def defOv (n t : Nat) (file name q : Str) (line txt : Nat) (as : Arguments) (sc : Scope) (b : List Stmt) (pm : Value) (bt : Nat) : List (Nat × Obj) :=
  let l := locs as sc b
  [(n + 6, fnO n name q as sc b .none pm bt), (n + 5, codeO n t file name q line as.args.length 3 true txt l), (n + 4, tmplO name q as sc b), (n + 3, tupO (texts l.2 (t + 3 + l.1.length))), (n + 2, tupO (texts l.1 (t + 3))), (n + 1, recO []), (n, tupO [])]
noncomputable def defToks (as : Arguments) (sc : Scope) (b : List Stmt) : Nat := 6 + (locs as sc b).1.length + (locs as sc b).2.length
section
variable {prog : Program} {w : World} {calls : Ctx → Pos → Sh → Option (Result × Sh)} {Γ : Ctx}
theorem sem_pure_bind {α β : Type} (a : α) (f : α → Sem β) : (pure a >>= f) = f a := rfl
structure Cls (env : Env) (c T N : Nat) (cv : Array Value) (file : Str) (fT txt : Nat) : Prop where
  code : env.code = .ref c
  kind : env.scope.kind = .class
  glob : env.globals = mainNs
  loc : env.locals = N
  recd : CodeRecd cv T file fT false txt
structure Cx (s : Sh) (c T N : Nat) (cv : Array Value) (tl : List (Nat × Nat × Value)) (es : List DictEntry) (k : Nat) (gO : Obj) : Prop where
  code : s.get c = some { cls := .type "code", data := .fields cv }
  tab : s.get T = some (recO (tabOf tl))
  ns : s.get N = some (dictOf es k)
  glob : s.get mainNs = some gO
  lt : c < s.n ∧ T < s.n ∧ N < s.n ∧ mainNs < s.n
  ne : c ≠ T ∧ c ≠ N ∧ T ≠ N ∧ mainNs ≠ T ∧ mainNs ≠ N
theorem goT_makeFunction {env : Env} {c T N fT txt bt : Nat} {cv : Array Value} {file : Str} {tl : List (Nat × Nat × Value)} {es : List DictEntry} {k : Nat} {gO : Obj} {s : Sh} {name q : Str} {as : List Arg} {body : List Stmt} {sc : Scope} {pos : Pos} {pm : Value} {p : Pos}
    (C : Cls env c T N cv file fT txt) (X : Cx s c T N cv tl es k gO) (hp : ∀ x ∈ tl, x.1 ≠ pos.line) (hf : sc.names.all (fun x => x.2 != .free) = true) (hg : sc.isGenerator = false ∧ sc.isCoroutine = false)
    (hl : (localNames ⟨[], as, none, [], [], none, []⟩ sc (.stmts body)).isSome = true) (hd : docOf body = none) (hfr : sc.freeNames = [])
    (hb : ∀ (s' : Sh) p, (∀ a, a < s.n → a ≠ T → s'.get a = s.get a) → goT prog w calls Γ (builtinsFor mainNs env.builtins) p s' = some (.ok bt, p, s')) (hn : lookIn "__name__" gO = some (some pm)) :
    goT prog w calls Γ (makeFunction name q ⟨[], as, none, [], [], none, []⟩ (.stmts body) sc env [] [] [] pos pos.line) p s =
    some (.ok (.ref (s.n + 6)), p, { s with
      ov := (s.n + 6, fnO s.n name q ⟨[], as, none, [], [], none, []⟩ sc body .none pm bt) :: put ((defOv s.n s.t file name q pos.line txt ⟨[], as, none, [], [], none, []⟩ sc body pm bt).tail ++ s.ov) T (recO (tabOf (tl ++ [(pos.line, pos.col, .ref (s.n + 5))]))),
      n := s.n + 7, t := s.t + 5 + (locs ⟨[], as, none, [], [], none, []⟩ sc body).1.length + (locs ⟨[], as, none, [], [], none, []⟩ sc body).2.length }) := by
  obtain ⟨l, hl'⟩ := Option.isSome_iff_exists.mp hl
  have hloc : locs ⟨[], as, none, [], [], none, []⟩ sc body = l := by unfold locs; rw [hl']; rfl
  have hmake : goT prog w calls Γ (newCode { file := file, future := 0, inFunction := false, text := txt } name q pos.line as.length 0 0 3 [] true none (some l) (some { name := name, qualname := q, params := ⟨[], as, none, [], [], none, []⟩, body := .stmts body, scope := sc, globals := builtinsNs, closure := [], defaults := .none, kwdefaults := .none })) p s = _ := goT_newCode _ _ _ _ _ _ _ _ _ _ _ _
  have hff0 : functionFlags false false sc ⟨file, 0, false, txt⟩ = 3 := by
    unfold functionFlags; rw [hg.1, hg.2]; rfl
  have hge : ∀ x ∈ (defOv s.n s.t file name q pos.line txt ⟨[], as, none, [], [], none, []⟩ sc body pm bt).tail, s.n ≤ x.1 := by
    intro x hx
    simp only [defOv, List.tail_cons, List.mem_cons, List.not_mem_nil, or_false] at hx
    rcases hx with rfl | rfl | rfl | rfl | rfl | rfl <;> dsimp only <;> lia
  have hcode : goT prog w calls Γ (functionCode env pos pos.line name q ⟨[], as, none, [], [], none, []⟩ sc (.stmts body)) p s = some (.ok (.ref (s.n + 5)), p, { s with
      ov := put ((defOv s.n s.t file name q pos.line txt ⟨[], as, none, [], [], none, []⟩ sc body pm bt).tail ++ s.ov) T (recO (tabOf (tl ++ [(pos.line, pos.col, .ref (s.n + 5))]))),
      n := s.n + 6, t := s.t + 5 + l.1.length + l.2.length }) := by
    unfold functionCode
    refine goT_codeAt (s' := ⟨s.g, (defOv s.n s.t file name q pos.line txt ⟨[], as, none, [], [], none, []⟩ sc body pm bt).tail ++ s.ov, s.n + 6, s.t + 5 + l.1.length + l.2.length⟩) (v := .ref (s.n + 5)) C.code (by rw [C.kind]; rfl) X.code C.recd X.tab hp ?_ ?_
    · show goT prog w calls Γ (newCode ⟨file, 0, false, txt⟩ name q pos.line (0 + as.length) 0 0 (functionFlags false false sc ⟨file, 0, false, txt⟩) sc.freeNames true none (localNames ⟨[], as, none, [], [], none, []⟩ sc (.stmts body)) (some { name := name, qualname := q, params := ⟨[], as, none, [], [], none, []⟩, body := .stmts body, scope := sc, globals := builtinsNs, closure := [], defaults := .none, kwdefaults := .none })) p s = _
      rw [hl', hfr, hff0, Nat.zero_add, hmake]
      unfold defOv
      rw [hloc]
      rfl
    · rw [get_app hge X.lt.2.1]; exact X.tab
  have hgm : ∀ a, a < s.n → a ≠ T → Sh.get ⟨s.g, put ((defOv s.n s.t file name q pos.line txt ⟨[], as, none, [], [], none, []⟩ sc body pm bt).tail ++ s.ov) T (recO (tabOf (tl ++ [(pos.line, pos.col, .ref (s.n + 5))]))), s.n + 6, s.t + 5 + l.1.length + l.2.length⟩ a = s.get a := by
    intro a ha hne
    have := get_put ⟨s.g, (defOv s.n s.t file name q pos.line txt ⟨[], as, none, [], [], none, []⟩ sc body pm bt).tail ++ s.ov, s.n + 6, s.t + 5 + l.1.length + l.2.length⟩ (recO (tabOf (tl ++ [(pos.line, pos.col, .ref (s.n + 5))]))) (s.t + 5 + l.1.length + l.2.length) T a
    rw [if_neg hne, get_app hge ha] at this
    exact this
  unfold makeFunction
  simp only [List.zip_nil_left, List.filterMap_nil, List.isEmpty_nil, if_true, closure_nil hf, sem_pure_bind]
  rw [goT_seq (hcode ..)]
  rw [C.glob, goT_seq (hb _ _ hgm ..)]
  rw [goT_seq (goT_nsGet ((hgm _ X.lt.2.2.2 X.ne.2.2.2.1).trans X.glob) hn ..)]
  rw [hd]
  dsimp only
  rw [goT_seq (goT_pure ..)]
  rw [goT_newFunc, hloc]
  rfl
end
end Mine.Go
end
section
open PySem PySem.W PyProof.Rows
namespace Mine.Go
section
variable {prog : Program} {w : World} {calls : Ctx → Pos → Sh → Option (Result × Sh)} {Γ : Ctx}
theorem goT_execs_cons {st : Stmt} {rest : List Stmt} {env : Env} {p p' : Pos} {s s' : Sh} (h : goT prog w calls Γ (exec st env) p s = some (.ok .next, p', s')) : goT prog w calls Γ (execs (st :: rest) env) p s = goT prog w calls Γ (execs rest env) p' s' := by
  rw [arm_execs_cons]
  rw [goT_bind', h]
  rfl
theorem goT_bindName {env : Env} {N : Nat} {es : List DictEntry} {k : Nat} {x : Str} {v : Value} {s : Sh} {p : Pos} (hk : env.scope.kind = .class) (hl : env.locals = N) (hx : env.scope.names.lookup x = some .local) (h : s.get N = some (dictOf es k)) (hn : es.any (·.refKey) = false) :
    goT prog w calls Γ (bindName env x v) p s = some (.ok (), p, { s with ov := put s.ov N (dictOf (putL x (hs w x) (.str x s.t) v es) (putN x es k)), t := s.t + 1 }) := by
  unfold bindName
  rw [goT_bind', goT_holding, goT_point]; simp only [thenT]
  have e : storeName env x v = localSet env x v := by
    unfold storeName Env.kindOf
    rw [hx]
    simp only [hk]
    rfl
  rw [e]
  unfold localSet
  rw [hl, goT_bind', goT_seq (goT_load h ..)]
  rw [if_pos (show ((dictOf es k).cls == Value.type "dict") = true from rfl), goT_nsSet h hn]; simp only [thenT]
  rw [goT_point]
theorem putL_new {x : Str} {h : Int} {key v : Value} : ∀ {es : List DictEntry}, es.any (·.key.isStr x) = false → putL x h key v es = es ++ [⟨h, key, v⟩]
  | [], _ => rfl
  | e :: r, q => by
    simp only [List.any_cons, Bool.or_eq_false_iff] at q
    simp only [putL, q.1, Bool.false_eq_true, if_false, List.cons_append, putL_new q.2]
theorem putN_new {x : Str} {es : List DictEntry} {k : Nat} (h : es.any (·.key.isStr x) = false) : putN x es k = k + 1 := by unfold putN; rw [h]; rfl
noncomputable def argsOf (as : List Arg) : Arguments := ⟨[], as, none, [], [], none, []⟩
theorem goT_def {env : Env} {c T N fT txt bt : Nat} {cv : Array Value} {file : Str} {tl : List (Nat × Nat × Value)} {es : List DictEntry} {k : Nat} {gO : Obj} {s : Sh} {name : Str} {as : List Arg} {body : List Stmt} {sc : Scope} {pos : Pos} {pm : Value} {p : Pos}
    (C : Cls env c T N cv file fT txt) (X : Cx s c T N cv tl es k gO) (ha : as.all (·.annotation.isNone) = true) (hp : ∀ x ∈ tl, x.1 ≠ pos.line) (hf : sc.names.all (fun x => x.2 != .free) = true) (hg : sc.isGenerator = false ∧ sc.isCoroutine = false)
    (hl : (localNames (argsOf as) sc (.stmts body)).isSome = true) (hd : docOf body = none) (hfr : sc.freeNames = []) (hx : env.scope.names.lookup name = some .local)
    (hb : ∀ (s' : Sh) p, (∀ a, a < s.n → a ≠ T → s'.get a = s.get a) → goT prog w calls Γ (builtinsFor mainNs env.builtins) p s' = some (.ok bt, p, s')) (hn : lookIn "__name__" gO = some (some pm))
    (hes : es.any (·.refKey) = false) (hnew : es.any (·.key.isStr name) = false) :
    ∃ s', goT prog w calls Γ (exec (.FunctionDef name (argsOf as) body [] none [] sc none name pos) env) p s = some (.ok .next, pos, s') ∧
      Cx s' c T N cv (tl ++ [(pos.line, pos.col, .ref (s.n + 5))]) (es ++ [⟨hs w name, .str name (s.t + defToks (argsOf as) sc body - 1), .ref (s.n + 6)⟩]) (k + 1) gO ∧ s'.n = s.n + 7 ∧ s'.t = s.t + defToks (argsOf as) sc body ∧
      (∀ a, a < s.n → a ≠ T → a ≠ N → s'.get a = s.get a) ∧ ∀ x ∈ defOv s.n s.t file name (env.qual ++ name) pos.line txt (argsOf as) sc body pm bt, s'.get x.1 = some x.2 := by
  have hq : qualnameIn env name name = env.qual ++ name := by
    unfold qualnameIn Env.kindOf
    rw [hx]
    rfl
  obtain ⟨lc, lT, lN, lM⟩ := X.lt
  obtain ⟨n1, n2, n3, n4, n5⟩ := X.ne
  have hM := goT_makeFunction (name := name) (q := env.qual ++ name) (p := pos) C X hp hf hg hl hd hfr hb hn
  have H : ∀ a, Sh.get ⟨s.g, (s.n + 6, fnO s.n name (env.qual ++ name) (argsOf as) sc body .none pm bt) :: put ((defOv s.n s.t file name (env.qual ++ name) pos.line txt (argsOf as) sc body pm bt).tail ++ s.ov) T (recO (tabOf (tl ++ [(pos.line, pos.col, .ref (s.n + 5))]))),
      s.n + 7, s.t + 5 + (locs (argsOf as) sc body).1.length + (locs (argsOf as) sc body).2.length⟩ a = if a = s.n + 6 then some (fnO s.n name (env.qual ++ name) (argsOf as) sc body .none pm bt) else if a = T then some (recO (tabOf (tl ++ [(pos.line, pos.col, .ref (s.n + 5))]))) else
        Sh.get ⟨s.g, (defOv s.n s.t file name (env.qual ++ name) pos.line txt (argsOf as) sc body pm bt).tail ++ s.ov, 0, 0⟩ a := by
    intro a
    unfold Sh.get
    simp only [look_cons, look_put]
    by_cases e1 : a = s.n + 6
    · simp only [e1, if_true]
    · simp only [e1, if_false]
      by_cases e2 : a = T
      · simp only [e2, if_true]
      · simp only [e2, if_false]
  have hge : ∀ x ∈ (defOv s.n s.t file name (env.qual ++ name) pos.line txt (argsOf as) sc body pm bt).tail, s.n ≤ x.1 := by
    intro x hx
    simp only [defOv, List.tail_cons, List.mem_cons, List.not_mem_nil, or_false] at hx
    rcases hx with rfl | rfl | rfl | rfl | rfl | rfl <;> dsimp only <;> lia
  generalize hs1 : (⟨s.g, (s.n + 6, fnO s.n name (env.qual ++ name) (argsOf as) sc body .none pm bt) :: put ((defOv s.n s.t file name (env.qual ++ name) pos.line txt (argsOf as) sc body pm bt).tail ++ s.ov) T (recO (tabOf (tl ++ [(pos.line, pos.col, .ref (s.n + 5))]))),
      s.n + 7, s.t + 5 + (locs (argsOf as) sc body).1.length + (locs (argsOf as) sc body).2.length⟩ : Sh) = s1 at H
  have hM' : goT prog w calls Γ (makeFunction name (env.qual ++ name) (argsOf as) (.stmts body) sc env [] [] [] pos pos.line) pos s = some (.ok (.ref (s.n + 6)), pos, s1) := by rw [← hs1]; exact hM
  have hn1 : s1.n = s.n + 7 := by rw [← hs1]
  have ht1 : s1.t = s.t + 5 + (locs (argsOf as) sc body).1.length + (locs (argsOf as) sc body).2.length := by rw [← hs1]
  have old : ∀ a, a < s.n → a ≠ T → s1.get a = s.get a := by
    intro a h1 h2
    rw [H, if_neg (by lia), if_neg h2, get_app hge h1]
  have hN : s1.get N = some (dictOf es k) := (old N lN (Ne.symm n3)).trans X.ns
  have hB := goT_bindName (prog := prog) (w := w) (calls := calls) (Γ := Γ) (x := name) (v := .ref (s.n + 6)) (p := pos) C.kind C.loc hx hN hes
  rw [putL_new hnew, putN_new hnew, ht1] at hB
  have H2 : ∀ a, Sh.get { s1 with ov := put s1.ov N (dictOf (es ++ [⟨hs w name, .str name (s.t + 5 + (locs (argsOf as) sc body).1.length + (locs (argsOf as) sc body).2.length), .ref (s.n + 6)⟩]) (k + 1)), t := s.t + 5 + (locs (argsOf as) sc body).1.length + (locs (argsOf as) sc body).2.length + 1 } a =
      if a = N then some (dictOf (es ++ [⟨hs w name, .str name (s.t + 5 + (locs (argsOf as) sc body).1.length + (locs (argsOf as) sc body).2.length), .ref (s.n + 6)⟩]) (k + 1)) else s1.get a := fun a => get_put s1 _ _ N a
  have htok : s.t + defToks (argsOf as) sc body - 1 = s.t + 5 + (locs (argsOf as) sc body).1.length + (locs (argsOf as) sc body).2.length := by unfold defToks; lia
  refine ⟨{ s1 with ov := put s1.ov N (dictOf (es ++ [⟨hs w name, .str name (s.t + 5 + (locs (argsOf as) sc body).1.length + (locs (argsOf as) sc body).2.length), .ref (s.n + 6)⟩]) (k + 1)), t := s.t + 5 + (locs (argsOf as) sc body).1.length + (locs (argsOf as) sc body).2.length + 1 }, ?_, ⟨?_, ?_, ?_, ?_, ?_, X.ne⟩, hn1, ?_, ?_, ?_⟩
  · show goT prog w calls Γ (exec (.FunctionDef name ⟨[], as, none, [], [], none, []⟩ body [] none [] sc none name pos) env) p s = _
    rw [exec_def ha, goT_seq (goT_standAt ..)]
    rw [goT_bind', hq]
    rw [show goT prog w calls Γ (makeFunction name (env.qual ++ name) ⟨[], as, none, [], [], none, []⟩ (.stmts body) sc env [] [] [] pos pos.line) pos s = _ from hM']
    simp only [thenT]
    rw [goT_seq (goT_standAt ..)]
    rw [goT_seq (hB ..)]
    rfl
  · rw [H2, if_neg n2, old c lc n1]; exact X.code
  · rw [H2, if_neg n3, H, if_neg (by lia), if_pos rfl]
  · rw [H2, if_pos rfl, htok]
  · rw [H2, if_neg n5, old _ lM n4]; exact X.glob
  · refine ⟨?_, ?_, ?_, ?_⟩
    · show c < s1.n; lia
    · show T < s1.n; lia
    · show N < s1.n; lia
    · show mainNs < s1.n; rw [hn1]; exact Nat.lt_of_lt_of_le lM (Nat.le_add_right _ _)
  · show s.t + 5 + (locs (argsOf as) sc body).1.length + (locs (argsOf as) sc body).2.length + 1 = s.t + defToks (argsOf as) sc body
    unfold defToks; lia
  · intro a h1 h2 h3
    rw [H2, if_neg h3]; exact old a h1 h2
  · intro x hx
    have hx' : x = (s.n + 6, fnO s.n name (env.qual ++ name) (argsOf as) sc body .none pm bt) ∨ x ∈ (defOv s.n s.t file name (env.qual ++ name) pos.line txt (argsOf as) sc body pm bt).tail := by
      unfold defOv at hx ⊢
      exact List.mem_cons.mp hx
    rcases hx' with rfl | hx'
    · rw [H2, if_neg (by dsimp only; lia), H, if_pos rfl]
    · have h1 := hge x hx'
      have h6 : x.1 ≤ s.n + 5 := by
        simp only [defOv, List.tail_cons, List.mem_cons, List.not_mem_nil, or_false] at hx'
        rcases hx' with rfl | rfl | rfl | rfl | rfl | rfl <;> dsimp only <;> lia
      rw [H2, if_neg (by lia), H, if_neg (by lia), if_neg (by lia)]
      have : look ((defOv s.n s.t file name (env.qual ++ name) pos.line txt (argsOf as) sc body pm bt).tail ++ s.ov) x.1 = some x.2 := by
        simp only [defOv, List.tail_cons, List.mem_cons, List.not_mem_nil, or_false] at hx'
        simp only [defOv, List.tail_cons, List.cons_append, look_cons]
        rcases hx' with rfl | rfl | rfl | rfl | rfl | rfl <;> dsimp only <;> repeat (first | rw [if_pos rfl] | rw [if_neg (by lia)])
      unfold Sh.get
      rw [this]
end
end Mine.Go
end
section
open PySem PySem.W PyProof.Rows
namespace Mine.Go
open Mine.Dx
noncomputable def codeN (s : Str) : Nat := s.cps.toList.foldl (fun a c => a * 256 + c) 0
noncomputable def memN (a : Nat) : List Nat → Bool
  | [] => false
  | b :: r => match Nat.beq a b with
    | true => true
    | false => memN a r
theorem memN_of {a : Nat} : ∀ {l : List Nat}, a ∈ l → memN a l = true
  | b :: r, h => by
    unfold memN
    cases e : Nat.beq a b with
    | true => rfl
    | false =>
      rcases List.mem_cons.mp h with rfl | h
      · exact absurd rfl (Nat.ne_of_beq_eq_false e)
      · exact memN_of h
noncomputable def plainArgs (a : Arguments) : Bool := a.posonlyargs.isEmpty && a.vararg.isNone && a.kwonlyargs.isEmpty && a.kw_defaults.isEmpty && a.kwarg.isNone && a.defaults.isEmpty
theorem plain_el {a : Arguments} {M : Arguments → Prop} (h : plainArgs a = true) (f : M (argsOf a.args)) : M a := by
  obtain ⟨a1, a2, a3, a4, a5, a6, a7⟩ := a
  simp only [plainArgs, Bool.and_eq_true, List.isEmpty_iff, Option.isNone_iff_eq_none] at h
  obtain ⟨⟨⟨⟨⟨rfl, rfl⟩, rfl⟩, rfl⟩, rfl⟩, rfl⟩ := h
  exact f
noncomputable def fName (s : Stmt) : Str := ((atS 9 s).map fun x => x.1).getD default
noncomputable def fArgs (s : Stmt) : Arguments := ((atS 9 s).map fun x => x.2.1).getD default
noncomputable def fBody (s : Stmt) : List Stmt := ((atS 9 s).map fun x => x.2.2.1).getD []
noncomputable def fScope (s : Stmt) : Scope := ((atS 9 s).map fun x => x.2.2.2.2.2.2.1).getD noScope
noncomputable def fPos (s : Stmt) : Pos := ((atS 9 s).map fun x => x.2.2.2.2.2.2.2.2.2).getD default
noncomputable def okD (a : Arguments) (body : List Stmt) (sc : Scope) : Bool := a.args.all (·.annotation.isNone) && (docOf body).isNone && sc.names.all (fun x => x.2 != .free) && !sc.isGenerator && !sc.isCoroutine && (localNames a sc (.stmts body)).isSome && sc.freeNames.isEmpty
noncomputable def okDef (s : Stmt) : Bool := (atS 9 s).any fun x => plainArgs x.2.1 && x.2.2.2.1.isEmpty && x.2.2.2.2.1.isNone && x.2.2.2.2.2.1.isEmpty && x.2.2.2.2.2.2.2.1.isNone && x.1 == x.2.2.2.2.2.2.2.2.1 && okD x.2.1 x.2.2.1 x.2.2.2.2.2.2.1
theorem okDef_el {s : Stmt} {M : Stmt → Prop} (h : okDef s = true) (f : ∀ name as body sc pos, okD (argsOf as) body sc = true → M (.FunctionDef name (argsOf as) body [] none [] sc none name pos)) : M s :=
  atS_el h fun x q r => by
    obtain ⟨name, a, body, de, re, tp, sc, ts, bind, pos⟩ := x
    cases q
    have e := eq_of_beq (r2 (l2 r))
    dsimp only at e
    subst e
    refine plain_el (M := fun a => okD a body sc = true → M (.FunctionDef name a body de re tp sc ts name pos)) (l2 (l2 (l2 (l2 (l2 (l2 r)))))) (fun o => ?_) (r2 r)
    refine emp_el (M := fun de => M (.FunctionDef name _ body de re tp sc ts name pos)) (r2 (l2 (l2 (l2 (l2 (l2 r)))))) ?_
    refine non_el (M := fun re => M (.FunctionDef name _ body [] re tp sc ts name pos)) (r2 (l2 (l2 (l2 (l2 r))))) ?_
    refine emp_el (M := fun tp => M (.FunctionDef name _ body [] none tp sc ts name pos)) (r2 (l2 (l2 (l2 r)))) ?_
    exact non_el (M := fun ts => M (.FunctionDef name _ body [] none [] sc ts name pos)) (r2 (l2 (l2 r))) (f name a.args body sc pos o)
noncomputable def okDefs : List Nat → Nat → List Stmt → Bool
  | _, _, [] => true
  | seen, last, s :: r => okDef s && Nat.blt last (fPos s).line && !memN (codeN (fName s)) seen && okDefs (codeN (fName s) :: seen) (fPos s).line r
noncomputable def stToks (st : Stmt) : Nat := defToks (fArgs st) (fScope st) (fBody st)
noncomputable def toksOf (t : Nat) : List Stmt → Nat
  | [] => t
  | st :: r => toksOf (t + stToks st) r
noncomputable def tabs (n : Nat) : List Stmt → List (Nat × Nat × Value)
  | [] => []
  | st :: r => ((fPos st).line, (fPos st).col, .ref (n + 5)) :: tabs (n + 7) r
noncomputable def ents (w : World) (n t : Nat) : List Stmt → List DictEntry
  | [] => []
  | st :: r => ⟨hs w (fName st), .str (fName st) (t + stToks st - 1), .ref (n + 6)⟩ :: ents w (n + 7) (t + stToks st) r
noncomputable def ovs (file qual : Str) (txt : Nat) (pm : Value) (bt n t : Nat) : List Stmt → List (Nat × Obj)
  | [] => []
  | st :: r => defOv n t file (fName st) (qual ++ fName st) (fPos st).line txt (fArgs st) (fScope st) (fBody st) pm bt ++ ovs file qual txt pm bt (n + 7) (t + stToks st) r
theorem ovs_lt {file qual : Str} {txt : Nat} {pm : Value} {bt : Nat} : ∀ {sts : List Stmt} {n t : Nat}, ∀ x ∈ ovs file qual txt pm bt n t sts, n ≤ x.1 ∧ x.1 < n + 7 * sts.length
  | [], _, _, x, h => by cases h
  | st :: r, n, t, x, h => by
    rcases List.mem_append.mp h with h | h
    · simp only [defOv, List.mem_cons, List.not_mem_nil, or_false] at h
      simp only [List.length_cons]
      rcases h with rfl | rfl | rfl | rfl | rfl | rfl | rfl <;> dsimp only <;> lia
    · have := ovs_lt x h
      simp only [List.length_cons]
      lia
section
variable {prog : Program} {w : World} {calls : Ctx → Pos → Sh → Option (Result × Sh)} {Γ : Ctx}
theorem goT_one {env : Env} {c T N fT txt bt : Nat} {cv : Array Value} {file : Str} {tl : List (Nat × Nat × Value)} {es : List DictEntry} {k : Nat} {gO : Obj} {s : Sh} {pm : Value} {p : Pos} {st : Stmt} {rest : List Stmt} (C : Cls env c T N cv file fT txt) (hn : lookIn "__name__" gO = some (some pm)) (ok : okDef st = true) :
    (nm : env.scope.names.lookup (fName st) = some .local) → (X : Cx s c T N cv tl es k gO) → (hp : ∀ x ∈ tl, x.1 ≠ (fPos st).line) → (hb : ∀ (s' : Sh) p, (∀ a, a < s.n → a ≠ T → s'.get a = s.get a) → goT prog w calls Γ (builtinsFor mainNs env.builtins) p s' = some (.ok bt, p, s')) →
    (hes : es.any (·.refKey) = false) → (hnew : es.any (·.key.isStr (fName st)) = false) →
    ∃ s', goT prog w calls Γ (execs (st :: rest) env) p s = goT prog w calls Γ (execs rest env) (fPos st) s' ∧
      Cx s' c T N cv (tl ++ tabs s.n [st]) (es ++ ents w s.n s.t [st]) (k + 1) gO ∧ s'.n = s.n + 7 ∧ s'.t = s.t + stToks st ∧
      (∀ a, a < s.n → a ≠ T → a ≠ N → s'.get a = s.get a) ∧ ∀ x ∈ defOv s.n s.t file (fName st) (env.qual ++ fName st) (fPos st).line txt (fArgs st) (fScope st) (fBody st) pm bt, s'.get x.1 = some x.2 :=
  okDef_el (M := fun st => (nm : env.scope.names.lookup (fName st) = some .local) → (X : Cx s c T N cv tl es k gO) → (hp : ∀ x ∈ tl, x.1 ≠ (fPos st).line) → (hb : ∀ (s' : Sh) p, (∀ a, a < s.n → a ≠ T → s'.get a = s.get a) → goT prog w calls Γ (builtinsFor mainNs env.builtins) p s' = some (.ok bt, p, s')) →
    (hes : es.any (·.refKey) = false) → (hnew : es.any (·.key.isStr (fName st)) = false) →
    ∃ s', goT prog w calls Γ (execs (st :: rest) env) p s = goT prog w calls Γ (execs rest env) (fPos st) s' ∧
      Cx s' c T N cv (tl ++ tabs s.n [st]) (es ++ ents w s.n s.t [st]) (k + 1) gO ∧ s'.n = s.n + 7 ∧ s'.t = s.t + stToks st ∧
      (∀ a, a < s.n → a ≠ T → a ≠ N → s'.get a = s.get a) ∧ ∀ x ∈ defOv s.n s.t file (fName st) (env.qual ++ fName st) (fPos st).line txt (fArgs st) (fScope st) (fBody st) pm bt, s'.get x.1 = some x.2) ok
  fun name as body sc pos o nm X hp hb hes hnew => by
    simp only [okD, Bool.and_eq_true, Bool.not_eq_true', Option.isNone_iff_eq_none, List.isEmpty_iff] at o
    obtain ⟨⟨⟨⟨⟨⟨o2, o3⟩, o4⟩, o5⟩, o6⟩, o7⟩, o8⟩ := o
    obtain ⟨s', g, h⟩ := goT_def (prog := prog) (w := w) (calls := calls) (Γ := Γ) (p := p) C X o2 hp o4 ⟨o5, o6⟩ o7 o3 o8 nm hb hn hes hnew
    exact ⟨s', goT_execs_cons g, h⟩
theorem goT_defs {env : Env} {c T N fT txt bt bm : Nat} {cv : Array Value} {file : Str} {gO bo : Obj} {pm : Value} (C : Cls env c T N cv file fT txt) (hn : lookIn "__name__" gO = some (some pm)) (hbm : bm ≠ T ∧ bm ≠ N)
    (hb : ∀ (s' : Sh) p, s'.get mainNs = some gO → s'.get bm = some bo → goT prog w calls Γ (builtinsFor mainNs env.builtins) p s' = some (.ok bt, p, s')) :
    ∀ (sts : List Stmt) (rest : List Stmt) (seen : List Nat) (last : Nat) (s : Sh) (tl : List (Nat × Nat × Value)) (es : List DictEntry) (k : Nat) (p : Pos), okDefs seen last sts = true → (∀ st ∈ sts, env.scope.names.lookup (fName st) = some .local) → Cx s c T N cv tl es k gO → (s.get bm = some bo ∧ bm < s.n) →
      (∀ x ∈ tl, x.1 ≤ last) → (∀ e ∈ es, ∃ nm t, e.key = .str nm t ∧ codeN nm ∈ seen) →
      ∃ s' p', goT prog w calls Γ (execs (sts ++ rest) env) p s = goT prog w calls Γ (execs rest env) p' s' ∧ Cx s' c T N cv (tl ++ tabs s.n sts) (es ++ ents w s.n s.t sts) (k + sts.length) gO ∧ s'.n = s.n + 7 * sts.length ∧ s'.t = toksOf s.t sts ∧
        (∀ a, a < s.n → a ≠ T → a ≠ N → s'.get a = s.get a) ∧ ∀ x ∈ ovs file env.qual txt pm bt s.n s.t sts, s'.get x.1 = some x.2
  | [], rest, _, _, s, tl, es, k, p, _, _, X, _, _, _ => ⟨s, p, rfl, by rw [show tl ++ tabs s.n [] = tl from List.append_nil _, show es ++ ents w s.n s.t [] = es from List.append_nil _]; exact X, rfl, rfl, fun _ _ _ _ => rfl, fun x hx => by cases hx⟩
  | st :: sts, rest, seen, last, s, tl, es, k, p, ok, nm, X, B, hl, hk => by
    have ok : (okDef st && Nat.blt last (fPos st).line && !memN (codeN (fName st)) seen && okDefs (codeN (fName st) :: seen) (fPos st).line sts) = true := ok
    have o10 := Nat.blt_eq.mp (r2 (l2 (l2 ok)))
    have o11 : memN (codeN (fName st)) seen = false := by simpa using r2 (l2 ok)
    have hes : es.any (·.refKey) = false := by
      rw [List.any_eq_false]
      intro e he
      obtain ⟨nm, t, e1, _⟩ := hk e he
      unfold DictEntry.refKey
      rw [e1]; exact Bool.false_ne_true
    have hnew : es.any (·.key.isStr (fName st)) = false := by
      rw [List.any_eq_false]
      intro e he
      obtain ⟨nm, t, e1, e2⟩ := hk e he
      rw [e1]
      intro q
      have : nm = fName st := eq_of_beq q
      subst this
      rw [memN_of e2] at o11; cases o11
    obtain ⟨s', g1, X', n1, t1, old, new⟩ := goT_one (prog := prog) (w := w) (calls := calls) (Γ := Γ) (p := p) (bt := bt) (rest := sts ++ rest) C hn (l2 (l2 (l2 ok))) (nm _ (.head _)) X (fun x hx => Nat.ne_of_lt (Nat.lt_of_le_of_lt (hl x hx) o10))
      (fun s' p' h => hb s' p' ((h _ X.lt.2.2.2 X.ne.2.2.2.1).trans X.glob) ((h _ B.2 hbm.1).trans B.1)) hes hnew
    obtain ⟨s2, p2, g2, X2, n2, t2, old2, new2⟩ := goT_defs C hn hbm hb sts rest _ (fPos st).line s' _ _ _ (fPos st) (r2 ok) (fun st h => nm st (.tail _ h)) X' ⟨(old _ B.2 hbm.1 hbm.2).trans B.1, by rw [n1]; exact Nat.lt_of_lt_of_le B.2 (Nat.le_add_right _ _)⟩
      (fun x hx => (List.mem_append.mp hx).elim (fun hx => Nat.le_of_lt (Nat.lt_of_le_of_lt (hl x hx) o10)) fun hx => by cases hx with | head => exact Nat.le_refl _ | tail _ h => cases h)
      (fun e he => (List.mem_append.mp he).elim (fun he => let ⟨nm, t, e1, e2⟩ := hk e he; ⟨nm, t, e1, .tail _ e2⟩) fun he => by cases he with | head => exact ⟨fName st, _, rfl, .head _⟩ | tail _ h => cases h)
    rw [n1, t1] at X2 new2
    rw [n1] at n2
    rw [t1] at t2
    refine ⟨s2, p2, g1.trans g2, ?_, ?_, t2, fun a h1 h2 h3 => ?_, fun x hx => ?_⟩
    · rw [List.append_assoc, List.append_assoc] at X2
      rw [show k + (st :: sts).length = k + 1 + sts.length from Nat.add_right_comm k sts.length 1]
      exact X2
    · rw [n2, List.length_cons, Nat.mul_add, Nat.add_assoc, Nat.add_comm 7]
    · rw [old2 a (by lia) h2 h3]; exact old a h1 h2 h3
    · rcases List.mem_append.mp hx with hx | hx
      · have hlt : s.n ≤ x.1 ∧ x.1 < s.n + 7 := ovs_lt (sts := [st]) (file := file) (qual := env.qual) (txt := txt) (pm := pm) (bt := bt) (n := s.n) (t := s.t) x (List.mem_append_left _ hx)
        have h1 := X.lt.2.1
        have h2 := X.lt.2.2.1
        rw [old2 x.1 (by lia) (by lia) (by lia)]
        exact new x hx
      · exact new2 x hx
end
end Mine.Go
end
section
open PySem PySem.W PyProof.Rows
namespace Mine.Go
open Mine.Dx
noncomputable def walkN : List Str → List (Str × NameKind) → Bool
  | [], _ => true
  | _ :: _, [] => false
  | x :: xs, y :: ys => if x == y.1 then walkN xs ys else walkN (x :: xs) ys
theorem walkN_mem : ∀ (xs : List Str) (ys : List (Str × NameKind)), walkN xs ys = true → ∀ x ∈ xs, ∃ k, (x, k) ∈ ys
  | [], _, _, x, h => by cases h
  | _ :: _, [], e, _, _ => by cases e
  | x :: xs, y :: ys, e, z, h => by
    unfold walkN at e
    split at e
    · rename_i q
      rcases List.mem_cons.mp h with rfl | h
      · exact ⟨y.2, by rw [beq_iff_eq.mp q]; exact .head _⟩
      · obtain ⟨k, hk⟩ := walkN_mem xs ys e z h; exact ⟨k, .tail _ hk⟩
    · obtain ⟨k, hk⟩ := walkN_mem (x :: xs) ys e z h; exact ⟨k, .tail _ hk⟩
theorem lookup_local {x : Str} : ∀ {ys : List (Str × NameKind)}, ys.all (fun y => y.2 == .local) = true → (∃ k, (x, k) ∈ ys) → ys.lookup x = some .local
  | [], _, h => by obtain ⟨k, h⟩ := h; cases h
  | y :: ys, e, h => by
    simp only [List.all_cons, Bool.and_eq_true, beq_iff_eq] at e
    obtain ⟨k, h⟩ := h
    rw [List.lookup_cons]
    cases q : x == y.1 with
    | true => rw [e.1]
    | false =>
      rcases List.mem_cons.mp h with h | h
      · subst h; simp at q
      · exact lookup_local e.2 ⟨k, h⟩
noncomputable def apartN : List Nat → List DictEntry → Bool
  | _, [] => true
  | seen, e :: r => (match e.key with | .str x _ => !memN (codeN x) seen && apartN (codeN x :: seen) r | _ => false)
theorem apartN_seen : ∀ {es : List DictEntry} {seen : List Nat}, apartN seen es = true → ∀ e ∈ es, ∃ x t, e.key = .str x t ∧ codeN x ∉ seen
  | [], _, _, e, h => by cases h
  | e :: r, seen, q, z, h => by
    unfold apartN at q
    split at q
    · rename_i x t hk
      simp only [Bool.and_eq_true, Bool.not_eq_true'] at q
      rcases List.mem_cons.mp h with rfl | h
      · exact ⟨x, t, hk, fun m => by rw [memN_of m] at q; cases q.1⟩
      · obtain ⟨x', t', h1, h2⟩ := apartN_seen q.2 z h
        exact ⟨x', t', h1, fun m => h2 (.tail _ m)⟩
    · cases q
theorem isStr_str {x y : Str} {t : Nat} : (Value.str x t).isStr y = true ↔ x = y := by simp [Value.isStr]
theorem find_apart {x : Str} {t : Nat} {e : DictEntry} : ∀ {es : List DictEntry} {seen : List Nat}, apartN seen es = true → e ∈ es → e.key = .str x t → es.find? (·.key.isStr x) = some e
  | [], _, _, h, _ => by cases h
  | d :: r, seen, q, h, hk => by
    unfold apartN at q
    split at q
    · rename_i y u hd
      simp only [Bool.and_eq_true, Bool.not_eq_true'] at q
      rcases List.mem_cons.mp h with rfl | h
      · rw [List.find?_cons, hk]
        simp only [isStr_str.mpr rfl]
      · have : y ≠ x := by
          rintro rfl
          obtain ⟨x', t', h1, h2⟩ := apartN_seen q.2 e h
          rw [hk] at h1
          cases h1
          exact h2 (.head _)
        rw [List.find?_cons, hd]
        have : (Value.str y u).isStr x = false := by simpa [Value.isStr] using this
        rw [this]
        exact find_apart q.2 h hk
    · cases q
theorem getL_apart {x : Str} {t : Nat} {e : DictEntry} {es : List DictEntry} (q : apartN [] es = true) (h : e ∈ es) (hk : e.key = .str x t) : getL x es = some (some e.val) := by
  unfold getL
  rw [find_apart q h hk]
section
variable {prog : Program} {w : World} {calls : Ctx → Pos → Sh → Option (Result × Sh)} {Γ : Ctx}
theorem goT_newList {vs : List Value} (h : vs.length ≤ sizeLine) (p : Pos) (s : Sh) : goT prog w calls Γ (newList vs) p s = some (.ok (.ref s.n), p, { s with ov := (s.n, { cls := .type "list", data := .seq vs.toArray }) :: s.ov, n := s.n + 1 }) := by
  unfold newList newObj
  simp only [List.size_toArray]
  rw [if_neg (Nat.not_lt.mpr h)]
  rfl
noncomputable def intOf (e : PySem.Expr) : Option Int := (atE 0 e).bind fun x => match x.1 with
  | .int i => some i
  | _ => none
theorem intOf_eq {e : PySem.Expr} (h : (intOf e).isSome = true) : ∃ i k q, e = .Constant (.int i) k q := by
  unfold intOf at h
  cases q : atE 0 e with
  | none => rw [q] at h; cases h
  | some x =>
    rw [q] at h
    have q := atE_mk q
    obtain ⟨c, k, p⟩ := x
    cases q
    cases c with
    | int i => exact ⟨i, k, p, rfl⟩
    | _ => exact no_true h
noncomputable def allInts (es : List PySem.Expr) : Bool := es.all fun e => (intOf e).isSome
noncomputable def constInts (es : List PySem.Expr) : List Int := es.map fun e => (intOf e).getD 0
noncomputable def intsAt : List Int → Nat → List Value
  | [], _ => []
  | x :: l, t => .int x t :: intsAt l (t + 1)
theorem goT_sp1 {env : Env} {lp : Pos} {e : PySem.Expr} {r : List PySem.Expr} {p q p' : Pos} {s s1 s2 : Sh} {v : Value} {vs : List Value} (hs : starEach (e :: r) env = (false, eval e env) :: starEach r env) (h1 : goT prog w calls Γ (eval e env) p s = some (.ok v, q, s1)) (h2 : goT prog w calls Γ (spliced (backTo lp (starEach r env))) q s1 = some (.ok vs, p', s2)) :
    goT prog w calls Γ (spliced (backTo lp (starEach (e :: r) env))) p s = some (.ok (v :: vs), p', s2) := by
  have : goT prog w calls Γ (spliced (backTo lp (starEach (e :: r) env))) p s = goT prog w calls Γ (do
      let v ← eval e env
      let here ← (pure [v] : Sem (List Value))
      return here ++ (← holding here (spliced (backTo lp (starEach r env))))) p s := by
    rw [hs]
    rfl
  rw [this, goT_seq (h1 ..)]
  rw [goT_seq (goT_pure ..)]
  rw [goT_bind', goT_holding, h2]
  rfl
theorem goT_ints {env : Env} {lp : Pos} : ∀ (elts : List PySem.Expr) (p : Pos) (s : Sh), allInts elts = true → goT prog w calls Γ (spliced (backTo lp (starEach elts env))) p s = some (.ok (intsAt (constInts elts) s.t), p, { s with t := s.t + elts.length })
  | [], p, s, _ => rfl
  | e :: r, p, s, h => by
    have h : ((intOf e).isSome && allInts r) = true := h
    obtain ⟨i, k, q, rfl⟩ := intOf_eq (l2 h)
    rw [goT_sp1 (lp := lp) (v := .int i s.t) (q := p) (p := p) (s := s) (s1 := { s with t := s.t + 1 }) rfl rfl (goT_ints r p { s with t := s.t + 1 } (r2 h))]
    rw [List.length_cons, Nat.add_comm r.length, ← Nat.add_assoc]
    rfl
noncomputable def nameOK (es : List DictEntry) (e : PySem.Expr) (i : Nat) : Bool := (atE 1 e).any fun x => (es[i]?).any (fun d => d.key.isStr x.1) && !(x.1 == ("__debug__" : Str))
noncomputable def namesAt (es : List DictEntry) : List PySem.Expr → List Nat → Bool
  | [], [] => true
  | e :: r, i :: is => nameOK es e i && namesAt es r is
  | _, _ => false
noncomputable def valsAt (es : List DictEntry) (is : List Nat) : List Value := is.map fun i => match es[i]? with | some e => e.val | none => .none
theorem isStr_eq {v : Value} {x : Str} (h : v.isStr x = true) : ∃ t, v = .str x t := by
  cases v with
  | str y t => exact ⟨t, by rw [isStr_str.mp h]⟩
  | _ => exact no_true h
theorem goT_name1 {env : Env} {N k i : Nat} {es0 es : List DictEntry} {e : PySem.Expr} {r : List PySem.Expr} {p : Pos} {s : Sh} (hk : env.scope.kind = .class) (hl : env.locals = N) (hes : apartN [] (es0 ++ es) = true) (hnm : ∀ e ∈ es, ∀ x t, e.key = .str x t → env.scope.names.lookup x = some .local) (hN : s.get N = some (dictOf (es0 ++ es) k)) (h : nameOK es e i = true) :
    ∃ q d, es[i]? = some d ∧ starEach (e :: r) env = (false, eval e env) :: starEach r env ∧ goT prog w calls Γ (eval e env) p s = some (.ok d.val, q, s) := by
  refine atE_el h fun y hy h => ?_
  obtain ⟨x, q⟩ := y
  cases hy
  refine elO (l2 h) fun d hi hd => ?_
  obtain ⟨t, hd⟩ := isStr_eq hd
  have hdb : (x == ("__debug__" : Str)) = false := ff (r2 h)
  have hm : d ∈ es := List.mem_of_getElem? hi
  refine ⟨q, d, hi, rfl, ?_⟩
  rw [PySem.eval_Name (hd := hdb), goT_seq (goT_standAt ..)]
  have hx : env.kindOf x = some .local := hnm d hm x t hd
  have hkn : env.scope.kind.isAnnotationScope = false := by rw [hk]; rfl
  have hb : env.blockKind = .class := by unfold Env.blockKind; rw [hkn, hk]; rfl
  have hg : goT prog w calls Γ (localGet env x) q s = some (.ok (some d.val), q, s) := by
    unfold localGet
    rw [hl, goT_seq (goT_load hN ..)]
    rw [if_pos (show ((dictOf (es0 ++ es) k).cls == Value.type "dict") = true from rfl)]
    exact goT_nsGet hN (by rw [lookIn_dict]; exact getL_apart hes (List.mem_append_right _ hm) hd) q
  have : ∃ f : Option Value → Sem Value, loadName env x = localGet env x >>= f ∧ ∀ v, f (some v) = pure v := ⟨_, by
    unfold loadName
    rw [hkn, hb, hx]
    rfl, fun v => rfl⟩
  obtain ⟨f, this, hf⟩ := this
  rw [this, goT_seq (hg ..)]
  rw [hf]
  rfl
theorem goT_names {env : Env} {lp : Pos} {N k : Nat} {es0 es : List DictEntry} (hk : env.scope.kind = .class) (hl : env.locals = N) (hes : apartN [] (es0 ++ es) = true) (hnm : ∀ e ∈ es, ∀ x t, e.key = .str x t → env.scope.names.lookup x = some .local) :
    ∀ (elts : List PySem.Expr) (is : List Nat) (p : Pos) (s : Sh), s.get N = some (dictOf (es0 ++ es) k) → namesAt es elts is = true → ∃ p', goT prog w calls Γ (spliced (backTo lp (starEach elts env))) p s = some (.ok (valsAt es is), p', s)
  | [], [], p, s, _, _ => ⟨p, rfl⟩
  | _ :: _, [], _, _, _, h => by cases h
  | [], _ :: _, _, _, _, h => by cases h
  | e :: r, i :: is, p, s, hN, h => by
    have h : (nameOK es e i && namesAt es r is) = true := h
    obtain ⟨q, d, hi, hs, hv⟩ := goT_name1 (prog := prog) (w := w) (calls := calls) (Γ := Γ) (r := r) (p := p) hk hl hes hnm hN (l2 h)
    obtain ⟨p', ih⟩ := goT_names (lp := lp) hk hl hes hnm r is q s hN (r2 h)
    refine ⟨p', (goT_sp1 hs hv ih).trans ?_⟩
    unfold valsAt
    rw [List.map_cons, hi]
theorem goT_assignList {env : Env} {x : Str} {q lp pos : Pos} {elts : List PySem.Expr} {p p' : Pos} {s s' : Sh} {vs : List Value} {N k : Nat} {es : List DictEntry} (hk : env.scope.kind = .class) (hl : env.locals = N) (hx : env.scope.names.lookup x = some .local)
    (h : goT prog w calls Γ (spliced (backTo lp (starEach elts env))) lp s = some (.ok vs, p', s')) (hsz : vs.length ≤ sizeLine) (hN : s'.get N = some (dictOf es k)) (hlt : N < s'.n) (hn : es.any (·.refKey) = false) (hnew : es.any (·.key.isStr x) = false) :
    goT prog w calls Γ (exec (.Assign [.Name x q] (.List elts lp) pos) env) p s = some (.ok .next, q, { s' with
      ov := put ((s'.n, { cls := .type "list", data := .seq vs.toArray }) :: s'.ov) N (dictOf (es ++ [⟨hs w x, .str x s'.t, .ref s'.n⟩]) (k + 1)), n := s'.n + 1, t := s'.t + 1 }) := by
  have e : exec (.Assign [.Name x q] (.List elts lp) pos) env = (do
      standAt pos
      let v ← (do standAt lp; newList (← spliced (backTo lp (starEach elts env))))
      (do standAt q; bindName env x v)
      pure .next) := by
    rfl
  have hN' : Sh.get ⟨s'.g, (s'.n, { cls := .type "list", data := .seq vs.toArray }) :: s'.ov, s'.n + 1, s'.t⟩ N = some (dictOf es k) := by
    have := get_push s' { cls := .type "list", data := .seq vs.toArray } s'.t N
    rw [if_neg (by lia)] at this
    exact this.trans hN
  rw [e, goT_seq (goT_standAt ..)]
  rw [goT_bind', goT_seq (goT_standAt ..)]
  rw [goT_seq (h ..)]
  rw [goT_newList hsz]; simp only [thenT]
  rw [goT_bind', goT_seq (goT_standAt ..)]
  rw [goT_bindName hk hl hx hN' hn, putL_new hnew, putN_new hnew]; simp only [thenT]
  rfl
theorem goT_assignL {env : Env} {x : Str} {q lp pos : Pos} {elts : List PySem.Expr} {p p' : Pos} {s s' : Sh} {vs : List Value} {N k : Nat} {es : List DictEntry} (hk : env.scope.kind = .class) (hl : env.locals = N) (hx : env.scope.names.lookup x = some .local)
    (h : goT prog w calls Γ (spliced (backTo lp (starEach elts env))) lp s = some (.ok vs, p', s')) (hsz : vs.length ≤ sizeLine) (hN : s'.get N = some (dictOf es k)) (hlt : N < s'.n) (hn : es.any (·.refKey) = false) (hnew : es.any (·.key.isStr x) = false) :
    ∃ s2, goT prog w calls Γ (exec (.Assign [.Name x q] (.List elts lp) pos) env) p s = some (.ok .next, q, s2) ∧ s2.n = s'.n + 1 ∧ s2.t = s'.t + 1 ∧
      ∀ a, s2.get a = if a = N then some (dictOf (es ++ [⟨hs w x, .str x s'.t, .ref s'.n⟩]) (k + 1)) else if a = s'.n then some { cls := .type "list", data := .seq vs.toArray } else s'.get a := by
  refine ⟨_, goT_assignList hk hl hx h hsz hN hlt hn hnew, rfl, rfl, fun a => ?_⟩
  unfold Sh.get
  simp only [look_put, look_cons]
  by_cases e1 : a = N
  · simp only [e1, if_true]
  · simp only [e1, if_false]
    by_cases e2 : a = s'.n
    · simp only [e2, if_true]
    · simp only [e2, if_false]
end
theorem goT_execs_app {prog : Program} {w : World} {calls : Ctx → Pos → Sh → Option (Result × Sh)} {Γ : Ctx} {env : Env} : ∀ (A B : List Stmt) {p p' : Pos} {s s' : Sh}, goT prog w calls Γ (execs A env) p s = some (.ok .next, p', s') → goT prog w calls Γ (execs (A ++ B) env) p s = goT prog w calls Γ (execs B env) p' s'
  | [], B, p, p', s, s', h => by
    cases h
    rfl
  | st :: A, B, p, p', s, s', h => by
    rw [arm_execs_cons, goT_bind'] at h
    cases e : goT prog w calls Γ (exec st env) p s with
    | none => rw [e] at h; cases h
    | some y =>
      obtain ⟨r, q, s1⟩ := y
      rw [e] at h
      cases r with
      | error v => cases h
      | ok f =>
        cases f with
        | next =>
          rw [List.cons_append, goT_execs_cons e]
          exact goT_execs_app A B h
        | brk => cases h
        | cont => cases h
        | ret v => cases h
theorem look_mem {a : Nat} {o : Obj} : ∀ {l : List (Nat × Obj)}, look l a = some o → (a, o) ∈ l
  | [], h => by cases h
  | x :: l, h => by
    obtain ⟨b, q⟩ := x
    rw [look_cons] at h
    split at h
    · rename_i e; cases h; subst e; exact .head _
    · exact .tail _ (look_mem h)
theorem ents_key {w : World} : ∀ {sts : List Stmt} {n t : Nat}, ∀ e ∈ ents w n t sts, ∃ st ∈ sts, ∃ u, e.key = .str (fName st) u
  | [], _, _, e, h => by cases h
  | st :: r, n, t, e, h => by
    rcases List.mem_cons.mp h with rfl | h
    · exact ⟨st, .head _, _, rfl⟩
    · obtain ⟨st', h1, u, h2⟩ := ents_key e h; exact ⟨st', .tail _ h1, u, h2⟩
theorem ovs_at {file qual : Str} {txt : Nat} {pm : Value} {bt : Nat} : ∀ {sts : List Stmt} {n t k : Nat} {st : Stmt}, sts[k]? = some st → ∀ x ∈ defOv (n + 7 * k) (toksOf t (sts.take k)) file (fName st) (qual ++ fName st) (fPos st).line txt (fArgs st) (fScope st) (fBody st) pm bt, x ∈ ovs file qual txt pm bt n t sts
  | [], _, _, _, _, h, _, _ => by cases h
  | st :: r, n, t, 0, st', h, x, hx => by cases h; exact List.mem_append_left _ hx
  | st :: r, n, t, k + 1, st', h, x, hx => by
    refine List.mem_append_right _ (ovs_at (k := k) h x ?_)
    rw [show n + 7 * (k + 1) = n + 7 + 7 * k by lia] at hx
    exact hx
end Mine.Go
end
section
open PySem PySem.W PyProof.Rows
namespace Mine.Go
open Sem (wp)
theorem top_runs {prog : Program} {w : World} {t : Sem Fin} {s : Shared} {f : Flow} {R : Shared → Prop} (hz : s.asleep)
    (h : wp (model prog w) (Ctx.of (.builtin "claim.caller" {}) []) t (fun fin _ s' => fin = .done f ∧ R s' ∧ s'.gens = #[]) (fun _ _ _ => False) default s) :
    ∃ s₁, (∃ n th, schedN (denote table) prog w n (.single s ⟨t, .builtin "claim.caller" {}, default, []⟩) = .running (.single s₁ th) ∧ through th = true) ∧ R s₁ := by
  have h' : wp (model prog w) ⟨.builtin "claim.caller" {}, none, none, [], none⟩ t (Sem.finPost (model prog w) ⟨.builtin "claim.caller" {}, none, none, [], none⟩ fun r s' => (fun _ _ => True) r s' ∧ leftWithCleanup s'.gens = false)
      (fun e _ s' => (fun _ _ => True) (Except.error e : Result) s' ∧ leftWithCleanup s'.gens = false) default s := by
    refine Sem.wp_mono _ _ _ (fun a p' s' q => ?_) (fun e p' s' q => q.elim) default s h
    obtain ⟨rfl, _, q⟩ := q
    exact ⟨trivial, by rw [q]; simp [leftWithCleanup]⟩
  obtain ⟨n₀, r, s₂, hn₀, _⟩ := (wp_iff_halts (M := model prog w) (R := fun _ _ => True) ..).mp h'
  obtain ⟨s₃, hr, hf, hc⟩ := runNI_real _ _ _ hn₀ (outcomeOf_ends r)
  have hne : ∀ k s₂, runN (denote table) prog w k s ⟨t, .builtin "claim.caller" {}, default, []⟩ ≠ .halted (.unsupported "lifetime:generator-with-cleanup-left-suspended") s₂ := by
    intro k s₂ hk
    have a := runN_mono (denote table) prog w n₀ k s _ _ s₃ hr
    have b := runN_mono (denote table) prog w k n₀ s _ _ s₂ hk
    rw [Nat.add_comm, b] at a
    injection a with a1 _
    exact absurd (outcomeOf_ends r) (by rw [← a1]; simp [Outcome.ends])
  obtain ⟨n, s', σ, p', leaf, hn, hfo, hl⟩ := wp_reaches h
  rcases hl with ⟨a, rfl, rfl, hR, hg⟩ | ⟨e, _, hE⟩
  · obtain rfl : σ = s' := Shared.eq_of_forget_eq hfo hg
    refine ⟨σ, ⟨n, _, (schedN_eq_runN (denote table) prog w s _ hz ⟨hc, hne⟩ n).trans (congrArg Run.lift hn), rfl⟩, hR⟩
  · exact hE.elim
end Mine.Go
end
section
open PySem PySem.W PyProof.Rows
namespace Mine.Go
open Sem (wp)
theorem calls_ok {prog : Program} {w : World} {s₀ : Shared} (n : Nat) : CallsOk (model prog w) s₀ (goC (denote treeTable) prog w n) := by
  have := goC_sound (prog := prog) (w := w) (den := denote treeTable) (s₀ := s₀) n
  rw [← table_eq_tree] at this ⊢
  exact this
theorem wp_go {M : Model} {s₀ : Shared} {calls : Ctx → Pos → Sh → Option (Result × Sh)} (hc : CallsOk M s₀ calls) {α : Type} {Γ : Ctx} {t : Sem α} {p p' : Pos} {s : Shared} {sh sh' : Sh} {a : α} {Q : α → Pos → Shared → Prop} {E : Value → Pos → Shared → Prop}
    (R : Rep s₀ s sh) (h : goT M.prog M.w calls Γ t p sh = some (.ok a, p', sh')) (k : ∀ s', Rep s₀ s' sh' → Q a p' s') : wp M Γ t Q E p s := by
  obtain ⟨s', R', H⟩ := goT_sound hc Γ t p s sh _ _ _ R h
  refine Sem.wp_mono M Γ t (fun b q s'' z => ?_) (fun e q s'' z => ?_) p s H
  · obtain ⟨z1, rfl, rfl⟩ := z; cases z1; exact k _ R'
  · cases z.1
theorem Rep.same {s₀ s : Shared} {sh sh' : Sh} (R : Rep s₀ s sh) (hn : sh'.n = sh.n) (ht : sh'.t = sh.t) (hg : ∀ a, sh'.get a = sh.get a) : Rep s₀ s sh' :=
  ⟨R.size.trans hn.symm, fun a => (R.get a).trans (hg a).symm, R.toks.trans ht.symm, R.life, R.gens, R.drawn, R.os⟩
theorem wp_body {M : Model} (hden : M.den = denote table) {Γ : Ctx} {B : List Stmt} {env : Env} {p : Pos} {s : Shared} {R : Result → Shared → Prop} (hΓ : Γ.code = .body B env) (hb : blockStart B env = pure ())
    (h : wp M Γ (execs B env) (fun f _ s' => R (.ok f) s') (fun _ _ _ => False) p s) : wpCode M Γ R p s := by
  rw [wpCode_iff_wp, hden, hΓ]
  show wp M Γ (do blockStart B env; return Fin.done (← (execs B env).onRaise (leaving env))) _ _ p s
  rw [hb]
  show wp M Γ ((execs B env).onRaise (leaving env) >>= fun f => pure (Fin.done f)) _ _ p s
  rw [Sem.wp_bind', Sem.wp_onRaise]
  exact Sem.wp_mono M Γ _ (fun f q s' z => z) (fun e q s' z => z.elim) p s h
theorem wp_execs_cons {M : Model} {Γ : Ctx} {st : Stmt} {rest : List Stmt} {env : Env} {Q : Flow → Pos → Shared → Prop} {E : Value → Pos → Shared → Prop} {p : Pos} {s : Shared}
    (h : wp M Γ (exec st env) (fun f p' s' => f = .next ∧ wp M Γ (execs rest env) Q E p' s') E p s) : wp M Γ (execs (st :: rest) env) Q E p s := by
  rw [arm_execs_cons, Sem.wp_bind']
  refine Sem.wp_mono M Γ _ (fun f q s' z => ?_) (fun e q s' z => z) p s h
  obtain ⟨rfl, z⟩ := z
  exact z
theorem wp_run {M : Model} {Γ : Ctx} {c : Code} {Q : Flow → Pos → Shared → Prop} {E : Value → Pos → Shared → Prop} {p : Pos} {s : Shared} (h : wpCode M (Γ.enter c none p) (fun r s' => match r with | .ok f => Q f p s' | .error e => E e p s') p s) : wp M Γ (run c) Q E p s := by
  unfold run
  rw [Sem.wp_call]
  exact wpCode_mono (fun r s' z => by cases r <;> exact z) h
end Mine.Go
end
section
open PySem PySem.W PyProof.Rows
namespace Mine.Hd
open Mine.Go Mine.Dx
section
noncomputable abbrev P := PySem.Challenge.pw_lq0012_03
noncomputable def st2 : Stmt := (P.main.body.drop 2).headD (.Pass default)
noncomputable def clsBody : List Stmt := ((atS 10 st2).map fun x => x.2.2.2.1).getD []
noncomputable def clsScope : Scope := ((atS 10 st2).map fun x => x.2.2.2.2.2.2.1).getD noScope
noncomputable def bootL (Q : Params) : List (Nat × Obj) := [(0, boot_o_0 Q), (1, boot_o_1 Q), (2, boot_o_2 Q), (3, boot_o_3 Q), (4, boot_o_4 Q), (5, boot_o_5 Q), (6, boot_o_6 Q), (7, boot_o_7 Q), (8, boot_o_8 Q), (9, boot_o_9 Q), (10, boot_o_10 Q)]
noncomputable def sh0 (w : World) : Sh := ⟨fun a => look (bootL w.params) a, [], 11, boot_toks⟩
noncomputable def Γ0 : Ctx := Ctx.of (.builtin "claim.caller" {}) []
noncomputable def envM : Env := { scope := P.main.scope, locals := mainNs, globals := mainNs, cells := [], code := .ref 13, frame := some 14 }
noncomputable def ΓM : Ctx := Γ0.enter (.body (behindTheImports P) envM) none default
noncomputable def preT : Sem (Value × Addr) := do
  let code ← moduleCode P.main
  let frame ← newBodyFrame code mainNs mainNs
  pure (code, frame)
noncomputable abbrev calls (w : World) := goC (denote treeTable) P w 30
noncomputable def shA (w : World) : Sh := match goT P w (calls w) Γ0 preT default (sh0 w) with | some y => y.2.2 | none => sh0 w
noncomputable def two : List Stmt := P.main.body.take 2
noncomputable def restT : List Stmt := P.main.body.drop 3
noncomputable def shB (w : World) : Sh := match goT P w (calls w) ΓM (execs two envM) default (shA w) with | some y => y.2.2 | none => sh0 w
noncomputable def pB (w : World) : Pos := match goT P w (calls w) ΓM (execs two envM) default (shA w) with | some y => y.2.1 | none => default
noncomputable def envC : Env := { scope := clsScope, locals := 24, globals := mainNs, qual := "MPU.", code := .ref 27, frame := some 28, builtins := builtinsNs, cells := [] }
noncomputable def isBody : Code → Bool | .body .. => true | _ => false
noncomputable def posC : Pos := ((atS 10 st2).map fun x => x.2.2.2.2.2.2.2.2.2.2).getD default
noncomputable def ΓC : Ctx := ΓM.enter (.body clsBody envC) none posC
noncomputable def fileS : Str := "/claim/cut.py"
noncomputable def pmC : Value := .str "py65.devices.mpu6502" 194
noncomputable def stM (k : Nat) : Stmt := (P.main.body.drop k).headD (.Pass default)
noncomputable def gO (w : World) : Obj := Obj.putName "__name__" (hs w "__name__") (.str "__name__" 195) pmC (Obj.putName "_wall" (hs w "_wall") (.str "_wall" 193) (.ref 21) (boot_o_3 w.params))
noncomputable def cvC : Array Value := [Value.str "MPU" 198, .str "MPU" 199, .str fileS 200, rawInt 5, rawInt 0, rawInt 0, rawInt 0, rawInt 0, .ref 25, .bool false, rawInt 181, .ref 26, .none, .none, .none, .none, rawInt 201, rawInt 5, .str fileS 202].toArray
noncomputable def baseOv (w : World) (n d : Obj) : List (Nat × Obj) :=
  [(28, { cls := .type "frame", data := .plain, slots := #[some (.ref 27), some (.ref 3), some (.ref 24), none, some pmC, none, some (.ref 0)] }),
  (27, { cls := .type "code", data := .fields cvC }), (26, d), (25, tupO []), (24, n), (23, { cls := .type "builtin_function_or_method", data := .fields #[.builtin "type.__prepare__", .type "type"] }), (22, tupO [])] ++
  defOv 15 187 fileS "_wall" "_wall" 1 181 (fArgs (stM 0)) (fScope (stM 0)) (fBody (stM 0)) (.str "__main__" 164) builtinsNs ++
  [(14, { cls := .type "frame", data := .plain, slots := #[some (.ref 13), some (.ref 3), some (.ref 3), none, some (.str "__main__" 164), none, some (.ref 0)] }),
  (13, { cls := .type "code", data := .fields #[.str "<module>" 182, .str "<module>" 183, .str fileS 184, rawInt 1, rawInt 0, rawInt 0, rawInt 0, rawInt 0, .ref 11, .bool false, rawInt 181, .ref 12, .none, .none, .none, .none, rawInt 185, rawInt 1, .str fileS 186] }),
  (12, recO (tabOf [(1, 0, .ref 20), (5, 0, .ref 27)])), (11, tupO []), (3, gO w)]
noncomputable def hints : List Nat := Mine.Tw.idx.map (· + 3)
noncomputable def ns3 (w : World) : List DictEntry := [⟨hs w "__module__", .str "__module__" 203, .str "py65.devices.mpu6502" 194⟩, ⟨hs w "__qualname__", .str "__qualname__" 205, .str "MPU" 204⟩, ⟨hs w "__firstlineno__", .str "__firstlineno__" 207, .int 5 206⟩]
noncomputable def ns19 (w : World) : List DictEntry := [⟨hs w "__module__", .str "__module__" 203, .str "py65.devices.mpu6502" 194⟩,
  ⟨hs w "__qualname__", .str "__qualname__" 205, .str "MPU" 204⟩,
  ⟨hs w "__firstlineno__", .str "__firstlineno__" 207, .int 5 206⟩,
  ⟨hs w "RESET", .str "RESET" 209, .int 65532 208⟩,
  ⟨hs w "NMI", .str "NMI" 211, .int 65530 210⟩,
  ⟨hs w "IRQ", .str "IRQ" 213, .int 65534 212⟩,
  ⟨hs w "NEGATIVE", .str "NEGATIVE" 215, .int 128 214⟩,
  ⟨hs w "OVERFLOW", .str "OVERFLOW" 217, .int 64 216⟩,
  ⟨hs w "UNUSED", .str "UNUSED" 219, .int 32 218⟩,
  ⟨hs w "BREAK", .str "BREAK" 221, .int 16 220⟩,
  ⟨hs w "DECIMAL", .str "DECIMAL" 223, .int 8 222⟩,
  ⟨hs w "INTERRUPT", .str "INTERRUPT" 225, .int 4 224⟩,
  ⟨hs w "ZERO", .str "ZERO" 227, .int 2 226⟩,
  ⟨hs w "CARRY", .str "CARRY" 229, .int 1 228⟩,
  ⟨hs w "BYTE_WIDTH", .str "BYTE_WIDTH" 231, .int 8 230⟩,
  ⟨hs w "BYTE_FORMAT", .str "BYTE_FORMAT" 233, .str "%02x" 232⟩,
  ⟨hs w "ADDR_WIDTH", .str "ADDR_WIDTH" 235, .int 16 234⟩,
  ⟨hs w "ADDR_FORMAT", .str "ADDR_FORMAT" 237, .str "%04x" 236⟩,
  ⟨hs w "__init__", .str "__init__" 247, .ref 36⟩]
noncomputable def nsCL (w : World) : List DictEntry := [⟨hs w "__module__", .str "__module__" 203, .str "py65.devices.mpu6502" 194⟩,
  ⟨hs w "__firstlineno__", .str "__firstlineno__" 207, .int 5 206⟩,
  ⟨hs w "RESET", .str "RESET" 209, .int 65532 208⟩,
  ⟨hs w "NMI", .str "NMI" 211, .int 65530 210⟩,
  ⟨hs w "IRQ", .str "IRQ" 213, .int 65534 212⟩,
  ⟨hs w "NEGATIVE", .str "NEGATIVE" 215, .int 128 214⟩,
  ⟨hs w "OVERFLOW", .str "OVERFLOW" 217, .int 64 216⟩,
  ⟨hs w "UNUSED", .str "UNUSED" 219, .int 32 218⟩,
  ⟨hs w "BREAK", .str "BREAK" 221, .int 16 220⟩,
  ⟨hs w "DECIMAL", .str "DECIMAL" 223, .int 8 222⟩,
  ⟨hs w "INTERRUPT", .str "INTERRUPT" 225, .int 4 224⟩,
  ⟨hs w "ZERO", .str "ZERO" 227, .int 2 226⟩,
  ⟨hs w "CARRY", .str "CARRY" 229, .int 1 228⟩,
  ⟨hs w "BYTE_WIDTH", .str "BYTE_WIDTH" 231, .int 8 230⟩,
  ⟨hs w "BYTE_FORMAT", .str "BYTE_FORMAT" 233, .str "%02x" 232⟩,
  ⟨hs w "ADDR_WIDTH", .str "ADDR_WIDTH" 235, .int 16 234⟩,
  ⟨hs w "ADDR_FORMAT", .str "ADDR_FORMAT" 237, .str "%04x" 236⟩,
  ⟨hs w "__init__", .str "__init__" 247, .ref 36⟩,
  ⟨hs w "step", .str "step" 255, .ref 43⟩,
  ⟨hs w "reset", .str "reset" 262, .ref 50⟩,
  ⟨hs w "irq", .str "irq" 269, .ref 57⟩,
  ⟨hs w "nmi", .str "nmi" 276, .ref 64⟩,
  ⟨hs w "ByteAt", .str "ByteAt" 284, .ref 71⟩,
  ⟨hs w "WordAt", .str "WordAt" 292, .ref 78⟩,
  ⟨hs w "WrapAt", .str "WrapAt" 302, .ref 85⟩,
  ⟨hs w "ProgramCounter", .str "ProgramCounter" 309, .ref 92⟩,
  ⟨hs w "ImmediateByte", .str "ImmediateByte" 316, .ref 99⟩,
  ⟨hs w "ZeroPageAddr", .str "ZeroPageAddr" 323, .ref 106⟩,
  ⟨hs w "ZeroPageXAddr", .str "ZeroPageXAddr" 330, .ref 113⟩,
  ⟨hs w "ZeroPageYAddr", .str "ZeroPageYAddr" 337, .ref 120⟩,
  ⟨hs w "IndirectXAddr", .str "IndirectXAddr" 344, .ref 127⟩,
  ⟨hs w "IndirectYAddr", .str "IndirectYAddr" 353, .ref 134⟩,
  ⟨hs w "AbsoluteAddr", .str "AbsoluteAddr" 360, .ref 141⟩,
  ⟨hs w "AbsoluteXAddr", .str "AbsoluteXAddr" 369, .ref 148⟩,
  ⟨hs w "AbsoluteYAddr", .str "AbsoluteYAddr" 378, .ref 155⟩,
  ⟨hs w "BranchRelAddr", .str "BranchRelAddr" 386, .ref 162⟩,
  ⟨hs w "stPush", .str "stPush" 394, .ref 169⟩,
  ⟨hs w "stPop", .str "stPop" 401, .ref 176⟩,
  ⟨hs w "stPushWord", .str "stPushWord" 409, .ref 183⟩,
  ⟨hs w "stPopWord", .str "stPopWord" 417, .ref 190⟩,
  ⟨hs w "FlagsNZ", .str "FlagsNZ" 425, .ref 197⟩,
  ⟨hs w "opORA", .str "opORA" 433, .ref 204⟩,
  ⟨hs w "opASL", .str "opASL" 443, .ref 211⟩,
  ⟨hs w "opLSR", .str "opLSR" 453, .ref 218⟩,
  ⟨hs w "opBCL", .str "opBCL" 461, .ref 225⟩,
  ⟨hs w "opBST", .str "opBST" 469, .ref 232⟩,
  ⟨hs w "opCLR", .str "opCLR" 477, .ref 239⟩,
  ⟨hs w "opSET", .str "opSET" 485, .ref 246⟩,
  ⟨hs w "opAND", .str "opAND" 493, .ref 253⟩,
  ⟨hs w "opBIT", .str "opBIT" 502, .ref 260⟩,
  ⟨hs w "opROL", .str "opROL" 512, .ref 267⟩,
  ⟨hs w "opEOR", .str "opEOR" 520, .ref 274⟩,
  ⟨hs w "opADC", .str "opADC" 538, .ref 281⟩,
  ⟨hs w "opROR", .str "opROR" 548, .ref 288⟩,
  ⟨hs w "opSTA", .str "opSTA" 556, .ref 295⟩,
  ⟨hs w "opSTY", .str "opSTY" 564, .ref 302⟩,
  ⟨hs w "opSTX", .str "opSTX" 572, .ref 309⟩,
  ⟨hs w "opCMPR", .str "opCMPR" 582, .ref 316⟩,
  ⟨hs w "opSBC", .str "opSBC" 599, .ref 323⟩,
  ⟨hs w "opDECR", .str "opDECR" 609, .ref 330⟩,
  ⟨hs w "opINCR", .str "opINCR" 619, .ref 337⟩,
  ⟨hs w "opLDA", .str "opLDA" 627, .ref 344⟩,
  ⟨hs w "opLDY", .str "opLDY" 635, .ref 351⟩,
  ⟨hs w "opLDX", .str "opLDX" 643, .ref 358⟩,
  ⟨hs w "inst_not_implemented", .str "inst_not_implemented" 650, .ref 365⟩,
  ⟨hs w "inst_0x00", .str "inst_0x00" 658, .ref 372⟩,
  ⟨hs w "inst_0x01", .str "inst_0x01" 665, .ref 379⟩,
  ⟨hs w "inst_0x05", .str "inst_0x05" 672, .ref 386⟩,
  ⟨hs w "inst_0x06", .str "inst_0x06" 679, .ref 393⟩,
  ⟨hs w "inst_0x08", .str "inst_0x08" 686, .ref 400⟩,
  ⟨hs w "inst_0x09", .str "inst_0x09" 693, .ref 407⟩,
  ⟨hs w "inst_0x0a", .str "inst_0x0a" 700, .ref 414⟩,
  ⟨hs w "inst_0x0d", .str "inst_0x0d" 707, .ref 421⟩,
  ⟨hs w "inst_0x0e", .str "inst_0x0e" 714, .ref 428⟩,
  ⟨hs w "inst_0x10", .str "inst_0x10" 721, .ref 435⟩,
  ⟨hs w "inst_0x11", .str "inst_0x11" 728, .ref 442⟩,
  ⟨hs w "inst_0x15", .str "inst_0x15" 735, .ref 449⟩,
  ⟨hs w "inst_0x16", .str "inst_0x16" 742, .ref 456⟩,
  ⟨hs w "inst_0x18", .str "inst_0x18" 749, .ref 463⟩,
  ⟨hs w "inst_0x19", .str "inst_0x19" 756, .ref 470⟩,
  ⟨hs w "inst_0x1d", .str "inst_0x1d" 763, .ref 477⟩,
  ⟨hs w "inst_0x1e", .str "inst_0x1e" 770, .ref 484⟩,
  ⟨hs w "inst_0x20", .str "inst_0x20" 777, .ref 491⟩,
  ⟨hs w "inst_0x21", .str "inst_0x21" 784, .ref 498⟩,
  ⟨hs w "inst_0x24", .str "inst_0x24" 791, .ref 505⟩,
  ⟨hs w "inst_0x25", .str "inst_0x25" 798, .ref 512⟩,
  ⟨hs w "inst_0x26", .str "inst_0x26" 805, .ref 519⟩,
  ⟨hs w "inst_0x28", .str "inst_0x28" 812, .ref 526⟩,
  ⟨hs w "inst_0x29", .str "inst_0x29" 819, .ref 533⟩,
  ⟨hs w "inst_0x2a", .str "inst_0x2a" 826, .ref 540⟩,
  ⟨hs w "inst_0x2c", .str "inst_0x2c" 833, .ref 547⟩,
  ⟨hs w "inst_0x2d", .str "inst_0x2d" 840, .ref 554⟩,
  ⟨hs w "inst_0x2e", .str "inst_0x2e" 847, .ref 561⟩,
  ⟨hs w "inst_0x30", .str "inst_0x30" 854, .ref 568⟩,
  ⟨hs w "inst_0x31", .str "inst_0x31" 861, .ref 575⟩,
  ⟨hs w "inst_0x35", .str "inst_0x35" 868, .ref 582⟩,
  ⟨hs w "inst_0x36", .str "inst_0x36" 875, .ref 589⟩,
  ⟨hs w "inst_0x38", .str "inst_0x38" 882, .ref 596⟩,
  ⟨hs w "inst_0x39", .str "inst_0x39" 889, .ref 603⟩,
  ⟨hs w "inst_0x3d", .str "inst_0x3d" 896, .ref 610⟩,
  ⟨hs w "inst_0x3e", .str "inst_0x3e" 903, .ref 617⟩,
  ⟨hs w "inst_0x40", .str "inst_0x40" 910, .ref 624⟩,
  ⟨hs w "inst_0x41", .str "inst_0x41" 917, .ref 631⟩,
  ⟨hs w "inst_0x45", .str "inst_0x45" 924, .ref 638⟩,
  ⟨hs w "inst_0x46", .str "inst_0x46" 931, .ref 645⟩,
  ⟨hs w "inst_0x48", .str "inst_0x48" 938, .ref 652⟩,
  ⟨hs w "inst_0x49", .str "inst_0x49" 945, .ref 659⟩,
  ⟨hs w "inst_0x4a", .str "inst_0x4a" 952, .ref 666⟩,
  ⟨hs w "inst_0x4c", .str "inst_0x4c" 959, .ref 673⟩,
  ⟨hs w "inst_0x4d", .str "inst_0x4d" 966, .ref 680⟩,
  ⟨hs w "inst_0x4e", .str "inst_0x4e" 973, .ref 687⟩,
  ⟨hs w "inst_0x50", .str "inst_0x50" 980, .ref 694⟩,
  ⟨hs w "inst_0x51", .str "inst_0x51" 987, .ref 701⟩,
  ⟨hs w "inst_0x55", .str "inst_0x55" 994, .ref 708⟩,
  ⟨hs w "inst_0x56", .str "inst_0x56" 1001, .ref 715⟩,
  ⟨hs w "inst_0x58", .str "inst_0x58" 1008, .ref 722⟩,
  ⟨hs w "inst_0x59", .str "inst_0x59" 1015, .ref 729⟩,
  ⟨hs w "inst_0x5d", .str "inst_0x5d" 1022, .ref 736⟩,
  ⟨hs w "inst_0x5e", .str "inst_0x5e" 1029, .ref 743⟩,
  ⟨hs w "inst_0x60", .str "inst_0x60" 1036, .ref 750⟩,
  ⟨hs w "inst_0x61", .str "inst_0x61" 1043, .ref 757⟩,
  ⟨hs w "inst_0x65", .str "inst_0x65" 1050, .ref 764⟩,
  ⟨hs w "inst_0x66", .str "inst_0x66" 1057, .ref 771⟩,
  ⟨hs w "inst_0x68", .str "inst_0x68" 1064, .ref 778⟩,
  ⟨hs w "inst_0x69", .str "inst_0x69" 1071, .ref 785⟩,
  ⟨hs w "inst_0x6a", .str "inst_0x6a" 1078, .ref 792⟩,
  ⟨hs w "inst_0x6c", .str "inst_0x6c" 1086, .ref 799⟩,
  ⟨hs w "inst_0x6d", .str "inst_0x6d" 1093, .ref 806⟩,
  ⟨hs w "inst_0x6e", .str "inst_0x6e" 1100, .ref 813⟩,
  ⟨hs w "inst_0x70", .str "inst_0x70" 1107, .ref 820⟩,
  ⟨hs w "inst_0x71", .str "inst_0x71" 1114, .ref 827⟩,
  ⟨hs w "inst_0x75", .str "inst_0x75" 1121, .ref 834⟩,
  ⟨hs w "inst_0x76", .str "inst_0x76" 1128, .ref 841⟩,
  ⟨hs w "inst_0x78", .str "inst_0x78" 1135, .ref 848⟩,
  ⟨hs w "inst_0x79", .str "inst_0x79" 1142, .ref 855⟩,
  ⟨hs w "inst_0x7d", .str "inst_0x7d" 1149, .ref 862⟩,
  ⟨hs w "inst_0x7e", .str "inst_0x7e" 1156, .ref 869⟩,
  ⟨hs w "inst_0x81", .str "inst_0x81" 1163, .ref 876⟩,
  ⟨hs w "inst_0x84", .str "inst_0x84" 1170, .ref 883⟩,
  ⟨hs w "inst_0x85", .str "inst_0x85" 1177, .ref 890⟩,
  ⟨hs w "inst_0x86", .str "inst_0x86" 1184, .ref 897⟩,
  ⟨hs w "inst_0x88", .str "inst_0x88" 1191, .ref 904⟩,
  ⟨hs w "inst_0x8a", .str "inst_0x8a" 1198, .ref 911⟩,
  ⟨hs w "inst_0x8c", .str "inst_0x8c" 1205, .ref 918⟩,
  ⟨hs w "inst_0x8d", .str "inst_0x8d" 1212, .ref 925⟩,
  ⟨hs w "inst_0x8e", .str "inst_0x8e" 1219, .ref 932⟩,
  ⟨hs w "inst_0x90", .str "inst_0x90" 1226, .ref 939⟩,
  ⟨hs w "inst_0x91", .str "inst_0x91" 1233, .ref 946⟩,
  ⟨hs w "inst_0x94", .str "inst_0x94" 1240, .ref 953⟩,
  ⟨hs w "inst_0x95", .str "inst_0x95" 1247, .ref 960⟩,
  ⟨hs w "inst_0x96", .str "inst_0x96" 1254, .ref 967⟩,
  ⟨hs w "inst_0x98", .str "inst_0x98" 1261, .ref 974⟩,
  ⟨hs w "inst_0x99", .str "inst_0x99" 1268, .ref 981⟩,
  ⟨hs w "inst_0x9a", .str "inst_0x9a" 1275, .ref 988⟩,
  ⟨hs w "inst_0x9d", .str "inst_0x9d" 1282, .ref 995⟩,
  ⟨hs w "inst_0xa0", .str "inst_0xa0" 1289, .ref 1002⟩,
  ⟨hs w "inst_0xa1", .str "inst_0xa1" 1296, .ref 1009⟩,
  ⟨hs w "inst_0xa2", .str "inst_0xa2" 1303, .ref 1016⟩,
  ⟨hs w "inst_0xa4", .str "inst_0xa4" 1310, .ref 1023⟩,
  ⟨hs w "inst_0xa5", .str "inst_0xa5" 1317, .ref 1030⟩,
  ⟨hs w "inst_0xa6", .str "inst_0xa6" 1324, .ref 1037⟩,
  ⟨hs w "inst_0xa8", .str "inst_0xa8" 1331, .ref 1044⟩,
  ⟨hs w "inst_0xa9", .str "inst_0xa9" 1338, .ref 1051⟩,
  ⟨hs w "inst_0xaa", .str "inst_0xaa" 1345, .ref 1058⟩,
  ⟨hs w "inst_0xac", .str "inst_0xac" 1352, .ref 1065⟩,
  ⟨hs w "inst_0xad", .str "inst_0xad" 1359, .ref 1072⟩,
  ⟨hs w "inst_0xae", .str "inst_0xae" 1366, .ref 1079⟩,
  ⟨hs w "inst_0xb0", .str "inst_0xb0" 1373, .ref 1086⟩,
  ⟨hs w "inst_0xb1", .str "inst_0xb1" 1380, .ref 1093⟩,
  ⟨hs w "inst_0xb4", .str "inst_0xb4" 1387, .ref 1100⟩,
  ⟨hs w "inst_0xb5", .str "inst_0xb5" 1394, .ref 1107⟩,
  ⟨hs w "inst_0xb6", .str "inst_0xb6" 1401, .ref 1114⟩,
  ⟨hs w "inst_0xb8", .str "inst_0xb8" 1408, .ref 1121⟩,
  ⟨hs w "inst_0xb9", .str "inst_0xb9" 1415, .ref 1128⟩,
  ⟨hs w "inst_0xba", .str "inst_0xba" 1422, .ref 1135⟩,
  ⟨hs w "inst_0xbc", .str "inst_0xbc" 1429, .ref 1142⟩,
  ⟨hs w "inst_0xbd", .str "inst_0xbd" 1436, .ref 1149⟩,
  ⟨hs w "inst_0xbe", .str "inst_0xbe" 1443, .ref 1156⟩,
  ⟨hs w "inst_0xc0", .str "inst_0xc0" 1450, .ref 1163⟩,
  ⟨hs w "inst_0xc1", .str "inst_0xc1" 1457, .ref 1170⟩,
  ⟨hs w "inst_0xc4", .str "inst_0xc4" 1464, .ref 1177⟩,
  ⟨hs w "inst_0xc5", .str "inst_0xc5" 1471, .ref 1184⟩,
  ⟨hs w "inst_0xc6", .str "inst_0xc6" 1478, .ref 1191⟩,
  ⟨hs w "inst_0xc8", .str "inst_0xc8" 1485, .ref 1198⟩,
  ⟨hs w "inst_0xc9", .str "inst_0xc9" 1492, .ref 1205⟩,
  ⟨hs w "inst_0xca", .str "inst_0xca" 1499, .ref 1212⟩,
  ⟨hs w "inst_0xcc", .str "inst_0xcc" 1506, .ref 1219⟩,
  ⟨hs w "inst_0xcd", .str "inst_0xcd" 1513, .ref 1226⟩,
  ⟨hs w "inst_0xce", .str "inst_0xce" 1520, .ref 1233⟩,
  ⟨hs w "inst_0xd0", .str "inst_0xd0" 1527, .ref 1240⟩,
  ⟨hs w "inst_0xd1", .str "inst_0xd1" 1534, .ref 1247⟩,
  ⟨hs w "inst_0xd5", .str "inst_0xd5" 1541, .ref 1254⟩,
  ⟨hs w "inst_0xd6", .str "inst_0xd6" 1548, .ref 1261⟩,
  ⟨hs w "inst_0xd8", .str "inst_0xd8" 1555, .ref 1268⟩,
  ⟨hs w "inst_0xd9", .str "inst_0xd9" 1562, .ref 1275⟩,
  ⟨hs w "inst_0xdd", .str "inst_0xdd" 1569, .ref 1282⟩,
  ⟨hs w "inst_0xde", .str "inst_0xde" 1576, .ref 1289⟩,
  ⟨hs w "inst_0xe0", .str "inst_0xe0" 1583, .ref 1296⟩,
  ⟨hs w "inst_0xe1", .str "inst_0xe1" 1590, .ref 1303⟩,
  ⟨hs w "inst_0xe4", .str "inst_0xe4" 1597, .ref 1310⟩,
  ⟨hs w "inst_0xe5", .str "inst_0xe5" 1604, .ref 1317⟩,
  ⟨hs w "inst_0xe6", .str "inst_0xe6" 1611, .ref 1324⟩,
  ⟨hs w "inst_0xe8", .str "inst_0xe8" 1618, .ref 1331⟩,
  ⟨hs w "inst_0xe9", .str "inst_0xe9" 1625, .ref 1338⟩,
  ⟨hs w "inst_0xea", .str "inst_0xea" 1632, .ref 1345⟩,
  ⟨hs w "inst_0xec", .str "inst_0xec" 1639, .ref 1352⟩,
  ⟨hs w "inst_0xed", .str "inst_0xed" 1646, .ref 1359⟩,
  ⟨hs w "inst_0xee", .str "inst_0xee" 1653, .ref 1366⟩,
  ⟨hs w "inst_0xf0", .str "inst_0xf0" 1660, .ref 1373⟩,
  ⟨hs w "inst_0xf1", .str "inst_0xf1" 1667, .ref 1380⟩,
  ⟨hs w "inst_0xf5", .str "inst_0xf5" 1674, .ref 1387⟩,
  ⟨hs w "inst_0xf6", .str "inst_0xf6" 1681, .ref 1394⟩,
  ⟨hs w "inst_0xf8", .str "inst_0xf8" 1688, .ref 1401⟩,
  ⟨hs w "inst_0xf9", .str "inst_0xf9" 1695, .ref 1408⟩,
  ⟨hs w "inst_0xfd", .str "inst_0xfd" 1702, .ref 1415⟩,
  ⟨hs w "inst_0xfe", .str "inst_0xfe" 1709, .ref 1422⟩,
  ⟨hs w "instruct", .str "instruct" 1710, .ref 1423⟩,
  ⟨hs w "cycletime", .str "cycletime" 1967, .ref 1424⟩,
  ⟨hs w "extracycles", .str "extracycles" 2224, .ref 1425⟩,
  ⟨hs w "__static_attributes__", .str "__static_attributes__" 2241, .ref 1426⟩,
  ⟨hs w "__dict__", .str "__dict__" 2243, .ref 1429⟩,
  ⟨hs w "__weakref__", .str "__weakref__" 2245, .ref 1430⟩,
  ⟨hs w "__doc__", .str "__doc__" 2246, .none⟩]
noncomputable def mainL (w : World) : List DictEntry := [⟨hs w "__name__", .str "__name__" 165, .str "law_lq0012_03" 2249⟩,
  ⟨hs w "__doc__", .str "__doc__" 166, .none⟩,
  ⟨hs w "__package__", .str "__package__" 167, .none⟩,
  ⟨hs w "__loader__", .str "__loader__" 168, .builtin "__main__.__loader__#opaque"⟩,
  ⟨hs w "__spec__", .str "__spec__" 169, .none⟩,
  ⟨hs w "__annotations__", .str "__annotations__" 170, .ref 6⟩,
  ⟨hs w "__builtins__", .str "__builtins__" 171, .ref 4⟩,
  ⟨hs w "__file__", .str "__file__" 173, .str "/claim/cut.py" 172⟩,
  ⟨hs w "__cached__", .str "__cached__" 174, .none⟩,
  ⟨hs w "_wall", .str "_wall" 193, .ref 21⟩,
  ⟨hs w "MPU", .str "MPU" 2248, .ref 1428⟩,
  ⟨hs w "_law_word", .str "_law_word" 2257, .ref 1439⟩,
  ⟨hs w "_law_plan", .str "_law_plan" 2272, .ref 1446⟩,
  ⟨hs w "_law_pointer", .str "_law_pointer" 2282, .ref 1453⟩,
  ⟨hs w "_law_block", .str "_law_block" 2304, .ref 1460⟩,
  ⟨hs w "_law_signed", .str "_law_signed" 2311, .ref 1467⟩,
  ⟨hs w "_law_taken", .str "_law_taken" 2323, .ref 1474⟩,
  ⟨hs w "_law_lay", .str "_law_lay" 2333, .ref 1481⟩,
  ⟨hs w "law", .str "law" 2339, .ref 1486⟩]
noncomputable def clsO : Obj := { cls := .type "type", data := .cls { name := "MPU", bases := [.type "object"], mro := [.ref 1428, .type "object"], ns := 1427, qualname := "MPU" }, slots := #[none, none, some (.str "MPU" 196), some (.str "MPU" 204), some (.builtin "object.__new__"), some (.bool true)] }
noncomputable def nsCO (w : World) : Obj := dictOf (nsCL w) 4
noncomputable def mainO (w : World) : Obj := dictOf (mainL w) 19
noncomputable def defs : List Stmt := (clsBody.drop 16).take 198
noncomputable def ini : Stmt := (clsBody.drop 15).headD (.Pass default)
noncomputable def fnsOf (n : Nat) : List Stmt → List (Nat × Obj)
  | [] => []
  | st :: r => (n + 6, fnO n (fName st) ("MPU." ++ fName st) (fArgs st) (fScope st) (fBody st) .none pmC builtinsNs) :: fnsOf (n + 7) r
noncomputable def elts (k : Nat) : List PySem.Expr := ((clsBody.drop k).head?.bind fun s => (atS 0 s).bind fun x => (atE 11 x.2.1).map fun y => y.1).getD []
noncomputable def listO (vs : List Value) : Obj := { cls := .type "list", data := .seq vs.toArray }
noncomputable def cycL : List Int := [7, 6, 0, 0, 0, 3, 5, 0, 3, 2, 2, 0, 0, 4, 6, 0, 2, 5, 0, 0, 0, 4, 6, 0, 2, 4, 0, 0, 0, 4, 7, 0, 6, 6, 0, 0, 3, 3, 5, 0, 4, 2, 2, 0, 4, 4, 6, 0, 2, 5, 0, 0, 0, 4, 6, 0, 2, 4, 0, 0, 0, 4, 7, 0, 6, 6, 0, 0, 0, 3, 5, 0, 3, 2, 2, 0, 3, 4, 6, 0, 2, 5, 0, 0, 0, 4, 6, 0, 2, 4, 0, 0, 0, 4, 7, 0, 6, 6, 0, 0, 0, 3, 5, 0, 4, 2, 2, 0, 5, 4, 6, 0, 2, 5, 0, 0, 0, 4, 6, 0, 2, 4, 0, 0, 0, 4, 7, 0, 0, 6, 0, 0, 3, 3, 3, 0, 2, 0, 2, 0, 4, 4, 4, 0, 2, 6, 0, 0, 4, 4, 4, 0, 2, 5, 2, 0, 0, 5, 0, 0, 2, 6, 2, 0, 3, 3, 3, 0, 2, 2, 2, 0, 4, 4, 4, 0, 2, 5, 0, 0, 4, 4, 4, 0, 2, 4, 2, 0, 4, 4, 4, 0, 2, 6, 0, 0, 3, 3, 5, 0, 2, 2, 2, 0, 4, 4, 3, 0, 2, 5, 0, 0, 0, 4, 6, 0, 2, 4, 0, 0, 0, 4, 7, 0, 2, 6, 0, 0, 3, 3, 5, 0, 2, 2, 2, 0, 4, 4, 6, 0, 2, 5, 0, 0, 0, 4, 6, 0, 2, 4, 0, 0, 0, 4, 7, 0]
noncomputable def extL : List Int := [0, 0, 0, 0, 0, 0, 0, 0, 0, 0, 0, 0, 0, 0, 0, 0, 2, 1, 0, 0, 0, 0, 0, 0, 0, 1, 0, 0, 0, 1, 0, 0, 0, 0, 0, 0, 0, 0, 0, 0, 0, 0, 0, 0, 0, 0, 0, 0, 2, 1, 0, 0, 0, 0, 0, 0, 0, 1, 0, 0, 0, 1, 0, 0, 0, 0, 0, 0, 0, 0, 0, 0, 0, 0, 0, 0, 0, 0, 0, 0, 2, 1, 0, 0, 0, 0, 0, 0, 0, 1, 0, 0, 0, 1, 0, 0, 0, 0, 0, 0, 0, 0, 0, 0, 0, 0, 0, 0, 0, 0, 0, 0, 2, 1, 0, 0, 0, 0, 0, 0, 0, 1, 0, 0, 0, 1, 0, 0, 0, 0, 0, 0, 0, 0, 0, 0, 0, 0, 0, 0, 0, 0, 0, 0, 2, 0, 0, 0, 0, 0, 0, 0, 0, 0, 0, 0, 0, 0, 0, 0, 0, 0, 0, 0, 0, 0, 0, 0, 0, 0, 0, 0, 0, 0, 0, 0, 2, 1, 0, 0, 0, 0, 0, 0, 0, 1, 0, 0, 1, 1, 1, 0, 0, 0, 0, 0, 0, 0, 0, 0, 0, 0, 0, 0, 0, 0, 0, 0, 2, 1, 0, 0, 0, 0, 0, 0, 0, 1, 0, 0, 0, 1, 0, 0, 0, 0, 0, 0, 0, 0, 0, 0, 0, 0, 0, 0, 0, 0, 0, 0, 2, 1, 0, 0, 0, 0, 0, 0, 0, 1, 0, 0, 0, 1, 0, 0]
noncomputable def nsL (w : World) : List DictEntry := ns19 w ++ (ents w 37 248 defs ++ [⟨hs w "instruct", .str "instruct" 1710, .ref 1423⟩, ⟨hs w "cycletime", .str "cycletime" 1967, .ref 1424⟩, ⟨hs w "extracycles", .str "extracycles" 2224, .ref 1425⟩])
noncomputable def tabL : List (Nat × Nat × Value) := (22, 4, .ref 35) :: tabs 37 defs
noncomputable def insL : List Nat := hints.map fun k => 43 + 7 * (k - 19)
noncomputable def insO : Obj := listO (insL.map .ref)
noncomputable def cycO : Obj := listO (intsAt cycL 1711)
noncomputable def extO : Obj := listO (intsAt extL 1968)
noncomputable def iniF : Obj := fnO 30 "__init__" "MPU.__init__" (fArgs ini) (fScope ini) (fBody ini) (.ref 29) pmC builtinsNs
noncomputable def iniC : Obj := codeO 30 239 fileS "__init__" "MPU.__init__" 22 3 3 true 181 (locs (fArgs ini) (fScope ini) (fBody ini))
noncomputable def fnL : List (Nat × Obj) := (36, iniF) :: fnsOf 37 defs
noncomputable def iniOv : List (Nat × Obj) := [(36, iniF), (35, iniC), (34, tmplO "__init__" "MPU.__init__" (fArgs ini) (fScope ini) (fBody ini)), (33, tupO []), (32, tupO (texts ["self", "memory", "pc"] 242)), (31, recO []), (30, tupO []), (29, tupO [.none, .int 0 238])]
noncomputable def S0 (w : World) : Sh := ⟨fun a => look (bootL w.params) a, baseOv w (dictOf (ns3 w) 3) (recO (tabOf [])), 29, 208⟩
noncomputable def S16 (w : World) : Sh := ⟨fun a => look (bootL w.params) a, iniOv ++ baseOv w (dictOf (ns19 w) 19) (recO (tabOf [(22, 4, .ref 35)])), 37, 248⟩
noncomputable def g217 (w : World) (g : Nat → Option Obj) (a : Nat) : Option Obj := match Nat.ble 29 a with
  | true => (match look fnL a with
    | some o => some o
    | none => match Nat.beq a 1423 with
      | true => some insO
      | false => match Nat.beq a 1424 with
        | true => some cycO
        | false => match Nat.beq a 1425 with
          | true => some extO
          | false => g a)
  | false => match Nat.beq a 24 with
    | true => some (dictOf (nsL w) 220)
    | false => match Nat.beq a 26 with
      | true => some (recO (tabOf tabL))
      | false => match look (baseOv w (dictOf (ns3 w) 3) (recO (tabOf []))) a with
        | some o => some o
        | none => look (bootL w.params) a
noncomputable def S217 (w : World) (g : Nat → Option Obj) : Sh := ⟨g217 w g, [], 1426, 2225⟩
noncomputable def okKeys (l : List (Nat × Obj)) : Bool := l.all fun x => Nat.ble 1426 x.1 || Nat.beq x.1 24 || Nat.beq x.1 3 || Nat.beq x.1 12
noncomputable def pmL : Value := .str "law_lq0012_03" 2249
noncomputable def F_law_word : Obj := fnO 1433 "_law_word" "_law_word" (fArgs (stM 4)) (fScope (stM 4)) (fBody (stM 4)) .none pmL builtinsNs
noncomputable def C_law_word : Obj := codeO 1433 2251 fileS "_law_word" "_law_word" (fPos (stM 4)).line (fArgs (stM 4)).args.length 3 true 181 (locs (fArgs (stM 4)) (fScope (stM 4)) (fBody (stM 4)))
noncomputable def F_law_plan : Obj := fnO 1440 "_law_plan" "_law_plan" (fArgs (stM 5)) (fScope (stM 5)) (fBody (stM 5)) .none pmL builtinsNs
noncomputable def C_law_plan : Obj := codeO 1440 2258 fileS "_law_plan" "_law_plan" (fPos (stM 5)).line (fArgs (stM 5)).args.length 3 true 181 (locs (fArgs (stM 5)) (fScope (stM 5)) (fBody (stM 5)))
noncomputable def F_law_pointer : Obj := fnO 1447 "_law_pointer" "_law_pointer" (fArgs (stM 6)) (fScope (stM 6)) (fBody (stM 6)) .none pmL builtinsNs
noncomputable def C_law_pointer : Obj := codeO 1447 2273 fileS "_law_pointer" "_law_pointer" (fPos (stM 6)).line (fArgs (stM 6)).args.length 3 true 181 (locs (fArgs (stM 6)) (fScope (stM 6)) (fBody (stM 6)))
noncomputable def F_law_block : Obj := fnO 1454 "_law_block" "_law_block" (fArgs (stM 7)) (fScope (stM 7)) (fBody (stM 7)) .none pmL builtinsNs
noncomputable def C_law_block : Obj := codeO 1454 2283 fileS "_law_block" "_law_block" (fPos (stM 7)).line (fArgs (stM 7)).args.length 3 true 181 (locs (fArgs (stM 7)) (fScope (stM 7)) (fBody (stM 7)))
noncomputable def F_law_signed : Obj := fnO 1461 "_law_signed" "_law_signed" (fArgs (stM 8)) (fScope (stM 8)) (fBody (stM 8)) .none pmL builtinsNs
noncomputable def C_law_signed : Obj := codeO 1461 2305 fileS "_law_signed" "_law_signed" (fPos (stM 8)).line (fArgs (stM 8)).args.length 3 true 181 (locs (fArgs (stM 8)) (fScope (stM 8)) (fBody (stM 8)))
noncomputable def F_law_taken : Obj := fnO 1468 "_law_taken" "_law_taken" (fArgs (stM 9)) (fScope (stM 9)) (fBody (stM 9)) .none pmL builtinsNs
noncomputable def C_law_taken : Obj := codeO 1468 2312 fileS "_law_taken" "_law_taken" (fPos (stM 9)).line (fArgs (stM 9)).args.length 3 true 181 (locs (fArgs (stM 9)) (fScope (stM 9)) (fBody (stM 9)))
noncomputable def F_law_lay : Obj := fnO 1475 "_law_lay" "_law_lay" (fArgs (stM 10)) (fScope (stM 10)) (fBody (stM 10)) .none pmL builtinsNs
noncomputable def C_law_lay : Obj := codeO 1475 2324 fileS "_law_lay" "_law_lay" (fPos (stM 10)).line (fArgs (stM 10)).args.length 3 true 181 (locs (fArgs (stM 10)) (fScope (stM 10)) (fBody (stM 10)))
noncomputable def Flaw : Obj := { cls := .type "function", data := .func { name := "law", qualname := "law", params := fArgs (stM 11), body := .stmts (fBody (stM 11)), scope := fScope (stM 11), globals := mainNs, closure := [], closureTuple := .none, code := .ref 1485, builtins := builtinsNs, defaults := .none, kwdefaults := .none, annotations := none, pyModule := pmL, doc := .none } }
noncomputable def Claw : Obj := { cls := .type "code", data := .fields #[.str "law" 2334, .str "law" 2335, .str fileS 2336, rawInt (fPos (stM 11)).line, rawInt (fArgs (stM 11)).args.length, rawInt 0, rawInt 0, rawInt 3, .ref 1482, .bool true, rawInt 181, .ref 1483, .none, .none, .none, .ref 1484, rawInt 2337, rawInt (fPos (stM 11)).line, .str fileS 2338] }
noncomputable def lawK : List (Nat × Obj) := [(1439, F_law_word), (1438, C_law_word), (1446, F_law_plan), (1445, C_law_plan), (1453, F_law_pointer), (1452, C_law_pointer), (1460, F_law_block), (1459, C_law_block), (1467, F_law_signed), (1466, C_law_signed), (1474, F_law_taken), (1473, C_law_taken), (1481, F_law_lay), (1480, C_law_lay), (1486, Flaw), (1485, Claw)]
noncomputable def obsF (s : Sh) : List (Option Obj) := [look s.ov 3, look s.ov 1427, look s.ov 1428] ++ lawK.map fun x => look s.ov x.1
noncomputable def seenOf (l : List DictEntry) : List Nat := l.map fun e => match e.key with | .str x _ => codeN x | _ => 0
theorem preA (w : World) : ((goT P w (calls w) Γ0 preT default (sh0 w)).map fun y => (y.1, y.2.1)) = some (.ok (.ref 13, 14), default) := by kernel_rfl
theorem preB (w : World) : ((goT P w (calls w) ΓM (execs two envM) default (shA w)).map fun y => y.1) = some (.ok .next) := by kernel_rfl
theorem big (w : World) (g : Nat → Option Obj) : ((untilT P w isBody (calls w) ΓM (exec st2 envM) (pB w) (shB w)).map fun y => (y.c, y.hd, y.p, y.sh,
    ((goT P w (calls w) ΓM (y.k (.ok .next)) y.p (S217 w g)).bind fun z => match z.1 with | .ok .next => goT P w (calls w) ΓM (execs restT envM) z.2.1 z.2.2 | _ => none).map fun z => (z.1, z.2.2.g, z.2.2.n, z.2.2.t, okKeys z.2.2.ov, obsF z.2.2))) =
  some (.body clsBody envC, none, posC, S0 w, some (.ok .next, g217 w g, 1487, 2340, true, [some (mainO w), some (nsCO w), some clsO] ++ lawK.map fun x => some x.2)) := by kernel_rfl
theorem first16 (w : World) (calls : Ctx → Pos → Sh → Option (Result × Sh)) : ((goT P w calls ΓC (execs (clsBody.take 16) envC) posC (S0 w)).map fun y => (y.1, y.2.2)) = some (.ok .next, S16 w) := by kernel_rfl
theorem okd (w : World) : okDefs (seenOf (ns19 w)) 36 defs = true := by kernel_rfl
end
end Mine.Hd
end
section
open PySem PySem.W PyProof.Rows
namespace Mine.Hd
open Mine.Go Mine.Dx
section
noncomputable def lpA (k : Nat) : Pos := ((clsBody.drop k).head?.bind fun s => (atS 0 s).bind fun x => (atE 11 x.2.1).map fun y => y.2).getD default
noncomputable def qpA (k : Nat) : Pos := ((clsBody.drop k).head?.bind fun s => (atS 0 s).bind fun x => (one x.1).bind fun e => (atE 1 e).map fun y => y.2).getD default
noncomputable def apA (k : Nat) : Pos := ((clsBody.drop k).head?.bind fun s => (atS 0 s).map fun x => x.2.2).getD default
noncomputable def asg (k : Nat) (x : Str) : Stmt := .Assign [.Name x (qpA k)] (.List (elts k) (lpA k)) (apA k)
noncomputable def hints' : List Nat := hints.map (· - 19)
theorem drop214 : clsBody.drop 214 = [asg 214 "instruct", asg 215 "cycletime", asg 216 "extracycles"] := by kernel_rfl
theorem len_defs : defs.length = 198 := by kernel_rfl
theorem ns217 (w : World) : ns19 w ++ ents w 37 248 defs = (nsL w).take 217 := by kernel_rfl
theorem tab217 : [(22, 4, Value.ref 35)] ++ tabs 37 defs = tabL := by kernel_rfl
theorem toks217 : toksOf 248 defs = 1710 := by kernel_rfl
theorem apart (w : World) : apartN [] (nsL w) = true := by kernel_rfl
theorem apart217 (w : World) : apartN [] ((nsL w).take 217) = true := by kernel_rfl
theorem allLoc : clsScope.names.all (fun y => y.2 == .local) = true := by kernel_rfl
theorem walkD : walkN (defs.map fName ++ ([("instruct" : Str), "cycletime", "extracycles"] : List Str)) clsScope.names = true := by kernel_rfl
theorem namesI (w : World) : namesAt (ents w 37 248 defs) (elts 214) hints' = true := by kernel_rfl
theorem valsI (w : World) : valsAt (ents w 37 248 defs) hints' = insL.map .ref := by kernel_rfl
theorem intsC : allInts (elts 215) = true ∧ constInts (elts 215) = cycL ∧ (elts 215).length = 256 := ⟨by kernel_rfl, by kernel_rfl, by kernel_rfl⟩
theorem intsE : allInts (elts 216) = true ∧ constInts (elts 216) = extL ∧ (elts 216).length = 256 := ⟨by kernel_rfl, by kernel_rfl, by kernel_rfl⟩
end
end Mine.Hd
end
section
open PySem PySem.W PyProof.Rows
namespace Mine.Hd
open Mine.Go
section
theorem loc_of {x : Str} (h : x ∈ defs.map fName ++ ([("instruct" : Str), "cycletime", "extracycles"] : List Str)) : envC.scope.names.lookup x = some .local := lookup_local allLoc (walkN_mem _ _ walkD x h)
theorem clsC : Cls envC 27 26 24 cvC fileS 202 181 := ⟨rfl, by kernel_rfl, rfl, rfl, ⟨rfl, rfl, rfl, rfl, rfl⟩⟩
theorem cx16 (w : World) : Cx (S16 w) 27 26 24 cvC [(22, 4, .ref 35)] (ns19 w) 19 (gO w) := ⟨by kernel_rfl, by kernel_rfl, by kernel_rfl, by kernel_rfl, by show 27 < 37 ∧ 26 < 37 ∧ 24 < 37 ∧ mainNs < 37; decide, by decide⟩
theorem gO_name (w : World) : lookIn "__name__" (gO w) = some (some pmC) := by kernel_rfl
theorem bfor (w : World) (calls : Ctx → Pos → Sh → Option (Result × Sh)) (s : Sh) (p : Pos) (h1 : s.get mainNs = some (gO w)) (h2 : s.get 4 = some (boot_o_4 w.params)) : goT P w calls ΓC (builtinsFor mainNs envC.builtins) p s = some (.ok builtinsNs, p, s) := by
  unfold builtinsFor
  rw [goT_bind', goT_nsGet (r := some (.ref 4)) h1 (by kernel_rfl)]; simp only [thenT]
  rw [if_neg (by decide), goT_bind', goT_load h2]
  rfl
theorem seen16 (w : World) : ∀ e ∈ ns19 w, ∃ nm t, e.key = .str nm t ∧ codeN nm ∈ seenOf (ns19 w) := by
  intro e he
  have hk : (ns19 w).all (fun e => match e.key with | .str .. => true | _ => false) = true := by kernel_rfl
  have := List.all_eq_true.mp hk e he
  cases q : e.key with
  | str nm t => exact ⟨nm, t, rfl, List.mem_map.mpr ⟨e, he, by rw [q]⟩⟩
  | _ => rw [q] at this; cases this
theorem noRef {es : List DictEntry} (h : apartN [] es = true) : es.any (·.refKey) = false := by
  rw [List.any_eq_false]
  intro e he
  obtain ⟨x, t, hk, _⟩ := apartN_seen h e he
  unfold DictEntry.refKey
  rw [hk]; simp
theorem apart_pair {a b : List DictEntry} {seen : List Nat} (h : apartN seen (a ++ b) = true) : ∀ e ∈ a, ∀ d ∈ b, ∃ x t y u, e.key = .str x t ∧ d.key = .str y u ∧ codeN y ≠ codeN x := by
  induction a generalizing seen with
  | nil => intro e he; cases he
  | cons e₀ r ih =>
    rw [List.cons_append] at h
    unfold apartN at h
    split at h
    · rename_i x t hk
      simp only [Bool.and_eq_true] at h
      intro e he d hd
      rcases List.mem_cons.mp he with rfl | he
      · obtain ⟨y, u, h1, h2⟩ := apartN_seen h.2 d (List.mem_append_right _ hd)
        exact ⟨x, t, y, u, hk, h1, fun q => h2 (by rw [q]; exact .head _)⟩
      · exact ih h.2 e he d hd
    · cases h
theorem apart_new {x : Str} {t : Nat} {a b : List DictEntry} {d : DictEntry} (q : apartN [] (a ++ d :: b) = true) (hd : d.key = .str x t) : a.any (·.key.isStr x) = false := by
  rw [List.any_eq_false]
  intro e he hx
  obtain ⟨y, u, y', u', h1, h2, h3⟩ := apart_pair q e he d (.head _)
  rw [h1] at hx
  obtain rfl := isStr_str.mp hx
  rw [hd] at h2
  cases h2
  exact h3 rfl
theorem look_base {w : World} {n d n' d' : Obj} {a : Nat} (h1 : a ≠ 24) (h2 : a ≠ 26) : look (baseOv w n d) a = look (baseOv w n' d') a := by
  simp only [baseOv, List.cons_append, List.nil_append, look_cons, h1, h2, if_false]
theorem fns_mem {a : Nat} {o : Obj} : ∀ {sts : List Stmt} {n t : Nat}, (a, o) ∈ fnsOf n sts → (a, o) ∈ ovs fileS "MPU." 181 pmC builtinsNs n t sts
  | [], _, _, h => by cases h
  | st :: r, n, t, h => by
    rcases List.mem_cons.mp h with h | h
    · rw [h]; exact List.mem_append_left _ (.head _)
    · exact List.mem_append_right _ (fns_mem h)
theorem body217 (w : World) (calls : Ctx → Pos → Sh → Option (Result × Sh)) : ∃ s p, goT P w calls ΓC (execs clsBody envC) posC (S0 w) = some (.ok .next, p, s) ∧ s.n = 1426 ∧ s.t = 2225 ∧ (∀ a, s.get a = g217 w s.get a) ∧
    s.get 35 = some iniC ∧ s.get 29 = some (tupO [.none, .int 0 238]) ∧ ∀ x ∈ ovs fileS "MPU." 181 pmC builtinsNs 37 248 defs, s.get x.1 = some x.2 := by
  have hf := first16 w calls
  obtain ⟨y, hy, hy2⟩ := Option.map_eq_some_iff.mp hf
  obtain ⟨r, p16, s16⟩ := y
  simp only [Prod.mk.injEq] at hy2
  obtain ⟨rfl, rfl⟩ := hy2
  have hsplit : clsBody = clsBody.take 16 ++ (defs ++ clsBody.drop 214) := by
    have h1 := List.take_append_drop 16 clsBody
    have h2 := List.take_append_drop 198 (clsBody.drop 16)
    rw [List.drop_drop] at h2
    unfold defs
    rw [h2, h1]
  obtain ⟨s1, p1, g1, X1, n1, t1, old1, new1⟩ := goT_defs (prog := P) (w := w) (calls := calls) (Γ := ΓC) (bt := builtinsNs) (bm := 4) (bo := boot_o_4 w.params) (pm := pmC) clsC (gO_name w) (by decide) (bfor w calls) defs (clsBody.drop 214) (seenOf (ns19 w)) 36 (S16 w) _ _ _ p16
    (okd w) (fun st hst => loc_of (List.mem_append_left _ (List.mem_map_of_mem hst))) (cx16 w) ⟨by kernel_rfl, by show 4 < 37; decide⟩ (by intro x hx; cases hx with | head => decide | tail _ h => cases h) (seen16 w)
  have hn1 : s1.n = 1423 := by rw [n1, len_defs]; rfl
  have ht1 : s1.t = 1710 := t1.trans toks217
  have e217 := ns217 w
  have hes : (ns19 w ++ ents w (S16 w).n (S16 w).t defs) = (nsL w).take 217 := e217
  rw [hes, len_defs] at X1
  rw [show ([(22, 4, Value.ref 35)] ++ tabs (S16 w).n defs) = tabL from tab217] at X1
  have hE : nsL w = (nsL w).take 217 ++ (nsL w)[217]! :: (nsL w)[218]! :: (nsL w)[219]! :: [] := by kernel_rfl
  have ap := apart w
  obtain ⟨pI, hI⟩ := goT_names (prog := P) (w := w) (calls := calls) (Γ := ΓC) (env := envC) (lp := lpA 214) (N := 24) (k := 217) (es0 := ns19 w) (es := ents w 37 248 defs) clsC.kind clsC.loc (by rw [e217]; exact apart217 w)
    (fun e he x t hk => by
      obtain ⟨st, hst, u, hk'⟩ := ents_key e he
      rw [hk] at hk'; cases hk'
      exact loc_of (List.mem_append_left _ (List.mem_map_of_mem hst))) (elts 214) hints' (lpA 214) s1 (by rw [e217]; exact X1.ns) (namesI w)
  rw [valsI w] at hI
  obtain ⟨s2, g2, n2, t2, get2⟩ := goT_assignL (p := p1) (q := qpA 214) (pos := apA 214) (x := "instruct") clsC.kind clsC.loc (loc_of (List.mem_append_right _ (.head _))) hI (by rw [List.length_map]; decide) X1.ns X1.lt.2.2.1 (noRef (apart217 w))
    (apart_new (d := (nsL w)[217]!) (b := [(nsL w)[218]!, (nsL w)[219]!]) (t := 1710) (by rw [← hE]; exact ap) (by kernel_rfl))
  rw [hn1, ht1] at get2
  have hns2 : s2.get 24 = some (dictOf ((nsL w).take 218) 218) := by
    rw [get2, if_pos rfl]
    exact congrArg some (by kernel_rfl)
  have a218 : apartN [] ((nsL w).take 218) = true := by kernel_rfl
  have a219 : apartN [] ((nsL w).take 219) = true := by kernel_rfl
  have hn2 : s2.n = 1424 := by rw [n2, hn1]
  have ht2 : s2.t = 1711 := by rw [t2, ht1]
  have hC := goT_ints (prog := P) (w := w) (calls := calls) (Γ := ΓC) (env := envC) (lp := lpA 215) (elts 215) (lpA 215) s2 intsC.1
  rw [intsC.2.1, intsC.2.2, ht2] at hC
  obtain ⟨s3, g3, n3, t3, get3⟩ := goT_assignL (p := qpA 214) (q := qpA 215) (pos := apA 215) (x := "cycletime") (N := 24) (k := 218) (es := (nsL w).take 218) clsC.kind clsC.loc (loc_of (List.mem_append_right _ (.tail _ (.head _)))) hC (by decide +kernel) hns2 (by show 24 < s2.n; rw [hn2]; decide) (noRef a218)
    (apart_new (d := (nsL w)[218]!) (b := [(nsL w)[219]!]) (t := 1967) (by rw [show (nsL w).take 218 ++ [(nsL w)[218]!, (nsL w)[219]!] = nsL w by kernel_rfl]; exact ap) (by kernel_rfl))
  have n3' : s3.n = 1425 := by rw [n3]; show s2.n + 1 = 1425; rw [hn2]
  have t3' : s3.t = 1968 := by rw [t3]
  have get3' : ∀ a, s3.get a = if a = 24 then some (dictOf ((nsL w).take 219) 219) else if a = 1424 then some cycO else s2.get a := by
    intro a
    rw [get3]
    show (if a = 24 then some (dictOf ((nsL w).take 218 ++ [⟨hs w "cycletime", .str "cycletime" (1711 + 256), .ref s2.n⟩]) 219) else if a = s2.n then some cycO else s2.get a) = _
    rw [hn2]
    rfl
  have hns3 : s3.get 24 = some (dictOf ((nsL w).take 219) 219) := by rw [get3', if_pos rfl]
  have hX := goT_ints (prog := P) (w := w) (calls := calls) (Γ := ΓC) (env := envC) (lp := lpA 216) (elts 216) (lpA 216) s3 intsE.1
  rw [intsE.2.1, intsE.2.2, t3'] at hX
  obtain ⟨s4, g4, n4, t4, get4⟩ := goT_assignL (p := qpA 215) (q := qpA 216) (pos := apA 216) (x := "extracycles") (N := 24) (k := 219) (es := (nsL w).take 219) clsC.kind clsC.loc (loc_of (List.mem_append_right _ (.tail _ (.tail _ (.head _))))) hX (by decide +kernel) hns3 (by show 24 < s3.n; rw [n3']; decide) (noRef a219)
    (apart_new (d := (nsL w)[219]!) (b := []) (t := 2224) (by rw [show (nsL w).take 219 ++ [(nsL w)[219]!] = nsL w by kernel_rfl]; exact ap) (by kernel_rfl))
  have n4' : s4.n = 1426 := by rw [n4]; show s3.n + 1 = 1426; rw [n3']
  have t4' : s4.t = 2225 := by rw [t4]
  have get4' : ∀ a, s4.get a = if a = 24 then some (dictOf (nsL w) 220) else if a = 1425 then some extO else s3.get a := by
    intro a
    rw [get4]
    show (if a = 24 then some (dictOf ((nsL w).take 219 ++ [⟨hs w "extracycles", .str "extracycles" (1968 + 256), .ref s3.n⟩]) 220) else if a = s3.n then some extO else s3.get a) = _
    rw [n3']
    rfl
  have get2' : ∀ a, s2.get a = if a = 24 then some (dictOf ((nsL w).take 218) 218) else if a = 1423 then some insO else s1.get a := by
    intro a
    rw [get2]
    by_cases e : a = 24
    · rw [if_pos e, if_pos e]; exact congrArg some (by kernel_rfl)
    · rw [if_neg e, if_neg e]; rfl
  have low : ∀ a, a ≠ 24 → a < 1423 → s4.get a = s1.get a := by
    intro a h1 h2
    rw [get4', if_neg h1, if_neg (by lia), get3', if_neg h1, if_neg (by lia), get2', if_neg h1, if_neg (by lia)]
  have new4 : ∀ x ∈ ovs fileS "MPU." 181 pmC builtinsNs 37 248 defs, s4.get x.1 = some x.2 := by
    intro x hx
    have hlt := ovs_lt x hx
    rw [len_defs] at hlt
    rw [low x.1 (by lia) (by lia)]
    exact new1 x hx
  have ini4 : ∀ a o, a < 37 → 29 ≤ a → look (S16 w).ov a = some o → s4.get a = some o := by
    intro a o h1 h2 h3
    rw [low a (by lia) (by lia), old1 a h1 (by lia) (by lia)]
    unfold Sh.get
    rw [h3]
  refine ⟨s4, qpA 216, ?_, n4', t4', ?_, ini4 35 iniC (by decide) (by decide) (by kernel_rfl), ini4 29 (tupO [.none, .int 0 238]) (by decide) (by decide) (by kernel_rfl), new4⟩
  · rw [hsplit, goT_execs_app _ _ hy, g1, drop214]
    unfold asg
    rw [goT_execs_cons g2, goT_execs_cons g3, goT_execs_cons g4]
    rfl
  · intro a
    unfold g217
    cases hb : Nat.ble 29 a with
    | true =>
      have hb := Nat.le_of_ble_eq_true hb
      dsimp only
      cases hl : look fnL a with
      | some o =>
        dsimp only
        have hm := look_mem hl
        rcases List.mem_cons.mp hm with hm | hm
        · cases hm; exact ini4 36 iniF (by decide) (by decide) (by kernel_rfl)
        · exact new4 (a, o) (fns_mem hm)
      | none =>
        dsimp only
        cases h1 : Nat.beq a 1423 with
        | true =>
          obtain rfl := Nat.eq_of_beq_eq_true h1
          rw [get4', if_neg (by decide), if_neg (by decide), get3', if_neg (by decide), if_neg (by decide), get2', if_neg (by decide), if_pos rfl]
        | false =>
          dsimp only
          cases h2 : Nat.beq a 1424 with
          | true =>
            obtain rfl := Nat.eq_of_beq_eq_true h2
            rw [get4', if_neg (by decide), if_neg (by decide), get3', if_neg (by decide), if_pos rfl]
          | false =>
            dsimp only
            cases h3 : Nat.beq a 1425 with
            | true =>
              obtain rfl := Nat.eq_of_beq_eq_true h3
              rw [get4', if_neg (by decide), if_pos rfl]
            | false => rfl
    | false =>
      have hb : a < 29 := by
        rcases Nat.lt_or_ge a 29 with h | h
        · exact h
        · rw [Nat.ble_eq_true_of_le h] at hb; cases hb
      dsimp only
      cases h1 : Nat.beq a 24 with
      | true =>
        obtain rfl := Nat.eq_of_beq_eq_true h1
        rw [get4', if_pos rfl]
      | false =>
        have h1 := Nat.ne_of_beq_eq_false h1
        dsimp only
        cases h2 : Nat.beq a 26 with
        | true =>
          obtain rfl := Nat.eq_of_beq_eq_true h2
          dsimp only
          rw [low 26 (by decide) (by decide)]
          exact X1.tab
        | false =>
          have h2 := Nat.ne_of_beq_eq_false h2
          dsimp only
          rw [low a h1 (by lia), old1 a (by show a < 37; lia) h2 h1]
          unfold Sh.get
          rw [show (S16 w).ov = iniOv ++ baseOv w (dictOf (ns19 w) 19) (recO (tabOf [(22, 4, .ref 35)])) from rfl]
          rw [look_app (n := 29) (fun x hx => Nat.le_of_ble_eq_true (List.all_eq_true.mp (show iniOv.all (fun x => Nat.ble 29 x.1) = true by kernel_rfl) x hx)) hb, look_base (n' := dictOf (ns3 w) 3) (d' := recO (tabOf [])) h1 h2]
          rfl
end
end Mine.Hd
end
section
open PySem PySem.W PyProof.Rows
namespace Mine.Hd
open Mine.Go
open Sem (wp)
section
theorem wp_execs_app {M : Model} {Γ : Ctx} {env : Env} {B : List Stmt} {Q : Flow → Pos → Shared → Prop} {E : Value → Pos → Shared → Prop} {K : Pos → Shared → Prop} (hK : ∀ p s, K p s → wp M Γ (execs B env) Q E p s) : ∀ (A : List Stmt) {p : Pos} {s : Shared}, wp M Γ (execs A env) (fun f p' s' => f = .next ∧ K p' s') E p s → wp M Γ (execs (A ++ B) env) Q E p s
  | [], p, s, h => by
    exact hK _ _ h.2
  | st :: A, p, s, h => by
    rw [arm_execs_cons, Sem.wp_bind'] at h
    rw [List.cons_append]
    refine wp_execs_cons (Sem.wp_mono M Γ _ (fun f q s' z => ?_) (fun e q s' z => z) p s h)
    cases f with
    | next => exact ⟨rfl, wp_execs_app hK A z⟩
    | brk => cases z.1
    | cont => cases z.1
    | ret v => cases z.1
theorem go_next {w : World} {s₀ : Shared} {Γ : Ctx} {t : Sem Flow} {p p' : Pos} {s : Shared} {sh sh' : Sh} {Q : Flow → Pos → Shared → Prop} {E : Value → Pos → Shared → Prop}
    (R : Rep s₀ s sh) (h : goT P w (calls w) Γ t p sh = some (.ok .next, p', sh')) (k : ∀ s', Rep s₀ s' sh' → Q .next p' s') : wp (model P w) Γ t Q E p s := wp_go (M := model P w) (calls_ok 30) R h k
structure HF (w : World) (s : Sh) : Prop where
  main : s.get 3 = some (mainO w)
  ns : s.get 1427 = some (nsCO w)
  cls : s.get 1428 = some clsO
  law : ∀ x ∈ lawK, s.get x.1 = some x.2
  boot : ∀ a, a < 11 → a ≠ 3 → s.get a = look (bootL w.params) a
  ins : s.get 1423 = some insO
  cyc : s.get 1424 = some cycO
  ext : s.get 1425 = some extO
  iniF : s.get 36 = some iniF
  iniC : s.get 35 = some iniC
  iniD : s.get 29 = some (tupO [.none, .int 0 238])
  defs : ∀ x ∈ ovs fileS "MPU." 181 pmC builtinsNs 37 248 defs, s.get x.1 = some x.2
theorem bsM : blockStart (behindTheImports P) envM = pure () := by kernel_rfl
theorem bsC : blockStart clsBody envC = pure () := by kernel_rfl
theorem body_split : behindTheImports P = two ++ (st2 :: restT) := by kernel_rfl
theorem look_none_of {l : List (Nat × Obj)} (h : okKeys l = true) {a : Nat} (h1 : a < 1426) (h2 : a ≠ 24) (h3 : a ≠ 3) (h4 : a ≠ 12) : look l a = none := by
  cases e : look l a with
  | none => rfl
  | some o =>
    have := List.all_eq_true.mp h _ (look_mem e)
    simp only [Bool.or_eq_true, Nat.ble_eq, Nat.beq_eq] at this
    lia
theorem hf_of {w : World} {g : Nat → Option Obj} {s : Sh} (hg : s.g = g217 w g) (hk : okKeys s.ov = true) (ho : obsF s = [some (mainO w), some (nsCO w), some clsO] ++ lawK.map fun x => some x.2)
    (hini : g 35 = some iniC) (hin : g 29 = some (tupO [.none, .int 0 238])) (hd : ∀ x ∈ ovs fileS "MPU." 181 pmC builtinsNs 37 248 defs, g x.1 = some x.2) (hg' : ∀ a, g a = g217 w g a) : HF w s := by
  have lk : ∀ {a o}, look s.ov a = some o → s.get a = some o := fun {a o} e => by unfold Sh.get; rw [e]
  have nl : ∀ a, look s.ov a = none → s.get a = g217 w g a := fun a e => by unfold Sh.get; rw [e, hg]
  have o1 := congrArg (fun l => l[0]?) ho
  have o2 := congrArg (fun l => l[1]?) ho
  have o3 := congrArg (fun l => l[2]?) ho
  simp only [obsF, List.cons_append, List.nil_append, List.getElem?_cons_zero, List.getElem?_cons_succ, Option.some.injEq] at o1 o2 o3
  have o4 : (lawK.map fun x => look s.ov x.1) = lawK.map fun x => some x.2 := by
    have := congrArg (List.drop 3) ho
    simpa only [obsF, List.cons_append, List.nil_append, List.drop_succ_cons, List.drop_zero] using this
  refine ⟨lk o1, lk o2, lk o3, fun x hx => ?_, fun a h1 h2 => ?_, ?_, ?_, ?_, ?_, ?_, ?_, fun x hx => ?_⟩
  · have : ∀ {l : List (Nat × Obj)}, (l.map fun x => look s.ov x.1) = (l.map fun x => some x.2) → ∀ x ∈ l, look s.ov x.1 = some x.2 := by
      intro l
      induction l with
      | nil => intro _ x h; cases h
      | cons y l ih =>
        intro h x hx
        simp only [List.map_cons, List.cons.injEq] at h
        rcases List.mem_cons.mp hx with rfl | hx
        · exact h.1
        · exact ih h.2 x hx
    exact lk (this o4 x hx)
  · rw [nl a (look_none_of hk (by lia) (by lia) h2 (by lia))]
    unfold g217
    have e1 : Nat.ble 29 a = false := by
      cases q : Nat.ble 29 a with
      | false => rfl
      | true => have := Nat.le_of_ble_eq_true q; lia
    have e2 : Nat.beq a 24 = false := by
      cases q : Nat.beq a 24 with
      | false => rfl
      | true => have := Nat.eq_of_beq_eq_true q; lia
    have e3 : Nat.beq a 26 = false := by
      cases q : Nat.beq a 26 with
      | false => rfl
      | true => have := Nat.eq_of_beq_eq_true q; lia
    rw [e1, e2, e3]
    dsimp only
    have e4 : look (baseOv w (dictOf (ns3 w) 3) (recO (tabOf []))) a = none := by
      cases q : look (baseOv w (dictOf (ns3 w) 3) (recO (tabOf []))) a with
      | none => rfl
      | some o =>
        have hm := look_mem q
        have : ∀ x ∈ baseOv w (dictOf (ns3 w) 3) (recO (tabOf [])), 11 ≤ x.1 ∨ x.1 = 3 := by
          intro x hx
          simp only [baseOv, defOv, List.mem_cons, List.mem_append, List.not_mem_nil, or_false] at hx
          rcases hx with ((rfl | rfl | rfl | rfl | rfl | rfl | rfl) | (rfl | rfl | rfl | rfl | rfl | rfl | rfl)) | (rfl | rfl | rfl | rfl | rfl) <;> simp
        have := this _ hm
        simp only at this
        lia
    rw [e4]
  · rw [nl _ (look_none_of hk (by decide) (by decide) (by decide) (by decide))]; kernel_rfl
  · rw [nl _ (look_none_of hk (by decide) (by decide) (by decide) (by decide))]; kernel_rfl
  · rw [nl _ (look_none_of hk (by decide) (by decide) (by decide) (by decide))]; kernel_rfl
  · rw [nl _ (look_none_of hk (by decide) (by decide) (by decide) (by decide))]; kernel_rfl
  · rw [nl _ (look_none_of hk (by decide) (by decide) (by decide) (by decide)), ← hg']; exact hini
  · rw [nl _ (look_none_of hk (by decide) (by decide) (by decide) (by decide)), ← hg']; exact hin
  · have hlt := ovs_lt x hx
    rw [len_defs] at hlt
    rw [nl _ (look_none_of hk (by lia) (by lia) (by lia) (by lia)), ← hg']
    exact hd x hx
theorem top_wp (w : World) (s : Shared) (R0 : Rep s s (sh0 w)) (hg : s.gens = #[]) :
    wp (model P w) (Ctx.of (.builtin "claim.caller" {}) []) (topStub P).cur (fun fin _ s' => fin = .done (.ret .none) ∧ (∃ sF, Rep s s' sF ∧ HF w sF) ∧ s'.gens = #[]) (fun _ _ _ => False) default s := by
  have hc : CallsOk (model P w) s (calls w) := calls_ok 30
  obtain ⟨yA, hA, hA2⟩ := Option.map_eq_some_iff.mp (preA w)
  obtain ⟨rA, pA, sA⟩ := yA
  simp only [Prod.mk.injEq] at hA2
  obtain ⟨rfl, rfl⟩ := hA2
  have esA : shA w = sA := by unfold shA; rw [hA]
  obtain ⟨yB, hB, hB2⟩ := Option.map_eq_some_iff.mp (preB w)
  obtain ⟨rB, pB', sB⟩ := yB
  simp only at hB2
  subst hB2
  have esB : shB w = sB := by unfold shB; rw [hB]
  have epB : pB w = pB' := by unfold pB; rw [hB]
  have main : ∀ s₂, Rep s s₂ sA → wp (model P w) Γ0 (run (.body (behindTheImports P) envM)) (fun _ _ s' => (∃ sF, Rep s s' sF ∧ HF w sF) ∧ s'.gens = #[]) (fun _ _ _ => False) default s₂ := by
    intro s₂ R2
    refine wp_run (wp_body (Γ := ΓM) (B := behindTheImports P) (env := envM) rfl rfl bsM ?_)
    rw [body_split]
    refine wp_execs_app (K := fun p' s' => p' = pB' ∧ Rep s s' sB) (fun p₃ s₃ K3 => ?_) two (go_next R2 (by rw [← esA]; exact hB) fun s₃ R3 => ⟨rfl, rfl, R3⟩)
    obtain ⟨rfl, R3⟩ := K3
    refine wp_execs_cons ?_
    obtain ⟨s217, p217, hgo, hn, ht, hgg, hi, hi2, hd⟩ := body217 w (calls w)
    obtain ⟨y, hy, hy2⟩ := Option.map_eq_some_iff.mp (big w s217.get)
    simp only [Prod.mk.injEq] at hy2
    obtain ⟨y1, y2, y3, y4, y5⟩ := hy2
    rw [esB, epB] at hy
    refine untilT_sound (stop := isBody) hc ΓM _ _ (exec st2 envM) _ s₃ sB y R3 hy fun s₄ R4 => ?_
    rw [y1, y2, y3]
    rw [y4] at R4
    refine wp_body (Γ := ΓC) (B := clsBody) (env := envC) rfl rfl bsC (go_next R4 hgo fun s₅ R5 => ?_)
    have R5' : Rep s s₅ (S217 w s217.get) := R5.same hn.symm ht.symm (fun a => (hgg a).symm)
    obtain ⟨z, hz, hz2⟩ := Option.map_eq_some_iff.mp y5
    obtain ⟨z', hz', hz3⟩ := Option.bind_eq_some_iff.mp hz
    obtain ⟨rz, pz, sz⟩ := z'
    cases rz with
    | error e => cases hz3
    | ok f =>
      cases f with
      | next =>
        obtain ⟨r, pF, sF⟩ := z
        simp only [Prod.mk.injEq] at hz2
        obtain ⟨rfl, f2, f3, f4, f5, f6⟩ := hz2
        rw [y3] at hz'
        refine go_next R5' hz' fun s₆ R6 => ⟨rfl, ?_⟩
        refine go_next R6 hz3 fun s₇ R7 => ?_
        exact ⟨⟨sF, R7, hf_of f2 f5 f6 hi hi2 hd hgg⟩, R7.gens.trans hg⟩
      | brk => cases hz3
      | cont => cases hz3
      | ret v => cases hz3
  have hP : wp (model P w) Γ0 preT (fun cf p' s' => p' = default ∧ cf = (.ref 13, 14) ∧ Rep s s' sA) (fun _ _ _ => False) default s := wp_go (M := model P w) hc R0 hA fun s' R' => ⟨rfl, rfl, R'⟩
  unfold preT at hP
  simp only [Sem.wp_bind', Sem.wp_pure'] at hP
  show wp (model P w) Γ0 (do
      let code ← moduleCode P.main
      let frame ← newBodyFrame code mainNs mainNs
      let _ ← run (.body (behindTheImports P) { scope := P.main.scope, locals := mainNs, globals := mainNs, cells := [], code, frame := some frame })
      ret .none) _ _ default s
  simp only [Sem.wp_bind']
  refine Sem.wp_mono _ _ _ (fun c p1 s1 h1 => Sem.wp_mono _ _ _ (fun f p2 s2 h2 => ?_) (fun _ _ _ h => h) p1 s1 h1) (fun _ _ _ h => h) default s hP
  obtain ⟨rfl, h3, R'⟩ := h2
  cases h3
  refine Sem.wp_mono _ _ _ (fun f p3 s3 h3 => ?_) (fun _ _ _ h => h) _ _ (main s2 R')
  exact ⟨rfl, h3⟩
end
end Mine.Hd
end
section
open PySem PySem.W PyProof.Rows
namespace Mine.Hd
open Mine.Go
section
theorem boot_get (Q : Params) (a : Nat) : (boot_heap Q).get? a = look (bootL Q) a := by
  by_cases h : a < 11
  · rcases a with _ | _ | _ | _ | _ | _ | _ | _ | _ | _ | _ | a <;> first | rfl | lia
  · have h1 : look (bootL Q) a = none := by
      simp only [bootL, look_cons]
      repeat rw [if_neg (by lia)]
      rfl
    rw [h1]
    cases e : (boot_heap Q).get? a with
    | none => rfl
    | some o =>
      have h2 : a < (boot_heap Q).objs.size := Heap.lt_size e
      have e : (boot_heap Q).objs.size = 11 := rfl
      rw [e] at h2; exact absurd h2 h
theorem rep0 {w : World} {s : Shared} (h : (s.heap, s.gens, s.drawn, s.toks) = (boot_heap w.params, Array.mk [], boot_drawn, boot_toks)) : Rep s s (sh0 w) ∧ s.gens = #[] := by
  obtain ⟨hp, gs, dr, tk, os⟩ := s
  simp only [Prod.mk.injEq] at h
  obtain ⟨rfl, rfl, rfl, rfl⟩ := h
  exact ⟨⟨rfl, boot_get w.params, rfl, rfl, rfl, rfl, rfl⟩, rfl⟩
theorem opening_plain : opening P = plainProg P.main.scope.names := by kernel_rfl
theorem fence_id (s : Shared) : fenceModules? P s = some s := by kernel_rfl
structure Words (w : World) (h : Heap) : Prop where
  o0 : h.get? 0 = some (boot_o_0 w.params)
  o2 : h.get? 2 = some (boot_o_2 w.params)
  o3 : h.get? 3 = some (mainO w)
  o4 : h.get? 4 = some (boot_o_4 w.params)
section
variable {w : World} {h : Heap} (W : Words w h)
include W
theorem Words.static (key : Str) : staticOf h key = none := by unfold staticOf; rw [show h.get? cStatics = _ from W.o2]; rfl
theorem Words.global (x : Str) : globalOf h x = ((mainL w).toArray.find? (·.key.isStr x)).map (·.val) := by unfold globalOf; rw [show h.get? mainNs = _ from W.o3]; rfl
theorem Words.mainNsOk : h.isNs mainGlobals = true := by unfold Heap.isNs; rw [show h.get? mainGlobals = _ from W.o3]; kernel_rfl
theorem Words.bltOk : h.isNs builtinsNs = true := by unfold Heap.isNs; rw [show h.get? builtinsNs = _ from W.o0]; kernel_rfl
theorem Words.bltV : h.bltView = bltViewBooted := by unfold Heap.bltView Heap.nsPairs; rw [show h.get? builtinsNs = _ from W.o0]; kernel_rfl
theorem Words.booted : builtinsAsBooted h := fun x hx => (Pin.builtinOf_eq W.bltOk x).trans (Heap.of_bltView W.bltOk W.bltV x hx)
theorem Words.bound : namesBound P h = true := by unfold namesBound Heap.isNs Heap.nsKeys; rw [show h.get? mainGlobals = _ from W.o3]; kernel_rfl
end
theorem top_ran (w : World) : (∃ s, AfterRun (opening P) w s) ∧ ∀ s, AfterRun (opening P) w s → ∃ s₀, fenceModules? P s = some s₀ ∧ s₀.gens = #[] ∧ ∃ s₁, TopRan P w s₀ s₁ ∧ s₁.asleep ∧ s₁.gens = #[] ∧ Words w s₁.heap ∧ ∃ sF, Rep s₀ s₁ sF ∧ HF w sF := by
  obtain ⟨s₀, h0, hv⟩ := Option.map_eq_some_iff.mp (boot_open (N := 600) opening_plain rfl fence_id w)
  obtain ⟨s, hs, hf⟩ := Option.bind_eq_some_iff.mp h0
  rw [← table_eq_tree] at hs
  have A : AfterRun (opening P) w s := AfterImport.of_importEnds hs
  refine ⟨⟨s, A⟩, fun s' hs' => ?_⟩
  obtain rfl : s' = s := AfterImport.unique hs' A
  obtain ⟨R0, hg⟩ := rep0 (w := w) hv
  have hz : s₀.asleep := Shared.asleep_of_life (fence_lifeW hf) (AfterImport.life A)
  obtain ⟨s₁, hrun, sF, R1, F⟩ := top_runs (prog := P) (w := w) (f := .ret .none) (R := fun s' => ∃ sF, Rep s₀ s' sF ∧ HF w sF) hz (top_wp w s₀ R0 hg)
  have get : ∀ a, s₁.heap.get? a = sF.get a := R1.get
  have get0 : ∀ a, s₀.heap.get? a = look (bootL w.params) a := R0.get
  have W : Words w s₁.heap := ⟨(get 0).trans (F.boot 0 (by decide) (by decide)), (get 2).trans (F.boot 2 (by decide) (by decide)), (get 3).trans F.main, (get 4).trans (F.boot 4 (by decide) (by decide))⟩
  have g0 : ∀ x, globalOf s₀.heap x = ((match (boot_o_3 w.params).data with | .dict es _ => es | _ => (#[] : Array DictEntry)).find? (fun e : DictEntry => e.key.isStr x)).map (fun e : DictEntry => e.val) := fun x => by
    unfold globalOf; rw [show s₀.heap.get? mainNs = some (boot_o_3 w.params) from get0 3]; rfl
  refine ⟨s₀, hf, hg, s₁, ⟨?_, R1.life, Shared.rest_eq R1.os, ?_, ?_, ?_, Pin.keysAreStrs_of W.mainNsOk, W.booted, ?_, ?_, names_of_bound W.bound, ?_⟩, Shared.asleep_of_life R1.life hz, R1.gens.trans hg, W, sF, R1, F⟩
  · obtain ⟨n, th, a, b⟩ := hrun; exact ⟨n, th, a, b⟩
  · intro b o hb hn
    rw [get0] at hb
    have hlt : b < 11 := by
      have := look_mem hb
      have hall : ∀ x ∈ bootL w.params, x.1 < 11 := by
        intro x hx
        simp only [bootL, List.mem_cons, List.not_mem_nil, or_false] at hx
        rcases hx with rfl | rfl | rfl | rfl | rfl | rfl | rfl | rfl | rfl | rfl | rfl <;> dsimp only <;> decide
      exact hall _ this
    rw [get, F.boot b hlt (fun e => hn (.inl e))]; exact hb
  · intro key v hv; rw [W.static] at hv; cases hv
  · intro key
    refine .inl ?_
    rw [W.static]
    unfold staticOf
    rw [show s₀.heap.get? cStatics = some (boot_o_2 w.params) from get0 2]
    rfl
  · exact ⟨4, boot_o_4 w.params, by rw [W.global]; kernel_rfl, W.o4, rfl, rfl⟩
  · intro g hgm; rw [R1.gens, hg] at hgm; simp at hgm
  · intro x hx
    rw [W.global, g0]
    simp only [laidNames, List.mem_cons, List.not_mem_nil, or_false] at hx
    rcases hx with rfl | rfl | rfl | rfl | rfl <;> kernel_rfl
end
end Mine.Hd
end
section
open PySem PySem.W PyProof.Rows
namespace Mine.Hd
open Mine.Go
section
noncomputable abbrev rwL := PySem.Challenge.rw_lq0012_03
noncomputable abbrev rowL : OpenRow := rwL.row
noncomputable def lawA : Addr := 1486
noncomputable def lawI : Nat := 11
noncomputable def Facts (w : World) (h : Heap) : Prop := ∃ sF, HF w sF ∧ ∀ a o, sF.get a = some o → h.get? a = some o
noncomputable def Walk : Prop := ∀ (w : World) (s₁ : Shared) (l : Addr) (vs : List Value) (ns : List Int), Facts w s₁.heap → Words w s₁.heap → s₁.gens = #[] → s₁.heap.IsList l vs.toArray → IntsAre vs ns → ns.length ≤ 63 →
  wpAny (model P w) callerA (PySem.call (.ref lawA) [.ref l]) (fun v s' => v = .bool true ∧ OldK s₁.heap s'.heap ∧ s'.os = s₁.os ∧ AllBare s'.gens) (fun _ _ => False) s₁
theorem Words.keeps {w : World} {h h' : Heap} (W : Words w h) (k : ∀ b o, h.get? b = some o → h'.get? b = some o) : Words w h' := ⟨k _ _ W.o0, k _ _ W.o2, k _ _ W.o3, k _ _ W.o4⟩
theorem law_global (w : World) {h : Heap} (W : Words w h) : globalOf h "law" = some (.ref lawA) := by rw [W.global]; kernel_rfl
theorem law_ns (w : World) {h : Heap} (W : Words w h) : h.nsMap mainNs "law" = some (.ref lawA) := by
  unfold Heap.nsMap
  rw [show h.get? mainNs = _ from W.o3]
  kernel_rfl
theorem law_mem : (lawA, Flaw) ∈ lawK := by unfold lawK; repeat (first | exact .head _ | refine .tail _ ?_)
theorem theDef_law : P.theDef "law" = some (fArgs (stM lawI), fBody (stM lawI), fScope (stM lawI)) := by kernel_rfl
theorem isDef {w : World} {h : Heap} (W : Words w h) (F : Facts w h) : isTheDefsW P h "law" := by
  obtain ⟨sF, F, k⟩ := F
  refine ⟨lawA, Flaw, _, _, _, _, law_global w W, k _ _ (F.law _ law_mem), rfl, theDef_law, rfl, rfl, rfl, rfl, rfl, rfl, rfl, rfl, ?_⟩
  exact ⟨.inl ⟨by kernel_rfl, rfl⟩, [], by kernel_rfl, .inl ⟨rfl, rfl⟩⟩
theorem free_ok : (frees rowL.toRowW && rowL.within.isEmpty) = true := by kernel_rfl
theorem opens_ok : opensWell P = true := by kernel_rfl
theorem bareP (tw : P.tablesWhole = true) : P.bare := ⟨rfl, rfl, rfl, rfl, rfl, tw⟩
theorem good {s s₁ s' : Shared} {ns : List Int} {v : Value} (hv : v = .bool true) (hK : OldK s₁.heap s'.heap) (hos : s'.os = s₁.os) (hg : AllBare s'.gens) :
    GoodWG rowL.toRowW.claim (classAt s.heap) (ExcName.means s.heap) [ofPy (PyData.list (ns.map PyData.int))] s₁ (.ok (.ret v)) s' := by
  subst hv
  refine ⟨.inl ⟨.bool true, .bool true, [], rfl, fun _ => rfl, .bool true, ?_, fun _ => ⟨.nil, fun _ h => by cases h⟩⟩, hK, hos, hg⟩
  kernel_rfl
theorem row_holds (said : rowL.wellSaid = true) (tw : P.tablesWhole = true) (walk : Walk) : rowL.Holds := by
  have k5 := (Bool.and_eq_true_iff.mp free_ok).1
  have k6 := (Bool.and_eq_true_iff.mp free_ok).2
  obtain ⟨hsame, hu, ha, hap, hm⟩ := frees_parts k5
  have hw : rowL.toRowW.promised := ⟨[.list []], by kernel_rfl, by kernel_rfl⟩
  refine ⟨said, hw, ⟨bareP tw, opens_ok, by rfl⟩, hw.witness, fun w => ⟨(top_ran w).1, fun s' hs' => ?_⟩⟩
  obtain ⟨s₀, hf, hg0, s, hT, hz, hgens, W, sF, R, F⟩ := (top_ran w).2 s' hs'
  have Fs : Facts w s.heap := ⟨sF, F, fun a o e => (R.get a).trans e⟩
  refine ⟨s₀, hf, hg0, s, hT, fun n hn => ?_, fun x hx => (nomatch hx), fun x hx => (nomatch hx), ?_⟩
  · have hn' : n ∈ [("law" : Str)] := hn
    obtain rfl := List.mem_singleton.mp hn'
    exact isDef W Fs
  have hi := ident_freeW hu ha hap
  have hwi : rowL.toRowW.claim.within = [] := List.isEmpty_iff.mp k6
  refine ClaimW.callFrom_of_specG (c := rowL.toRowW.claim) (tree := fun vs => do match ← nsGet mainNs rowL.name with
      | some f => do ret (← PySem.call f vs)
      | none => unsupported "claim.caller:no-such-global") hz hgens fun args hpre hlay ord hord => ?_
  obtain ⟨⟨vs, s₁⟩, hlaid⟩ := Option.isSome_iff_exists.mp (layAllW_isSome (P := w.params) (ord := ord) (cl := classAt s.heap) (R := rowL.toRowW.records) (fun c hc => (nomatch hc)) args rowL.args s (pre_splitW hpre).1)
  have keeps := layAllW_keeps _ _ _ hlaid
  have hal := layAllW_rest _ _ _ hlaid
  obtain ⟨as, hrd, hin, hold⟩ := reads_layAllW hord _ _ _ hlaid hlay s₁.heap (fun _ _ e => e)
  have L : Laid rowL.toRowW.records w s s₁ args vs as := ⟨⟨ord, hord, hlaid⟩, hrd, hin, hold, keeps, hal.1.trans hgens, hal.2.2.1⟩
  have hsz : sysModules < s.heap.objs.size := by
    have : 3 < s.heap.objs.size := Heap.lt_size W.o3
    exact Nat.lt_trans (by decide) this
  have hwl := L.well
  have hlo := L.low hsz
  have W₁ := W.keeps keeps
  have F₁ : Facts w s₁.heap := let ⟨sF, F, k⟩ := Fs; ⟨sF, F, fun a o e => keeps _ _ (k a o e)⟩
  refine ⟨vs, s₁, hlaid, ?_⟩
  have hns : s₁.heap.Ns mainNs (s₁.heap.nsMap mainNs) := .of_isNs W₁.mainNsOk
  have main : wpAny (model P w) callerA (PySem.call (.ref lawA) vs) (fun v s' => GoodWG rowL.toRowW.claim (classAt s.heap) (ExcName.means s.heap) args s₁ (.ok (.ret v)) s')
        (fun e s' => GoodWG rowL.toRowW.claim (classAt s.heap) (ExcName.means s.heap) args s₁ (.error e) s') s₁ := by
    have hg1 := L.gens
    clear L
    wrow_args hpre hlay hrd hwl hlo
    rename_i hL _ _ _ hI _ hc _
    refine wpAny_mono (walk w s₁ _ _ _ F₁ W₁ hg1 hL hI (by omega)) (fun v s' h => good h.1 h.2.1 h.2.2.1 h.2.2.2) fun _ _ h => h.elim
  refine wpAny_bind (wpAny_nsGet hns ?_)
  rw [show rowL.name = ("law" : Str) from rfl, law_ns w W₁]
  refine wpAny_bind (wpAny_mono main (fun v s' g => wpAny_pure ⟨_, rfl, ?_⟩) fun e s' g => ?_)
  · have z := g.laid (c := rowL.toRowW.claim) hsame hwi hi L
    exact ⟨z.1, z.2.1, z.2.2, fun q => ⟨namesKept_of hT W.mainNsOk rowL.keeps keeps g.2.1.old, noTable (R := rowL.toRowW.records) rfl q⟩⟩
  · have z := g.laid (c := rowL.toRowW.claim) hsame hwi hi L
    exact ⟨z.1, z.2.1, z.2.2, fun q => ⟨namesKept_of hT W.mainNsOk rowL.keeps keeps g.2.1.old, noTable (R := rowL.toRowW.records) rfl q⟩⟩
end
end Mine.Hd
end
section
open PySem PySem.W PyProof.Rows
namespace Mine.Hd
theorem said : rwL.wellSaid = true := (congrFun Fast.te9446332074065402090 _).trans (by kernel_rfl)
end Mine.Hd
end
section
open PySem PySem.W PyProof.Rows
namespace Mine.Py
inductive At where
  | none | bool (b : Bool) | int (i : Int) | lst (k : Nat)
  deriving DecidableEq
inductive AV where
  | at (a : At) | tup (l : List At) | ins (k : Nat) | meth (f k : Nat) | str (x : Str) | kl (j : Nat) | fn (f : Nat) | clo (k : Nat)
  deriving DecidableEq
noncomputable abbrev AV.lst (k : Nat) : AV := .at (.lst k)
inductive AO where
  | list (xs : List AV) | inst (fs : List AV)
noncomputable abbrev St := List AO
noncomputable abbrev Loc := List (Option AV)
inductive All2 {α β : Type} (R : α → β → Prop) : List α → List β → Prop
  | nil : All2 R [] []
  | cons {a b l r} : R a b → All2 R l r → All2 R (a :: l) (b :: r)
namespace All2
variable {α β : Type} {R S : α → β → Prop}
theorem length {l : List α} {r : List β} (h : All2 R l r) : l.length = r.length := by induction h with | nil => rfl | cons _ _ ih => simp [ih]
theorem mono {l : List α} {r : List β} (h : All2 R l r) (k : ∀ a b, R a b → S a b) : All2 S l r := by induction h with | nil => exact .nil | cons x _ ih => exact .cons (k _ _ x) ih
theorem mono' {l : List α} {r : List β} (h : All2 R l r) (k : ∀ a ∈ l, ∀ b, R a b → S a b) : All2 S l r := by
  induction h with
  | nil => exact .nil
  | cons x _ ih => exact .cons (k _ (.head _) _ x) (ih fun a ha => k a (.tail _ ha))
theorem get {l : List α} {r : List β} (h : All2 R l r) : ∀ {i : Nat} {a : α}, l[i]? = some a → ∃ b, r[i]? = some b ∧ R a b := by
  induction h with
  | nil => intro i a e; simp at e
  | cons x _ ih =>
    intro i a e
    cases i with
    | zero => simp at e; subst e; exact ⟨_, rfl, x⟩
    | succ i => simp only [List.getElem?_cons_succ] at e ⊢; exact ih e
theorem set {l : List α} {r : List β} (h : All2 R l r) : ∀ {i : Nat} {a : α} {b : β}, R a b → All2 R (l.set i a) (r.set i b) := by
  induction h with
  | nil => intro i a b _; exact .nil
  | cons x y ih =>
    intro i a b k
    cases i with
    | zero => exact .cons k y
    | succ i => exact .cons x (ih k)
theorem app {l l' : List α} {r r' : List β} (h : All2 R l r) (k : All2 R l' r') : All2 R (l ++ l') (r ++ r') := by induction h with | nil => exact k | cons x _ ih => exact .cons x ih
theorem take {l : List α} {r : List β} (h : All2 R l r) : ∀ n, All2 R (l.take n) (r.take n) := by
  induction h with
  | nil => intro n; simp; exact .nil
  | cons x _ ih => intro n; cases n with | zero => exact .nil | succ n => exact .cons x (ih n)
theorem drop {l : List α} {r : List β} (h : All2 R l r) : ∀ n, All2 R (l.drop n) (r.drop n) := by
  induction h with
  | nil => intro n; simp; exact .nil
  | cons x y ih => intro n; cases n with | zero => exact .cons x y | succ n => exact ih n
end All2
noncomputable def tupObj (vs : List Value) : Obj := { cls := .type "tuple", data := .seq vs.toArray }
noncomputable def isStrV : Option Value → Bool
  | some (.str _ _) => true
  | _ => false
noncomputable def isRefV : Option Value → Bool
  | some (.ref _) => true
  | _ => false
noncomputable def isCellD : Data → Bool
  | .cell _ => true
  | _ => false
noncomputable def immD (c : Value) : Data → Bool
  | .func _ => true
  | .cell v => isRefV v
  | .seq _ _ => c == .type "tuple"
  | .fields vs => c == .type "method" || isStrV vs[1]?
  | _ => false
noncomputable def immB (o : Obj) : Bool := immD o.cls o.data
noncomputable def Imm (o : Obj) : Prop := immB o = true
noncomputable def Un (o : Obj) : Prop := immB o = true ∨ isCellD o.data = true
theorem Imm.un {o : Obj} (h : Imm o) : Un o := .inl h
theorem Imm.tup (vs : List Value) : Imm (tupObj vs) := by with_unfolding_all rfl
theorem Imm.meth (f x : Value) : Imm (methodObj f x) := by with_unfolding_all rfl
theorem Imm.cell {o : Obj} {a : Addr} (h : o.data = .cell (some (.ref a))) : Imm o := by unfold Imm immB; rw [h]; rfl
theorem Imm.func {o : Obj} {f : FuncData} (h : o.data = .func f) : Imm o := by unfold Imm immB; rw [h]; rfl
theorem Imm.code {o : Obj} {vs : Array Value} {q : Str} {t : Nat} (h : o.data = .fields vs) (h1 : vs[1]? = some (.str q t)) : Imm o := by
  unfold Imm immB; rw [h]
  show (_ || isStrV vs[1]?) = true
  rw [h1, Bool.or_eq_true]; exact .inr rfl
theorem Un.cell {o : Obj} {v : Option Value} (h : o.data = .cell v) : Un o := .inr (by rw [h]; rfl)
theorem not_un {o : Obj} (h1 : immB o = false) (h2 : isCellD o.data = false) : ¬ Un o := by
  rintro (h | h)
  · rw [h1] at h; cases h
  · rw [h2] at h; cases h
theorem list_not_un {xs : Array Value} {n : Nat} : ¬ Un { cls := .type "list", data := .seq xs n } := not_un (by with_unfolding_all rfl) rfl
theorem inst_not_un {a b : Nat} : ¬ Un (instObj a b) := not_un rfl rfl
theorem dict_not_un {es : List DictEntry} {m : Nat} : ¬ Un (dictOf es m) := not_un rfl rfl
structure Cfg where
  P : Program
  w : World
  K : Frag
  C : Nat
  fa : Nat → Nat
  kls : Nat → Nat
  klv : Nat → List AV
  attrs : List Str
  Old : Nat → Prop
  wx : Nat
  lamQ : Str
  lamL : Nat
  lamC : Nat
  lam : Addr → Addr → Value → Obj
  lamF : ∀ a b v, ∃ fd, (lam a b v).data = .func fd
  kwx : K.lookup wx = none
  wlt : Old wx
  gens : Array GenState
  os : OsState
section
variable (n : Nat) (θ : Nat → Nat)
noncomputable def AtV : At → Value → Prop
  | .none, v => v = .none
  | .bool b, v => v = .bool b
  | .int i, v => ∃ t, v = .int i t
  | .lst k, v => k < n ∧ v = .ref (θ k)
end
section
variable (C : Cfg) (h : Heap) (n : Nat) (θ : Nat → Nat)
noncomputable def Val : AV → Value → Prop
  | .at a, v => AtV n θ a v
  | .tup l, v => ∃ t vs, v = .ref t ∧ h.get? t = some (tupObj vs) ∧ All2 (AtV n θ) l vs
  | .ins k, v => k < n ∧ v = .ref (θ k)
  | .meth f k, v => k < n ∧ ∃ q, v = .ref q ∧ h.get? q = some (methodObj (.ref (C.fa f)) (.ref (θ k)))
  | .str x, v => ∃ t, v = .str x t
  | .kl j, v => v = .ref (C.kls j)
  | .fn f, v => v = .ref (C.fa f)
  | .clo k, v => k < n ∧ ∃ q cell c' ctv, v = .ref q ∧ h.get? q = some (C.lam cell c' ctv) ∧ h.CodeRec (.ref c') C.lamQ ∧ h.IsCell cell (some (.ref (θ k)))
noncomputable def EntR (x : Str) (v : AV) (e : DictEntry) : Prop := (∃ t, e.key = .str x t) ∧ Val C h n θ v e.val
noncomputable def Fields : List Str → List AV → List DictEntry → Prop
  | _, [], [] => True
  | x :: xs, v :: vs, e :: es => EntR C h n θ x v e ∧ Fields xs vs es
  | _, _, _ => False
variable (δ : Nat → Nat)
noncomputable def ObjR (k : Nat) : AO → Prop
  | .list xs => δ k = θ k ∧ ∃ vs, h.PlainList (θ k) vs.toArray ∧ All2 (Val C h n θ) xs vs
  | .inst fs => ∃ es m, h.get? (θ k) = some (instObj C.C (δ k)) ∧ h.get? (δ k) = some (dictOf es m) ∧ Fields C h n θ C.attrs fs es
noncomputable def WrapOk (C : Cfg) (h : Heap) : Prop := ∃ ps, h.get? C.wx = some (tabObj ps) ∧ (ps = #[] ∨ ∃ c, ps = #[rawInt C.lamL, rawInt C.lamC, .ref c] ∧ h.CodeRec (.ref c) C.lamQ)
end
structure RelH (C : Cfg) (σ : St) (θ δ : Nat → Nat) (h : Heap) : Prop where
  kin : C.K.In h
  lim : h.NoLimit
  kl : ∀ j, ∃ vs, h.IsList (C.kls j) vs.toArray ∧ All2 (Val C h 0 θ) (C.klv j) vs
  klow : ∀ j, C.Old (C.kls j)
  obj : ∀ k o, σ[k]? = some o → ObjR C h σ.length θ δ k o
  inj : ∀ k k', k < σ.length → k' < σ.length → θ k = θ k' → k = k'
  dinj : ∀ k k', k < σ.length → k' < σ.length → δ k = δ k' → k = k'
  apart : ∀ k k', k < σ.length → k' < σ.length → θ k = δ k' → k = k'
  low : ∀ k, k < σ.length → ¬ C.Old (θ k) ∧ ¬ C.Old (δ k)
  klim : ∀ a o, C.K.lookup a = some o → C.Old a
  stat : C.Old cStatics
  old : ∀ a, C.Old a → ∃ o, h.get? a = some o
  wrap : WrapOk C h
noncomputable def Kept (σ : St) (θ δ : Nat → Nat) (L : List Nat) (h h' : Heap) : Prop :=
  ∀ b o, h.get? b = some o → b ∉ L → (∀ k, k < σ.length → b ≠ θ k ∧ b ≠ δ k) → h'.get? b = some o
noncomputable def Ext (σ : St) (θ δ : Nat → Nat) (h : Heap) (σ' : St) (θ' δ' : Nat → Nat) : Prop :=
  σ.length ≤ σ'.length ∧ (∀ k, k < σ.length → θ' k = θ k ∧ δ' k = δ k) ∧ ∀ k, σ.length ≤ k → k < σ'.length → h.get? (θ' k) = none ∧ h.get? (δ' k) = none
theorem Kept.refl (σ : St) (θ δ : Nat → Nat) (L : List Nat) (h : Heap) : Kept σ θ δ L h h := fun _ _ e _ _ => e
theorem Ext.refl (σ : St) (θ δ : Nat → Nat) (h : Heap) : Ext σ θ δ h σ θ δ := ⟨Nat.le_refl _, fun _ _ => ⟨rfl, rfl⟩, fun k h1 h2 => absurd h2 (Nat.not_lt.mpr h1)⟩
theorem Kept.trans {σ σ₁ : St} {θ δ θ₁ δ₁ : Nat → Nat} {L : List Nat} {h h₁ h₂ : Heap} (a : Kept σ θ δ L h h₁) (x : Ext σ θ δ h σ₁ θ₁ δ₁) (b : Kept σ₁ θ₁ δ₁ L h₁ h₂) : Kept σ θ δ L h h₂ := by
  refine fun c o e n1 n2 => b c o (a c o e n1 n2) n1 fun k hk => ?_
  by_cases q : k < σ.length
  · rw [(x.2.1 k q).1, (x.2.1 k q).2]; exact n2 k q
  · have := x.2.2 k (Nat.not_lt.mp q) hk
    refine ⟨fun z => ?_, fun z => ?_⟩
    · rw [z, this.1] at e; cases e
    · rw [z, this.2] at e; cases e
theorem Ext.trans {σ σ₁ σ₂ : St} {θ δ θ₁ δ₁ θ₂ δ₂ : Nat → Nat} {h h₁ : Heap} (x : Ext σ θ δ h σ₁ θ₁ δ₁) (hs : ∀ b, h₁.get? b = none → h.get? b = none) (y : Ext σ₁ θ₁ δ₁ h₁ σ₂ θ₂ δ₂) : Ext σ θ δ h σ₂ θ₂ δ₂ := by
  refine ⟨Nat.le_trans x.1 y.1, fun k hk => ?_, fun k h1 h2 => ?_⟩
  · have := y.2.1 k (Nat.lt_of_lt_of_le hk x.1)
    rw [this.1, this.2]; exact x.2.1 k hk
  · by_cases q : k < σ₁.length
    · rw [(y.2.1 k q).1, (y.2.1 k q).2]; exact x.2.2 k h1 q
    · have := y.2.2 k (Nat.not_lt.mp q) h2
      exact ⟨hs _ this.1, hs _ this.2⟩
theorem AtV.mono {n n' : Nat} {θ θ' : Nat → Nat} {a : At} {x : Value} (V : AtV n θ a x) (hn : n ≤ n') (hθ : ∀ k, k < n → θ' k = θ k) : AtV n' θ' a x := by
  cases a with
  | lst k => exact ⟨Nat.lt_of_lt_of_le V.1 hn, by rw [hθ k V.1]; exact V.2⟩
  | _ => exact V
theorem CodeRec.imm {h h' : Heap} {cd : Value} {q : Str} (x : h.CodeRec cd q) (hk : ∀ b o, h.get? b = some o → Imm o → h'.get? b = some o) : h'.CodeRec cd q :=
  let ⟨c, o, vs, t, e, g, d, r⟩ := x; ⟨c, o, vs, t, e, hk _ _ g (.code d r), d, r⟩
theorem IsCell.imm {h h' : Heap} {c : Addr} {a : Addr} (x : h.IsCell c (some (.ref a))) (hk : ∀ b o, h.get? b = some o → Imm o → h'.get? b = some o) : h'.IsCell c (some (.ref a)) :=
  let ⟨o, g, d⟩ := x; ⟨o, hk _ _ g (.cell d), d⟩
theorem WrapOk.keep {C : Cfg} {h h' : Heap} (x : WrapOk C h) (hw : ∀ o, h.get? C.wx = some o → h'.get? C.wx = some o) (hk : ∀ b o, h.get? b = some o → Imm o → h'.get? b = some o) : WrapOk C h' := by
  obtain ⟨ps, e, r⟩ := x
  exact ⟨ps, hw _ e, r.imp id fun ⟨c, e, r⟩ => ⟨c, e, CodeRec.imm r hk⟩⟩
theorem WrapOk.notUn {C : Cfg} {h : Heap} (x : WrapOk C h) : ∃ o, h.get? C.wx = some o ∧ ¬ Un o := by
  obtain ⟨ps, e, r⟩ := x
  refine ⟨_, e, not_un ?_ rfl⟩
  rcases r with rfl | ⟨c, rfl, _⟩
  · with_unfolding_all rfl
  · with_unfolding_all rfl
theorem Val.mono {C : Cfg} {h h' : Heap} {n n' : Nat} {θ θ' : Nat → Nat} {v : AV} {x : Value} (V : Val C h n θ v x) (hn : n ≤ n') (hθ : ∀ k, k < n → θ' k = θ k)
    (hk : ∀ b o, h.get? b = some o → Imm o → h'.get? b = some o) : Val C h' n' θ' v x := by
  cases v with
  | «at» a => exact AtV.mono V hn hθ
  | tup l => obtain ⟨t, vs, rfl, e, a⟩ := V; exact ⟨t, vs, rfl, hk _ _ e (.tup _), a.mono fun _ _ W => W.mono hn hθ⟩
  | ins k => exact ⟨Nat.lt_of_lt_of_le V.1 hn, by rw [hθ k V.1]; exact V.2⟩
  | meth f k => obtain ⟨a, q, rfl, e⟩ := V; exact ⟨Nat.lt_of_lt_of_le a hn, q, rfl, by rw [hθ k a]; exact hk _ _ e (.meth _ _)⟩
  | str y => exact V
  | kl j => exact V
  | fn f => exact V
  | clo k => obtain ⟨a, q, cell, c', ctv, rfl, e, e2, e3⟩ := V; exact ⟨Nat.lt_of_lt_of_le a hn, q, cell, c', ctv, rfl, hk _ _ e (let ⟨_, d⟩ := C.lamF cell c' ctv; .func d), CodeRec.imm e2 hk, by rw [hθ k a]; exact IsCell.imm e3 hk⟩
theorem Fields.mono {C : Cfg} {h h' : Heap} {n n' : Nat} {θ θ' : Nat → Nat} (hn : n ≤ n') (hθ : ∀ k, k < n → θ' k = θ k)
    (hk : ∀ b o, h.get? b = some o → Imm o → h'.get? b = some o) : ∀ {xs : List Str} {vs : List AV} {es : List DictEntry}, Fields C h n θ xs vs es → Fields C h' n' θ' xs vs es
  | [], [], [], _ => trivial
  | _ :: _, [], [], _ => trivial
  | x :: xs, v :: vs, e :: es, F => ⟨⟨F.1.1, F.1.2.mono hn hθ hk⟩, F.2.mono hn hθ hk⟩
  | [], _ :: _, [], F => F.elim
  | [], [], _ :: _, F => F.elim
  | [], _ :: _, _ :: _, F => F.elim
  | _ :: _, _ :: _, [], F => F.elim
  | _ :: _, [], _ :: _, F => F.elim
structure Fm where
  env : Env
  ns : List Str
  L : Nat
  oc : List Nat
noncomputable def Fm.own (F : Fm) (C : Cfg) : List Nat := C.wx :: F.L :: F.oc
noncomputable def Fm.At (F : Fm) (h : Heap) (x : Str) (val : Value) : Prop :=
  (F.env.scope.names.lookup x = some .local ∧ ∃ m, h.Ns F.L m ∧ m x = some val) ∨ (F.env.scope.names.lookup x ≠ some .local ∧ ∃ c, F.env.cells.lookup x = some c ∧ h.IsCell c (some val))
noncomputable def Fm.Kind (F : Fm) (x : Str) : Prop := F.env.scope.names.lookup x = some .local ∨ F.env.scope.names.lookup x = some .cell ∨ (F.env.scope.names.lookup x = some .free ∧ (x == ("__classdict__" : Str)) = false)
structure FmOk (F : Fm) : Prop where
  kind : F.env.scope.kind = .function
  loc : F.env.locals = F.L
  glob : F.env.globals = mainGlobals
  blt : F.env.builtins = builtinsNs
  names : ∀ (i : Nat) x, F.ns[i]? = some x → F.Kind x ∧ (x == ("__debug__" : Str)) = false
  nodup : ∀ (i j : Nat) x, F.ns[i]? = some x → F.ns[j]? = some x → i = j
  cdis : ∀ x y c, F.env.cells.lookup x = some c → F.env.cells.lookup y = some c → x = y
  inter : interactive F.env = false
structure R (C : Cfg) (F : Fm) (ρ : Loc) (σ : St) (θ δ : Nat → Nat) (s : Shared) : Prop where
  H : RelH C σ θ δ s.heap
  ns : ∃ m, s.heap.Ns F.L m
  loc : ∀ (i : Nat) x v, F.ns[i]? = some x → ρ[i]? = some (some v) → ∃ val, F.At s.heap x val ∧ Val C s.heap σ.length θ v val
  cel : ∀ c, c ∈ F.oc → ¬ C.Old c ∧ ∃ o v, s.heap.get? c = some o ∧ o.data = .cell v ∧ immB o = false
  len : ρ.length = F.ns.length
  apart : ∀ k, k < σ.length → θ k ≠ F.L ∧ δ k ≠ F.L
  low : ¬ C.Old F.L
  gens : s.gens = C.gens
  os : s.os = C.os
structure Back (C : Cfg) (F : Fm) (ρ' : Loc) (σ : St) (θ δ : Nat → Nat) (s : Shared) (σ' : St) (θ' δ' : Nat → Nat) (s' : Shared) : Prop where
  r : R C F ρ' σ' θ' δ' s'
  kept : Kept σ θ δ (F.own C) s.heap s'.heap
  ext : Ext σ θ δ s.heap σ' θ' δ'
theorem Back.refl {C : Cfg} {F : Fm} {ρ : Loc} {σ : St} {θ δ : Nat → Nat} {s : Shared} (r : R C F ρ σ θ δ s) : Back C F ρ σ θ δ s σ θ δ s := ⟨r, Kept.refl σ θ δ _ s.heap, .refl ..⟩
theorem RelH.there {C : Cfg} {σ : St} {θ δ : Nat → Nat} {h : Heap} (H : RelH C σ θ δ h) {k : Nat} (hk : k < σ.length) : (∃ o, h.get? (θ k) = some o) ∧ ∃ o, h.get? (δ k) = some o := by
  have O := H.obj k _ (List.getElem?_eq_getElem hk)
  cases hq : σ[k] with
  | list xs =>
    rw [hq] at O
    obtain ⟨e1, vs, ⟨nl, e2⟩, _⟩ := O
    exact ⟨⟨_, e2⟩, by rw [e1]; exact ⟨_, e2⟩⟩
  | inst fs =>
    rw [hq] at O
    obtain ⟨es, m, e1, e2, _⟩ := O
    exact ⟨⟨_, e1⟩, ⟨_, e2⟩⟩
theorem RelH.un {C : Cfg} {σ : St} {θ δ : Nat → Nat} {h : Heap} (H : RelH C σ θ δ h) {b : Nat} {o : Obj} (e : h.get? b = some o) (i : Un o) : ∀ k, k < σ.length → b ≠ θ k ∧ b ≠ δ k := by
  intro k hk
  have O := H.obj k _ (List.getElem?_eq_getElem hk)
  cases hq : σ[k] with
  | list xs =>
    rw [hq] at O
    obtain ⟨e1, vs, ⟨nl, e2⟩, _⟩ := O
    have : b ≠ θ k := by
      rintro rfl
      rw [e2] at e; cases e
      exact list_not_un i
    exact ⟨this, by rw [e1]; exact this⟩
  | inst fs =>
    rw [hq] at O
    obtain ⟨es, m, e1, e2, _⟩ := O
    constructor
    · rintro rfl
      rw [e1] at e; cases e
      exact inst_not_un i
    · rintro rfl
      rw [e2] at e; cases e
      exact dict_not_un i
theorem RelH.new {C : Cfg} {σ : St} {θ δ : Nat → Nat} {h : Heap} (H : RelH C σ θ δ h) {b : Nat} (e : h.get? b = none) : ¬ C.Old b := fun o => by
  obtain ⟨o', e'⟩ := H.old b o
  rw [e] at e'; cases e'
theorem RelH.imm {C : Cfg} {σ : St} {θ δ : Nat → Nat} {h : Heap} (H : RelH C σ θ δ h) {b : Nat} {o : Obj} (e : h.get? b = some o) (i : Imm o) : ∀ k, k < σ.length → b ≠ θ k ∧ b ≠ δ k := H.un e i.un
theorem RelH.nwx {C : Cfg} {σ : St} {θ δ : Nat → Nat} {h : Heap} (H : RelH C σ θ δ h) {b : Nat} {o : Obj} (e : h.get? b = some o) (i : Un o) : b ≠ C.wx := by
  rintro rfl
  obtain ⟨o', e', n⟩ := H.wrap.notUn
  rw [e] at e'; cases e'
  exact n i
theorem R.un {C : Cfg} {F : Fm} {ρ : Loc} {σ : St} {θ δ : Nat → Nat} {s : Shared} (r : R C F ρ σ θ δ s) {b : Nat} {o : Obj} (e : s.heap.get? b = some o) (i : Un o) : b ≠ F.L := by
  rintro rfl
  obtain ⟨m, ⟨o', es, ep, e1, e2, _⟩⟩ := r.ns
  rw [e1] at e; cases e
  refine not_un ?_ ?_ i
  · unfold immB; rw [e2]; rfl
  · rw [e2]; rfl
theorem R.imm {C : Cfg} {F : Fm} {ρ : Loc} {σ : St} {θ δ : Nat → Nat} {s : Shared} (r : R C F ρ σ θ δ s) {b : Nat} {o : Obj} (e : s.heap.get? b = some o) (i : Imm o) : b ∉ F.own C := by
  intro h
  rcases List.mem_cons.mp h with h | h
  · exact r.H.nwx e i.un h
  · rcases List.mem_cons.mp h with h | h
    · exact r.un e i.un h
    · obtain ⟨_, o', v, e', d, n⟩ := r.cel b h
      rw [e] at e'; cases e'
      unfold Imm at i; rw [n] at i; cases i
theorem R.wxL {C : Cfg} {F : Fm} {ρ : Loc} {σ : St} {θ δ : Nat → Nat} {s : Shared} (r : R C F ρ σ θ δ s) : F.L ≠ C.wx := fun q => r.low (q ▸ C.wlt)
theorem RelH.notwx {C : Cfg} {σ : St} {θ δ : Nat → Nat} {h : Heap} (H : RelH C σ θ δ h) {k : Nat} (hk : k < σ.length) : θ k ≠ C.wx ∧ δ k ≠ C.wx := ⟨fun q => (H.low k hk).1 (q ▸ C.wlt), fun q => (H.low k hk).2 (q ▸ C.wlt)⟩
theorem Back.there {C : Cfg} {F : Fm} {ρ₁ : Loc} {σ σ₁ : St} {θ δ θ₁ δ₁ : Nat → Nat} {s s₁ : Shared} (a : Back C F ρ₁ σ θ δ s σ₁ θ₁ δ₁ s₁) (b : Addr) (e : s₁.heap.get? b = none) : s.heap.get? b = none := by
  cases q : s.heap.get? b with
  | none => rfl
  | some o =>
    exfalso
    have := a.kept b o q (fun z => ?_) fun k hk => ⟨fun z => ?_, fun z => ?_⟩
    · rw [this] at e; cases e
    · rcases List.mem_cons.mp z with z | z
      · obtain ⟨o', e', _⟩ := a.r.H.wrap.notUn
        rw [← z, e] at e'; cases e'
      · rcases List.mem_cons.mp z with z | z
        · obtain ⟨m, ⟨o', _, _, e1, _⟩⟩ := a.r.ns
          rw [← z, e] at e1; cases e1
        · obtain ⟨_, o', v, e', _⟩ := a.r.cel b z
          rw [e] at e'; cases e'
    · obtain ⟨⟨o', e1⟩, _⟩ := a.r.H.there (Nat.lt_of_lt_of_le hk a.ext.1)
      rw [(a.ext.2.1 k hk).1, ← z, e] at e1; cases e1
    · obtain ⟨_, ⟨o', e1⟩⟩ := a.r.H.there (Nat.lt_of_lt_of_le hk a.ext.1)
      rw [(a.ext.2.1 k hk).2, ← z, e] at e1; cases e1
theorem Back.trans {C : Cfg} {F : Fm} {ρ₁ ρ₂ : Loc} {σ σ₁ σ₂ : St} {θ δ θ₁ δ₁ θ₂ δ₂ : Nat → Nat} {s s₁ s₂ : Shared} (a : Back C F ρ₁ σ θ δ s σ₁ θ₁ δ₁ s₁) (b : Back C F ρ₂ σ₁ θ₁ δ₁ s₁ σ₂ θ₂ δ₂ s₂) : Back C F ρ₂ σ θ δ s σ₂ θ₂ δ₂ s₂ :=
  ⟨b.r, a.kept.trans a.ext b.kept, a.ext.trans a.there b.ext⟩
theorem Back.val {C : Cfg} {F : Fm} {ρ ρ' : Loc} {σ σ' : St} {θ δ θ' δ' : Nat → Nat} {s s' : Shared} {v : AV} {x : Value} (b : Back C F ρ' σ θ δ s σ' θ' δ' s') (r : R C F ρ σ θ δ s) (V : Val C s.heap σ.length θ v x) : Val C s'.heap σ'.length θ' v x :=
  V.mono b.ext.1 (fun k hk => (b.ext.2.1 k hk).1) fun c o e i => b.kept c o e (r.imm e i) (r.H.imm e i)
theorem Fm.At.keep {F : Fm} {h h' : Heap} {x : Str} {val : Value} (a : F.At h x val) (hL : ∀ o, h.get? F.L = some o → h'.get? F.L = some o) (hc : ∀ b o, h.get? b = some o → isCellD o.data = true → h'.get? b = some o) : F.At h' x val := by
  rcases a with ⟨k, m, ⟨o, es, ep, e1, e2⟩, e⟩ | ⟨k, c, e, o, e1, e2⟩
  · exact .inl ⟨k, m, ⟨o, es, ep, hL _ e1, e2⟩, e⟩
  · exact .inr ⟨k, c, e, o, hc _ _ e1 (by rw [e2]; rfl), e2⟩
end Mine.Py
end
section
open PySem PySem.W PyProof.Rows
namespace Mine.Py
section
variable {C : Cfg} {F : Fm} {ρ : Loc} {σ : St} {θ δ : Nat → Nat} {s : Shared} {h h' : Heap}
theorem R.toks (r : R C F ρ σ θ δ s) (t : Nat) : R C F ρ σ θ δ { s with toks := t } := ⟨r.H, r.ns, r.loc, r.cel, r.len, r.apart, r.low, r.gens, r.os⟩
theorem RelH.besides {X : Nat → Prop} (H : RelH C σ θ δ h) (hk : ∀ b o, h.get? b = some o → ¬ X b → h'.get? b = some o) (hX : ∀ b, X b → ¬ C.Old b) (hT : ∀ k, k < σ.length → ¬ X (θ k) ∧ ¬ X (δ k)) (hI : ∀ b o, X b → h.get? b = some o → ¬ Imm o) : RelH C σ θ δ h' := by
  have imm : ∀ b o, h.get? b = some o → Imm o → h'.get? b = some o := fun b o e i => hk b o e fun q => hI b o q e i
  have lo : ∀ {b}, C.Old b → ¬ X b := fun q z => hX _ z q
  refine ⟨fun a o e => hk _ _ (H.kin a o e) (lo (H.klim a o e)), ?_, fun j => ?_, H.klow, fun k o ho => ?_, H.inj, H.dinj, H.apart, H.low, H.klim, H.stat, fun a q => let ⟨o, e⟩ := H.old a q; ⟨o, hk _ _ e (lo q)⟩, H.wrap.keep (fun o e => hk _ _ e (lo C.wlt)) imm⟩
  · obtain ⟨mc, ⟨o, es, ep, e1, e2⟩, e3⟩ := H.lim
    exact ⟨mc, ⟨o, es, ep, hk _ _ e1 (lo H.stat), e2⟩, e3⟩
  · obtain ⟨vs, ⟨o, e1, e2⟩, e3⟩ := H.kl j
    exact ⟨vs, ⟨o, hk _ _ e1 (lo (H.klow j)), e2⟩, e3.mono fun a b V => V.mono (Nat.le_refl _) (fun _ _ => rfl) imm⟩
  · have hkl : k < σ.length := (List.getElem?_eq_some_iff.mp ho).1
    have O := H.obj k o ho
    cases o with
    | list xs =>
      obtain ⟨e0, vs, ⟨nl, e1⟩, e2⟩ := O
      exact ⟨e0, vs, ⟨nl, hk _ _ e1 (hT k hkl).1⟩, e2.mono fun a b V => V.mono (Nat.le_refl _) (fun _ _ => rfl) imm⟩
    | inst fs =>
      obtain ⟨es, m, e1, e2, e3⟩ := O
      exact ⟨es, m, hk _ _ e1 (hT k hkl).1, hk _ _ e2 (hT k hkl).2, e3.mono (Nat.le_refl _) (fun _ _ => rfl) imm⟩
theorem RelH.beside {X : Nat} (H : RelH C σ θ δ h) (hk : ∀ b o, h.get? b = some o → b ≠ X → h'.get? b = some o) (hX : ¬ C.Old X) (hT : ∀ k, k < σ.length → X ≠ θ k ∧ X ≠ δ k) (hI : ∀ o, h.get? X = some o → ¬ Imm o) : RelH C σ θ δ h' :=
  H.besides (X := (· = X)) hk (fun _ e => e ▸ hX) (fun k q => ⟨Ne.symm (hT k q).1, Ne.symm (hT k q).2⟩) fun b o e => e ▸ hI o
theorem RelH.keepAll (H : RelH C σ θ δ h) (keep : ∀ b o, h.get? b = some o → h'.get? b = some o) : RelH C σ θ δ h' := H.besides (X := fun _ => False) (fun b o e _ => keep b o e) (fun _ q => q.elim) (fun _ _ => ⟨id, id⟩) fun _ _ q => q.elim
theorem RelH.push (H : RelH C σ θ δ h) (o : Obj) : RelH C σ θ δ (h.push o) := H.keepAll fun b o' e => Heap.get?_push_of_some _ e
theorem R.beside (r : R C F ρ σ θ δ s) {t : Nat} (H' : RelH C σ θ δ h') (hL : ∀ o, s.heap.get? F.L = some o → h'.get? F.L = some o) (un : ∀ b o, s.heap.get? b = some o → Un o → h'.get? b = some o) : R C F ρ σ θ δ { s with heap := h', toks := t } := by
  obtain ⟨m, ⟨o, es, ep, e1, e2⟩⟩ := r.ns
  exact ⟨H', ⟨m, ⟨o, es, ep, hL _ e1, e2⟩⟩, fun i x v a b => let ⟨val, c, V⟩ := r.loc i x v a b; ⟨val, c.keep hL fun b o e d => un b o e (.inr d), V.mono (Nat.le_refl _) (fun _ _ => rfl) fun b o e i => un b o e i.un⟩,
    fun c hc => let ⟨l, o, v, e, d, i⟩ := r.cel c hc; ⟨l, o, v, un _ _ e (.cell d), d, i⟩, r.len, r.apart, r.low, r.gens, r.os⟩
theorem R.push (r : R C F ρ σ θ δ s) (o : Obj) (t : Nat) : Back C F ρ σ θ δ s σ θ δ { s with heap := s.heap.push o, toks := t } :=
  ⟨r.beside (r.H.push o) (fun _ e => Heap.get?_push_of_some _ e) (fun _ _ e _ => Heap.get?_push_of_some _ e), fun _ _ e _ _ => Heap.get?_push_of_some _ e, .refl ..⟩
theorem R.tok (r : R C F ρ σ θ δ s) (t : Nat) : Back C F ρ σ θ δ s σ θ δ { s with toks := t } := ⟨r.toks t, Kept.refl σ θ δ _ s.heap, .refl ..⟩
theorem R.store (r : R C F ρ σ θ δ s) (fo : FmOk F) {i : Nat} {x : Str} {v : AV} {val : Value} {t : Nat} (hx : F.ns[i]? = some x) (hl : F.env.scope.names.lookup x = some .local) (V : Val C s.heap σ.length θ v val)
    (hn : ∀ m, s.heap.Ns F.L m → h'.Ns F.L (fun y => if y = x then some val else m y)) (hs : Heap.SameBut F.L s.heap h') : Back C F (ρ.set i (some v)) σ θ δ s σ θ δ { s with heap := h', toks := t } := by
  have hk : ∀ b o, s.heap.get? b = some o → b ≠ F.L → h'.get? b = some o := fun b o e n => (hs.2 b n).trans e
  have un : ∀ b o, s.heap.get? b = some o → Un o → h'.get? b = some o := fun b o e i => hk b o e (r.un e i)
  have imm : ∀ b o, s.heap.get? b = some o → Imm o → h'.get? b = some o := fun b o e i => un b o e i.un
  obtain ⟨m, N⟩ := r.ns
  refine ⟨⟨r.H.beside hk r.low (fun k q => ⟨Ne.symm (r.apart k q).1, Ne.symm (r.apart k q).2⟩) (fun o e i => r.un e i.un rfl), ⟨_, hn m N⟩, ?_, fun c hc => let ⟨l, o, v, e, d, i⟩ := r.cel c hc; ⟨l, o, v, un _ _ e (.cell d), d, i⟩, by rw [List.length_set]; exact r.len, r.apart, r.low, r.gens, r.os⟩, fun b o e n _ => hk b o e fun q => n (by unfold Fm.own; rw [q]; exact .tail _ (.head _)), .refl ..⟩
  intro j y u hy hu
  by_cases e : j = i
  · subst e
    rw [hx] at hy; cases hy
    have : j < ρ.length := by rw [r.len]; exact (List.getElem?_eq_some_iff.mp hx).1
    rw [List.getElem?_set_self this] at hu
    cases hu
    exact ⟨val, .inl ⟨hl, _, hn m N, if_pos rfl⟩, V.mono (Nat.le_refl _) (fun _ _ => rfl) imm⟩
  · rw [List.getElem?_set_ne (Ne.symm e)] at hu
    obtain ⟨w', a, b⟩ := r.loc j y u hy hu
    have hne : y ≠ x := fun q => e (fo.nodup j i x (q ▸ hy) hx)
    refine ⟨w', ?_, b.mono (Nat.le_refl _) (fun _ _ => rfl) imm⟩
    rcases a with ⟨k, m', N', a⟩ | ⟨k, c, a, o, g, d⟩
    · exact .inl ⟨k, _, hn m' N', by simp only [hne, if_false]; exact a⟩
    · exact .inr ⟨k, c, a, o, un _ _ g (.cell d), d⟩
theorem R.storeC (r : R C F ρ σ θ δ s) (fo : FmOk F) {i c : Nat} {x : Str} {n t' : Int} {tk : Nat} {t : Nat} (hx : F.ns[i]? = some x) (hl : F.env.scope.names.lookup x = some .cell) (hc : F.env.cells.lookup x = some c) (ho : c ∈ F.oc)
    (hn : h'.IsCell c (some (.int n tk))) (hs : Heap.SameBut c s.heap h') : Back C F (ρ.set i (some (.at (.int n)))) σ θ δ s σ θ δ { s with heap := h', toks := t } := by
  have hk : ∀ b o, s.heap.get? b = some o → b ≠ c → h'.get? b = some o := fun b o e n => (hs.2 b n).trans e
  obtain ⟨lim, oc, vc, ec, dc, ic⟩ := r.cel c ho
  have imm : ∀ b o, s.heap.get? b = some o → Imm o → h'.get? b = some o := fun b o e i => hk b o e fun q => by
    rw [q, ec] at e; cases e; unfold Imm at i; rw [ic] at i; cases i
  have cL : F.L ≠ c := fun q => r.un (q ▸ ec) (.cell dc) rfl
  have cT := r.H.un ec (.cell dc)
  obtain ⟨m, ⟨o, es, ep, e1, e2⟩⟩ := r.ns
  have hL : ∀ o, s.heap.get? F.L = some o → h'.get? F.L = some o := fun o e => hk _ _ e cL
  have N' := hL _ e1
  refine ⟨⟨r.H.beside hk lim cT (fun o e i => by rw [ec] at e; cases e; unfold Imm at i; rw [ic] at i; cases i), ⟨m, o, es, ep, N', e2⟩, ?_, ?_, by rw [List.length_set]; exact r.len, r.apart, r.low, r.gens, r.os⟩, fun b o e n _ => hk b o e fun q => n (by unfold Fm.own; rw [q]; exact .tail _ (.tail _ ho)), .refl ..⟩
  · intro j y u hy hu
    by_cases e : j = i
    · subst e
      rw [hx] at hy; cases hy
      have : j < ρ.length := by rw [r.len]; exact (List.getElem?_eq_some_iff.mp hx).1
      rw [List.getElem?_set_self this] at hu
      cases hu
      exact ⟨_, .inr ⟨by rw [hl]; decide, c, hc, hn⟩, _, rfl⟩
    · rw [List.getElem?_set_ne (Ne.symm e)] at hu
      obtain ⟨w', a, b⟩ := r.loc j y u hy hu
      have hne : y ≠ x := fun q => e (fo.nodup j i x (q ▸ hy) hx)
      refine ⟨w', ?_, b.mono (Nat.le_refl _) (fun _ _ => rfl) imm⟩
      rcases a with ⟨k, m', ⟨o', es', ep', a1, a2⟩, a⟩ | ⟨k, c', a, o, g, d⟩
      · exact .inl ⟨k, m', ⟨o', es', ep', hL _ a1, a2⟩, a⟩
      · exact .inr ⟨k, c', a, o, hk _ _ g fun q => hne (fo.cdis _ _ _ (q ▸ a) hc), d⟩
  · intro c' hc'
    by_cases q : c' = c
    · subst q
      obtain ⟨o, g, d⟩ := hn
      exact ⟨lim, o, _, g, d, by unfold immB; rw [d]; rfl⟩
    · obtain ⟨l, o, v, e, d, i⟩ := r.cel c' hc'
      exact ⟨l, o, v, hk _ _ e q, d, i⟩
theorem R.change {X k₀ : Nat} {o' : AO} (r : R C F ρ σ θ δ s) {t : Nat} (hk₀ : k₀ < σ.length) (hX : X = θ k₀ ∨ X = δ k₀) (hs : Heap.SameBut X s.heap h') (hI : ∀ o, s.heap.get? X = some o → ¬ Un o)
    (hO : (∀ b o, s.heap.get? b = some o → Imm o → h'.get? b = some o) → ObjR C h' σ.length θ δ k₀ o') : Back C F ρ σ θ δ s (σ.set k₀ o') θ δ { s with heap := h', toks := t } := by
  have sz : s.heap.objs.size ≤ h'.objs.size := Nat.le_of_eq hs.1.symm
  have hk : ∀ b o, s.heap.get? b = some o → b ≠ X → h'.get? b = some o := fun b o e n => (hs.2 b n).trans e
  have un : ∀ b o, s.heap.get? b = some o → Un o → h'.get? b = some o := fun b o e i => hk b o e fun q => hI o (q ▸ e) i
  have imm : ∀ b o, s.heap.get? b = some o → Imm o → h'.get? b = some o := fun b o e i => un b o e i.un
  have H := r.H
  have limX : ¬ C.Old X := by rcases hX with rfl | rfl; exact (H.low _ hk₀).1; exact (H.low _ hk₀).2
  have neL : F.L ≠ X := by rcases hX with rfl | rfl; exact Ne.symm (r.apart _ hk₀).1; exact Ne.symm (r.apart _ hk₀).2
  have other : ∀ k, k < σ.length → k ≠ k₀ → θ k ≠ X ∧ δ k ≠ X := by
    intro k hk' ne
    rcases hX with rfl | rfl
    · exact ⟨fun q => ne (H.inj _ _ hk' hk₀ q), fun q => ne (H.apart _ _ hk₀ hk' q.symm).symm⟩
    · exact ⟨fun q => ne (H.apart _ _ hk' hk₀ q), fun q => ne (H.dinj _ _ hk' hk₀ q)⟩
  have H' : RelH C (σ.set k₀ o') θ δ h' := by
    refine ⟨fun a o e => hk _ _ (H.kin a o e) (fun q => limX (q ▸ H.klim a o e)), ?_, fun j => ?_, H.klow, fun k o ho => ?_, ?_, ?_, ?_, ?_, H.klim, H.stat, fun a q => let ⟨o, e⟩ := H.old a q; ⟨o, hk _ _ e fun z => limX (z ▸ q)⟩, H.wrap.keep (fun o e => hk _ _ e (fun q => limX (q ▸ C.wlt))) imm⟩
    · obtain ⟨mc, ⟨o, es, ep, e1, e2⟩, e3⟩ := H.lim
      exact ⟨mc, ⟨o, es, ep, hk _ _ e1 (fun q => limX (q ▸ H.stat)), e2⟩, e3⟩
    · obtain ⟨vs, ⟨o, e1, e2⟩, e3⟩ := H.kl j
      exact ⟨vs, ⟨o, hk _ _ e1 (fun q => limX (q ▸ H.klow j)), e2⟩, e3.mono fun a b V => V.mono (Nat.le_refl _) (fun _ _ => rfl) imm⟩
    · rw [List.length_set]
      by_cases q : k = k₀
      · subst q
        rw [List.getElem?_set_self hk₀] at ho
        cases ho
        exact hO imm
      · rw [List.getElem?_set_ne (Ne.symm q)] at ho
        have hkl : k < σ.length := (List.getElem?_eq_some_iff.mp ho).1
        have O := H.obj k o ho
        have ne := other k hkl q
        cases o with
        | list xs =>
          obtain ⟨e0, vs, ⟨nl, e1⟩, e2⟩ := O
          exact ⟨e0, vs, ⟨nl, hk _ _ e1 ne.1⟩, e2.mono fun a b V => V.mono (Nat.le_refl _) (fun _ _ => rfl) imm⟩
        | inst fs =>
          obtain ⟨es, m, e1, e2, e3⟩ := O
          exact ⟨es, m, hk _ _ e1 ne.1, hk _ _ e2 ne.2, e3.mono (Nat.le_refl _) (fun _ _ => rfl) imm⟩
    all_goals rw [List.length_set]
    · exact H.inj
    · exact H.dinj
    · exact H.apart
    · exact H.low
  obtain ⟨m, ⟨o, es, ep, e1, e2⟩⟩ := r.ns
  have hL : ∀ o, s.heap.get? F.L = some o → h'.get? F.L = some o := fun o e => hk _ _ e neL
  refine ⟨⟨H', ⟨m, ⟨o, es, ep, hL _ e1, e2⟩⟩, fun i x v a b => let ⟨val, c, V⟩ := r.loc i x v a b; ⟨val, c.keep hL fun b o e d => un b o e (.inr d), by rw [List.length_set]; exact V.mono (Nat.le_refl _) (fun _ _ => rfl) imm⟩,
    fun c hc => let ⟨l, o, v, e, d, i⟩ := r.cel c hc; ⟨l, o, v, un _ _ e (.cell d), d, i⟩, r.len, by rw [List.length_set]; exact r.apart, r.low, r.gens, r.os⟩, fun b o e n1 n2 => hk b o e fun q => ?_, by rw [List.length_set]; exact Nat.le_refl _, fun _ _ => ⟨rfl, rfl⟩, fun k a b => by rw [List.length_set] at b; lia⟩
  rcases hX with rfl | rfl
  · exact (n2 k₀ hk₀).1 q
  · exact (n2 k₀ hk₀).2 q
theorem R.setList {k : Nat} {xs xs' : List AV} {vs' : List Value} (r : R C F ρ σ θ δ s) {t : Nat} (hk : σ[k]? = some (.list xs)) (hs : Heap.SameBut (θ k) s.heap h') (hl : h'.PlainList (θ k) vs'.toArray) (hv : All2 (Val C s.heap σ.length θ) xs' vs') :
    Back C F ρ σ θ δ s (σ.set k (.list xs')) θ δ { s with heap := h', toks := t } := by
  have O := r.H.obj k _ hk
  obtain ⟨e0, vs, ⟨nl, e1⟩, _⟩ := O
  refine r.change (List.getElem?_eq_some_iff.mp hk).1 (.inl rfl) hs (fun o e i => ?_) fun imm => ⟨e0, vs', hl, hv.mono fun a b V => V.mono (Nat.le_refl _) (fun _ _ => rfl) imm⟩
  rw [e1] at e; cases e
  exact list_not_un i
theorem R.setInst {k : Nat} {fs fs' : List AV} {es' : List DictEntry} {m' : Nat} (r : R C F ρ σ θ δ s) {t : Nat} (hk : σ[k]? = some (.inst fs)) (hs : Heap.SameBut (δ k) s.heap h') (hd : h'.get? (δ k) = some (dictOf es' m')) (hf : Fields C s.heap σ.length θ C.attrs fs' es') :
    Back C F ρ σ θ δ s (σ.set k (.inst fs')) θ δ { s with heap := h', toks := t } := by
  have O := r.H.obj k _ hk
  obtain ⟨es, m, e1, e2, _⟩ := O
  have hkl := (List.getElem?_eq_some_iff.mp hk).1
  have ne : θ k ≠ δ k := by
    intro q; rw [q, e2] at e1; cases e1
  refine r.change hkl (.inr rfl) hs (fun o e i => ?_) fun imm => ⟨es', m', (hs.2 _ ne).trans e1, hd, hf.mono (Nat.le_refl _) (fun _ _ => rfl) imm⟩
  rw [e2] at e; cases e
  exact dict_not_un i
noncomputable def ext1 (θ : Nat → Nat) (n a : Nat) (k : Nat) : Nat := if k = n then a else θ k
theorem ext1_old {θ : Nat → Nat} {n a k : Nat} (h : k < n) : ext1 θ n a k = θ k := by unfold ext1; rw [if_neg (by lia)]
theorem ext1_new {θ : Nat → Nat} {n a : Nat} : ext1 θ n a n = a := by unfold ext1; rw [if_pos rfl]
theorem RelH.grow {X D : Nat} {ao : AO} (H : RelH C σ θ δ h) (hk : ∀ b o, h.get? b = some o → h'.get? b = some o) (fX : h.get? X = none) (fD : h.get? D = none)
    (hO : ObjR C h' (σ ++ [ao]).length (ext1 θ σ.length X) (ext1 δ σ.length D) σ.length ao) : RelH C (σ ++ [ao]) (ext1 θ σ.length X) (ext1 δ σ.length D) h' := by
  have len : (σ ++ [ao]).length = σ.length + 1 := by simp
  have imm : ∀ b o, h.get? b = some o → Imm o → h'.get? b = some o := fun b o e _ => hk b o e
  have vm : ∀ {v x}, Val C h σ.length θ v x → Val C h' (σ ++ [ao]).length (ext1 θ σ.length X) v x := fun V => V.mono (by simp) (fun k q => ext1_old q) imm
  have cmp : ∀ k, k < σ.length → θ k ≠ X ∧ θ k ≠ D ∧ δ k ≠ X ∧ δ k ≠ D := fun k q => by
    obtain ⟨⟨o1, e1⟩, ⟨o2, e2⟩⟩ := H.there q
    refine ⟨fun z => ?_, fun z => ?_, fun z => ?_, fun z => ?_⟩
    · rw [z, fX] at e1; cases e1
    · rw [z, fD] at e1; cases e1
    · rw [z, fX] at e2; cases e2
    · rw [z, fD] at e2; cases e2
  refine ⟨fun a o e => hk _ _ (H.kin a o e), ?_, fun j => ?_, H.klow, fun k ob hob => ?_, ?_, ?_, ?_, ?_, H.klim, H.stat, fun a q => let ⟨o, e⟩ := H.old a q; ⟨o, hk _ _ e⟩, H.wrap.keep (fun o e => hk _ _ e) imm⟩
  · obtain ⟨mc, ⟨o, es, ep, e1, e2⟩, e3⟩ := H.lim
    exact ⟨mc, ⟨o, es, ep, hk _ _ e1, e2⟩, e3⟩
  · obtain ⟨vs, ⟨o, e1, e2⟩, e3⟩ := H.kl j
    exact ⟨vs, ⟨o, hk _ _ e1, e2⟩, e3.mono fun a b V => V.mono (Nat.le_refl _) (fun k q => absurd q (Nat.not_lt_zero _)) imm⟩
  · by_cases q : k < σ.length
    · rw [List.getElem?_append_left q] at hob
      have O := H.obj k ob hob
      cases ob with
      | list ys =>
        obtain ⟨e0, vs, ⟨nl, e1⟩, e2⟩ := O
        exact ⟨by rw [ext1_old q, ext1_old q]; exact e0, vs, ⟨nl, by rw [ext1_old q]; exact hk _ _ e1⟩, e2.mono fun a b V => vm V⟩
      | inst fs =>
        obtain ⟨es, m, e1, e2, e3⟩ := O
        exact ⟨es, m, by rw [ext1_old q, ext1_old q]; exact hk _ _ e1, by rw [ext1_old q]; exact hk _ _ e2, e3.mono (by simp) (fun k q => ext1_old q) imm⟩
    · have hlt := (List.getElem?_eq_some_iff.mp hob).1
      rw [len] at hlt
      obtain rfl : k = σ.length := by lia
      rw [List.getElem?_append_right (Nat.le_refl _), Nat.sub_self] at hob
      cases hob
      exact hO
  all_goals rw [len]
  · intro k k' a b e
    unfold ext1 at e
    split at e <;> split at e
    · lia
    · exact absurd e.symm (cmp k' (by lia)).1
    · exact absurd e (cmp k (by lia)).1
    · exact H.inj k k' (by lia) (by lia) e
  · intro k k' a b e
    unfold ext1 at e
    split at e <;> split at e
    · lia
    · exact absurd e.symm (cmp k' (by lia)).2.2.2
    · exact absurd e (cmp k (by lia)).2.2.2
    · exact H.dinj k k' (by lia) (by lia) e
  · intro k k' a b e
    unfold ext1 at e
    split at e <;> split at e
    · lia
    · exact absurd e.symm (cmp k' (by lia)).2.2.1
    · exact absurd e (cmp k (by lia)).2.1
    · exact H.apart k k' (by lia) (by lia) e
  · intro k a
    unfold ext1
    split
    · exact ⟨H.new fX, H.new fD⟩
    · exact H.low k (by lia)
theorem get_size {h : Heap} {n : Nat} (q : h.objs.size ≤ n) : h.get? n = none := by
  cases e : h.get? n with
  | none => rfl
  | some o' => exact absurd (Heap.lt_size e) (Nat.not_lt.mpr q)
theorem R.newListG {xs : List AV} {vs : List Value} {D : Nat} (r : R C F ρ σ θ δ s) {t : Nat} (fD : s.heap.get? D = none) (hk : ∀ b o, s.heap.get? b = some o → h'.get? b = some o) (hp : h'.PlainList D vs.toArray) (hv : All2 (Val C s.heap σ.length θ) xs vs) :
    Back C F ρ σ θ δ s (σ ++ [.list xs]) (ext1 θ σ.length D) (ext1 δ σ.length D) { s with heap := h', toks := t } := by
  have imm : ∀ b o, s.heap.get? b = some o → Imm o → h'.get? b = some o := fun b o e _ => hk b o e
  obtain ⟨m, ⟨o', es, ep, e1, e2⟩⟩ := r.ns
  have vm : ∀ {v x}, Val C s.heap σ.length θ v x → Val C h' (σ ++ [AO.list xs]).length (ext1 θ σ.length D) v x := fun V => V.mono (by simp) (fun k q => ext1_old q) imm
  have len : (σ ++ [AO.list xs]).length = σ.length + 1 := by simp
  have H' : RelH C (σ ++ [.list xs]) (ext1 θ σ.length D) (ext1 δ σ.length D) h' :=
    r.H.grow hk fD fD ⟨by rw [ext1_new, ext1_new], vs, by rw [ext1_new]; exact hp, hv.mono fun a b V => vm V⟩
  refine ⟨⟨H', ⟨m, ⟨o', es, ep, hk _ _ e1, e2⟩⟩, fun i x v a b => let ⟨val, c, V⟩ := r.loc i x v a b; ⟨val, c.keep (fun o e => hk _ _ e) (fun b o e _ => hk _ _ e), vm V⟩, fun c hc => let ⟨l, o, v, e, d, i⟩ := r.cel c hc; ⟨l, o, v, hk _ _ e, d, i⟩, r.len, ?_, r.low, r.gens, r.os⟩, fun b o' e _ _ => hk b o' e, by rw [len]; lia, fun k q => ⟨ext1_old q, ext1_old q⟩, fun k a b => ?_⟩
  · intro k q
    rw [len] at q
    by_cases z : k < σ.length
    · rw [ext1_old z, ext1_old z]; exact r.apart k z
    · obtain rfl : k = σ.length := by lia
      rw [ext1_new, ext1_new]
      have : D ≠ F.L := fun z => by rw [z, e1] at fD; cases fD
      exact ⟨this, this⟩
  · rw [len] at b
    obtain rfl : k = σ.length := by lia
    rw [ext1_new, ext1_new]; exact ⟨fD, fD⟩
theorem R.newList {xs : List AV} {vs : List Value} {n : Nat} (r : R C F ρ σ θ δ s) {t : Nat} (hv : All2 (Val C s.heap σ.length θ) xs vs) :
    Back C F ρ σ θ δ s (σ ++ [.list xs]) (ext1 θ σ.length s.heap.objs.size) (ext1 δ σ.length s.heap.objs.size) { s with heap := s.heap.push { cls := .type "list", data := .seq vs.toArray n }, toks := t } :=
  r.newListG (get_size (Nat.le_refl _)) (fun b o' e => Heap.get?_push_of_some _ e) ⟨n, Heap.get?_push_size _ rfl⟩ hv
end
end Mine.Py
end
section
open PySem PySem.W PyProof.Rows
namespace Mine.Py
noncomputable def cutG {α : Type} : Option Nat → List α → List α
  | none, xs => xs
  | some n, xs => xs.take n
noncomputable def cutI : Option Nat → Option Int
  | none => none
  | some n => some (n : Int)
theorem pick_cut (hi : Option Nat) (vs : List Value) : slicePick vs.toArray none (cutI hi) none = (cutG hi vs).toArray := by
  cases hi with
  | none => exact slicePick_all _
  | some n =>
    by_cases h : n ≤ vs.length
    · exact (slicePick_upto vs.toArray n (by simpa using h))
    · have e : slicePick vs.toArray none (some (n : Int)) none = slicePick vs.toArray none none none := by
        unfold slicePick
        have : sliceBounds none (some (n : Int)) none vs.toArray.size = sliceBounds none none none vs.toArray.size := by
          simp only [sliceBounds, Option.getD_none, List.size_toArray]
          have h2 : ¬ ((n : Int) < 0) := by lia
          simp only [h2, if_false, show (1 : Int) > 0 by decide, if_true]
          congr 2
          lia
        rw [this]
      rw [show cutI (some n) = some (n : Int) from rfl, e, slicePick_all]
      show _ = (vs.take n).toArray
      rw [List.take_of_length_le (by lia)]
theorem All2.cut {α β : Type} {R : α → β → Prop} {l : List α} {r : List β} (h : All2 R l r) (hi : Option Nat) : All2 R (cutG hi l) (cutG hi r) := by
  cases hi with
  | none => exact h
  | some n => exact h.take n
theorem All2.rep {α β : Type} {R : α → β → Prop} {l : List α} {r : List β} (h : All2 R l r) : ∀ n, All2 R (List.replicate n l).flatten (List.replicate n r).flatten
  | 0 => .nil
  | n + 1 => by rw [List.replicate_succ, List.replicate_succ, List.flatten_cons, List.flatten_cons]; exact h.app (h.rep n)
theorem PlainList.mk' {h : Heap} {a : Addr} {vs : List Value} {n : Nat} (e : h.get? a = some { cls := .type "list", data := .seq vs.toArray n }) : h.PlainList a vs.toArray := ⟨n, e⟩
section
variable {prog : Program} {w : World} {A : Around} {E : Value → Shared → Prop} {s : Shared}
theorem mul_plain {l : Addr} {vs : List Value} {x : Int} {u : Tok} {Q : Value → Shared → Prop} (hl : s.heap.PlainList l vs.toArray) (h0 : 0 ≤ x) (hhi : x < 2 ^ 63) (hsz : vs.length * x.toNat ≤ 2 ^ 24)
    (q : Q (.ref s.heap.objs.size) { s with heap := s.heap.push { cls := .type "list", data := .seq (List.replicate x.toNat vs).flatten.toArray } }) : wpAny (model prog w) A (binaryOp .Mult (.ref l) (.int x u)) Q E s := by
  obtain ⟨n, ho⟩ := hl
  have hs : vs.toArray.size * x.toNat ≤ 2 ^ 24 := by simpa using hsz
  refine wpAny_binaryOp_repeat_ref (T := "list") (U := "int") (by decide) ⟨_, ho, rfl⟩ (fun s' => typeIs_int s' x u) noFill_list_mul F.fills_int_mul F.slot_int_rmul repeat_list F.slot_int_index.lookup
    (call_meets F.slot_int_rmul (typeIs_int s x u) F.entry_int_rmul (F.args_int_rmul_2 _ _) (int___rmul___int_list x u l vs.toArray n) ⟨ho, rfl, ⟨_, ho, rfl⟩, ?_⟩)
  refine call_meets F.slot_list_mul ⟨_, ho, rfl⟩ F.entry_list_mul (F.args_list_mul_2 _ _) (AutoListH.list___mul___list_int_3 l vs.toArray n x u (by simp [Builtin.List.listFitsIndex]; lia) (by lia) (by simp [Builtin.List.listTooLong, sizeLine]; lia)) ⟨ho, ?_⟩
  rw [listMul_foldl_if]
  exact q
theorem add_plain {l b : Addr} {vs ws : List Value} {Q : Value → Shared → Prop} (hl : s.heap.IsList l vs.toArray) (hb : s.heap.IsList b ws.toArray) (hsz : vs.length + ws.length ≤ 2 ^ 24)
    (q : Q (.ref s.heap.objs.size) { s with heap := s.heap.push { cls := .type "list", data := .seq (vs ++ ws).toArray } }) : wpAny (model prog w) A (binaryOp .Add (.ref l) (.ref b)) Q E s := by
  obtain ⟨⟨cls, dd, data, sl⟩, ho, hc, n, hd⟩ := id hl
  obtain ⟨⟨cls2, dd2, data2, sl2⟩, ho2, hc2, n2, hd2⟩ := id hb
  simp only at hc hd hc2 hd2
  subst hc hd hc2 hd2
  have e : vs.toArray ++ ws.toArray = (vs ++ ws).toArray := by simp
  refine concat_meets ⟨_, ho, rfl⟩ ⟨_, ho2, rfl⟩ noFill_list_add seq_list_add F.slot_list_add F.entry_list_add (F.args_list_add_2 _ _) (list_addW l b vs.toArray ws.toArray n n2 dd dd2 sl sl2 (by rw [sizeLine_eq]; simpa using hsz)) ⟨ho, ho2, ?_⟩
  rw [e]; exact q
theorem mapSeq_plain (f : Array Value → Array Value) (its : Array Value) (n : Nat) : ∃ n', Obj.mapSeq f { cls := .type "list", data := .seq its n } = { cls := .type "list", data := .seq (f its) n' } := by
  obtain ⟨n', e⟩ := Obj.data_mapSeq (o := { cls := .type "list", data := .seq its n }) rfl f
  refine ⟨n', ?_⟩
  unfold Obj.mapSeq at e ⊢
  dsimp only at e ⊢
  injection e with e1 e2
  rw [← e2]
theorem setItem_plain {l : Addr} {items : Array Value} {k : Int} {t : Tok} {v : Value} {Q : Unit → Shared → Prop} (hl : s.heap.PlainList l items) (h0 : 0 ≤ k) (hfit : k < 2 ^ 63) (hn : k < items.size)
    (hQ : ∀ h', h'.PlainList l (items.setIfInBounds k.toNat v) → Heap.SameBut l s.heap h' → Q () { s with heap := h' }) : wpAny (model prog w) A (setItem (.ref l) (.int k t) v) Q E s := by
  have hT := hl.isList.typeIs (s := s)
  obtain ⟨n, ho⟩ := hl
  unfold setItem
  try with_reducible refine wpAny_holding ?_
  first | refine wpAny_bind (wpAny_pure ?_) | skip
  refine wpAny_bind (wpAny_sequenceKey hT (by decide) ?_)
  refine wpAny_bind (wpAny_callSpecial?_slot (name := Str.ofString "__setitem__") hT slot_list_setitem (wpAny_call_entry slot_list_setitem hT entry_list_setitem ?_ (args_list_setitem _ _ _)))
  show wpAny _ _ (Builtin.List.listSubscript? (.int k t) >>= _) _ _ s
  refine wpAny_bind (wpAny_listSubscript_int (fitsIndex_of h0 hfit) ?_)
  clear hfit
  obtain ⟨j, rfl⟩ := Int.eq_ofNat_of_zero_le h0
  have hj : j < items.size := by lia
  obtain ⟨n', e⟩ := mapSeq_plain (·.setIfInBounds j v) items n
  have key : Q () { s with heap := s.heap.update l (Obj.mapSeq (·.setIfInBounds j v)) } := by
    refine hQ _ ⟨n', ?_⟩ (Heap.SameBut.update ..)
    rw [Heap.get?_update_self _ ho (by rw [e]; rfl), e]; rfl
  show wpAny _ _ ((seqItemAt l j >>= fun r => pure (r.map (j, ·))) >>= _) _ _ s
  refine wpAny_bind (wpAny_bind (wpAny_seqItemAt ho rfl (wpAny_pure ?_)))
  rw [Array.getElem?_eq_getElem hj]
  show wpAny _ _ (setSeqItemAt l j v >>= _) _ _ s
  refine wpAny_bind (wpAny_setSeqItemAt ho rfl ?_)
  first
    | exact wpAny_bind (wpAny_pure (wpAny_pure ⟨.none, rfl, wpAny_pure key⟩))
    | exact wpAny_pure ⟨.none, rfl, wpAny_pure key⟩
end
section
variable {prog : Program} {w : World} {A : Around} {E : Value → Shared → Prop} {s : Shared}
theorem mapSeq_get {l : Addr} {h : Heap} {its : Array Value} {n : Nat} (ho : h.get? l = some { cls := .type "list", data := .seq its n }) (f : Array Value → Array Value) : (h.update l (Obj.mapSeq f)).PlainList l (f its) := by
  obtain ⟨n', e⟩ := mapSeq_plain f its n
  refine ⟨n', ?_⟩
  rw [Heap.get?_update_self _ ho (by rw [e]; rfl), e]
theorem ifill_list : fillsInplaceSlot (.type "list") "add" (Operator.Add == .Add) = pure false := by
  unfold fillsInplaceSlot
  show (typeLookup (.type "list") (dunderI "add") >>= fun fi => pure (fi.isSome && !isSeqSlot fi)) = pure false
  rw [F.slot_list_iadd.lookup]; rfl
theorem iseq_list : seqSlot? (.type "list") (dunderI "add") = pure (some (.builtin "list.__iadd__")) := PySem.seqSlot_of F.slot_list_iadd.lookup rfl
theorem tooLong_no {n : Nat} {b : Bool} (h : n ≤ 2 ^ 24) : ¬(b && Builtin.List.listTooLong n) = true := by
  have : Builtin.List.listTooLong n = false := by unfold Builtin.List.listTooLong; rw [sizeLine_eq]; simpa using h
  rw [this, Bool.and_false]; exact Bool.false_ne_true
theorem iadd_plain {l b : Addr} {vs ws : List Value} {Q : Value → Shared → Prop} (hl : s.heap.PlainList l vs.toArray) (hb : s.heap.PlainList b ws.toArray) (hsz : vs.length + ws.length ≤ 2 ^ 24)
    (q : ∀ h', h'.PlainList l (vs ++ ws).toArray → Heap.SameBut l s.heap h' → Q (.ref l) { s with heap := h' }) : wpAny (model prog w) A (inplaceOp .Add (.ref l) (.ref b)) Q E s := by
  obtain ⟨n, ho⟩ := hl
  obtain ⟨n2, ho2⟩ := hb
  unfold inplaceOp
  refine wpAny_holding ?_
  refine wpAny_bind (wpAny_typeOf (T := "list") ⟨_, ho, rfl⟩ (wpAny_bind (wpAny_of_eq ifill_list ?_)))
  show wpAny (model prog w) A (if false = true then _ else _) Q E s
  rw [if_neg Bool.false_ne_true]
  refine wpAny_bind (wpAny_binaryOp1_none (nm := "add") (T := "list") ⟨_, ho, rfl⟩ ⟨_, ho2, rfl⟩ noFill_list_add ?_)
  refine wpAny_bind (wpAny_of_eq iseq_list ?_)
  refine wpAny_bind (wpAny_rule ?_)
  refine call_meets F.slot_list_iadd ⟨_, ho, rfl⟩ F.entry_list_iadd (F.args_list_iadd_2 _ _) (AutoSeq1.list___iadd___list_list_0 l vs.toArray n b ws.toArray n2 (tooLong_no (by simpa using hsz)) (by rw [sizeLine_eq]; simp; lia) (by rw [sizeLine_eq]; simp; lia)) ⟨ho, ho2, ?_⟩
  have := mapSeq_get ho (· ++ ws.toArray)
  exact q _ (by simpa using this) (Heap.SameBut.update ..)
theorem pop_plain {l : Addr} {vs : List Value} {v : Value} {Q : Value → Shared → Prop} (hl : s.heap.PlainList l (vs ++ [v]).toArray) (hsz : vs.length < 2 ^ 24) (q : ∀ h', h'.PlainList l vs.toArray → Heap.SameBut l s.heap h' → Q v { s with heap := h' }) :
    wpAny (model prog w) A (call (.builtin "list.pop") [.ref l]) Q E s := by
  obtain ⟨n, ho⟩ := hl
  have e1 : (vs ++ [v]).toArray.eraseIdxIfInBounds vs.length = vs.toArray := by
    unfold Array.eraseIdxIfInBounds
    rw [dif_pos (by simp)]
    apply Array.ext'
    rw [Array.toList_eraseIdx]
    simp [List.eraseIdx_append_of_length_le]
  have ms : Meets (Builtin.«list.pop» ⟨[.ref l], []⟩) (fun _ R s => s.heap.get? l = some { cls := .type "list", dict := none, data := .seq (vs ++ [v]).toArray n, slots := #[] } ∧ R (.ok (.ret v)) { s with heap := s.heap.update l (Obj.mapSeq fun x => x.eraseIdxIfInBounds vs.length), toks := s.toks }) :=
    .of_wp fun prog w A R s h => by
      obtain ⟨hp, g, d, tk, os⟩ := s; obtain ⟨hl, h⟩ := h
      have hs1 : (vs ++ [v]).toArray.size ≤ sizeLine := by rw [sizeLine_eq]; simp; lia
      have hz' : ((vs ++ [v]).toArray.eraseIdxIfInBounds vs.length).size ≤ sizeLine + 1 := by rw [e1, sizeLine_eq]; simp; lia
      have hc : (vs ++ [v]).toArray.isEmpty = false := by simp
      have hi : ((seqIndex? (-1) (vs ++ [v]).toArray.size).bind fun k => Option.map (fun x => (k, x)) (vs ++ [v]).toArray[k]?) = some (vs.length, v) := by
        have : seqIndex? (-1) (vs ++ [v]).toArray.size = some vs.length := by
          unfold seqIndex?
          simp only [List.size_toArray, List.length_append, List.length_cons, List.length_nil]
          have e : (-1 : Int) + ((vs.length + (0 + 1) : Nat) : Int) = vs.length := by lia
          simp only [show (-1 : Int) < 0 by decide, if_true, e]
          rw [if_pos (by simp; lia)]; simp
        rw [this]
        simp
      wp_walk using (wpAny_updateSeq hl rfl (hz := hs1) (_hz' := hz')), wpAny_loadPart' hl
      rw [hi]
      wp_walk using (wpAny_updateSeq hl rfl (hz := hs1) (_hz' := hz')), wpAny_loadPart' hl
      exact ⟨_, rfl, h⟩
  refine call_meets F.slot_list_pop ⟨_, ho, rfl⟩ F.entry_list_pop (F.args_list_pop_1 _) ms ⟨ho, ?_⟩
  have := mapSeq_get ho (·.eraseIdxIfInBounds vs.length)
  rw [e1] at this
  exact q _ this (Heap.SameBut.update ..)
theorem setSlice_plain {l sl b : Addr} {vs ws : List Value} {lo hi : Nat} {t u : Tok} {Q : Unit → Shared → Prop} (hl : s.heap.PlainList l vs.toArray) (hb : s.heap.PlainList b ws.toArray) (hs : s.heap.IsSliceOf sl (.int lo t) (.int hi u) .none) (h1 : lo ≤ hi) (h2 : hi ≤ vs.length) (hsz : vs.length + ws.length ≤ 2 ^ 24) (hw : ws.length ≤ vs.length)
    (q : ∀ h', h'.PlainList l (vs.take lo ++ ws ++ vs.drop hi).toArray → Heap.SameBut l s.heap h' → Q () { s with heap := h' }) : wpAny (model prog w) A (setItem (.ref l) (.ref sl) (.ref b)) Q E s := by
  have hT := hl.isList.typeIs (s := s)
  obtain ⟨n, ho⟩ := hl
  obtain ⟨n2, ho2⟩ := hb
  obtain ⟨os, hos, hcs, hds⟩ := id hs
  have hTs : s.TypeIs (.ref sl) "slice" := ⟨os, hos, hcs⟩
  have hTb : s.TypeIs (.ref b) "list" := ⟨_, ho2, rfl⟩
  unfold setItem
  try with_reducible refine wpAny_holding ?_
  first | refine wpAny_bind (wpAny_pure ?_) | skip
  refine wpAny_bind (wpAny_sequenceKey hT (by decide) ?_)
  refine wpAny_bind (wpAny_callSpecial?_slot (name := Str.ofString "__setitem__") hT slot_list_setitem (wpAny_call_entry slot_list_setitem hT entry_list_setitem ?_ (args_list_setitem _ _ _)))
  show wpAny _ _ (Builtin.List.listSubscript? (.ref sl) >>= _) _ _ s
  refine wpAny_bind ?_
  · unfold Builtin.List.listSubscript?
    refine wpAny_bind (wpAny_specialOf hTs slice_no_index ?_)
    simp only [Option.isNone_none, if_true]
    refine wpAny_pure ?_
    show wpAny _ _ (typeOf (.ref sl) >>= _) _ _ s
    refine wpAny_bind (wpAny_typeOf hTs ?_)
    rw [if_neg (by decide)]
    rw [listSliceParts_eq]
    refine wpAny_bind (wpAny_bind (wpAny_field hos hds (x := .none) rfl (wpAny_bind (wpAny_listPart .none ?_))))
    rw [if_neg (show ¬ ((rawPart none == rawInt 0) = true) from Bool.false_ne_true)]
    refine wpAny_bind (wpAny_field hos hds (x := .int lo t) rfl (wpAny_bind (wpAny_listPart (.int lo t) ?_)))
    refine wpAny_bind (wpAny_field hos hds (x := .int hi u) rfl (wpAny_bind (wpAny_listPart (.int hi u) (wpAny_pure ?_))))
    have it : ∀ {Q : Array Value → Shared → Prop}, Q ws.toArray s → wpAny (model prog w) A.in1 (Builtin.List.listItems (.ref b)) Q (fun e s' => E e s') s := fun {Q} hq => by
      unfold Builtin.List.listItems
      exact wpAny_bind (m := seqItems? (.ref b)) (wpAny_seqItems ho2 rfl (wpAny_pure hq))
    have al : ∀ {Q : Array Value → Shared → Prop}, Q ws.toArray s → wpAny (model prog w) A.in1 (Builtin.List.listAllItems (.ref b) "must assign iterable to extended slice") Q (fun e s' => E e s') s := fun {Q} hq => by
      unfold Builtin.List.listAllItems
      refine wpAny_bind (wpAny_typeOf hTb ?_)
      rw [if_pos (by decide)]
      exact it hq
    have sb : sliceBounds (some (lo : Int)) (some (hi : Int)) none vs.toArray.size = ((lo : Int), (hi : Int), 1) := by
      have a1 : ¬ ((lo : Int) < 0) := by lia
      have a2 : ¬ ((hi : Int) < 0) := by lia
      simp only [sliceBounds, Option.getD_none, List.size_toArray, a1, a2, if_false, show (1 : Int) > 0 by decide, if_true]
      congr 2
      · lia
      · congr 1; lia
    have nt : Builtin.List.listTooLong (vs.toArray.size + ws.toArray.size) = false := by
      unfold Builtin.List.listTooLong; rw [sizeLine_eq]; simpa using hsz
    have e2 : ∀ xs : Array Value, xs = vs.toArray → xs.extract 0 ((lo : Int), (hi : Int), (1 : Int)).fst.toNat ++ ws.toArray ++ xs.extract (max ((lo : Int), (hi : Int), (1 : Int)).fst ((lo : Int), (hi : Int), (1 : Int)).2.fst).toNat = (vs.take lo ++ ws ++ vs.drop hi).toArray := by
      rintro xs rfl
      have m : (max (lo : Int) (hi : Int)).toNat = hi := by lia
      dsimp only
      rw [m, Int.toNat_natCast]
      apply Array.ext'
      simp only [Array.toList_append, Array.toList_extract, List.extract_eq_take_drop, List.drop_zero, Nat.sub_zero]
      rw [List.take_of_length_le (l := List.drop hi vs) (by simp)]
    have fin : Q () { s with heap := s.heap.update l (Obj.mapSeq fun xs => xs.extract 0 ((lo : Int), (hi : Int), (1 : Int)).fst.toNat ++ ws.toArray ++ xs.extract (max ((lo : Int), (hi : Int), (1 : Int)).fst ((lo : Int), (hi : Int), (1 : Int)).2.fst).toNat) } := by
      have := mapSeq_get ho fun xs => xs.extract 0 ((lo : Int), (hi : Int), (1 : Int)).fst.toNat ++ ws.toArray ++ xs.extract (max ((lo : Int), (hi : Int), (1 : Int)).fst ((lo : Int), (hi : Int), (1 : Int)).2.fst).toNat
      rw [e2 _ rfl] at this
      exact q _ this (Heap.SameBut.update ..)
    have il : ∀ {Q : Array Value → Shared → Prop}, Q vs.toArray s → wpAny (model prog w) A.in1 (Builtin.List.listItems (.ref l)) Q E s := fun {Q} hq => by
      unfold Builtin.List.listItems
      exact wpAny_bind (m := seqItems? (.ref l)) (wpAny_seqItems ho rfl (wpAny_pure hq))
    cases hsr : Builtin.List.listSameRef (.ref l) (.ref b)
    · rw [if_neg Bool.false_ne_true]
      refine wpAny_bind (al ?_)
      refine wpAny_bind (m := Builtin.List.listItems (.ref l)) (il ?_)
      refine wpAny_bind (wpAny_of_eq (sliceIndices_raw (some (lo : Int)) (some (hi : Int)) none vs.toArray.size (by simp)) ?_)
      rw [sb]
      rw [if_pos (show (((lo : Int), (hi : Int), (1 : Int)).2.2 == 1) = true from rfl)]
      refine wpAny_bind (wpAny_rule ?_)
      rw [nt]
      rw [if_neg Bool.false_ne_true]
      refine wpAny_bind (wpAny_updateSeq ho rfl ?_ (by rw [sizeLine_eq]; simp; lia) (by rw [e2 _ rfl, sizeLine_eq]; simp; lia))
      refine wpAny_bind (wpAny_letGo ?_)
      exact wpAny_pure ⟨_, rfl, wpAny_pure fin⟩
    · rw [if_pos rfl]
      refine wpAny_bind (it ?_)
      refine wpAny_bind (m := Builtin.List.listItems (.ref l)) (il ?_)
      refine wpAny_bind (wpAny_of_eq (sliceIndices_raw (some (lo : Int)) (some (hi : Int)) none vs.toArray.size (by simp)) ?_)
      rw [sb]
      rw [if_pos (show (((lo : Int), (hi : Int), (1 : Int)).2.2 == 1) = true from rfl)]
      refine wpAny_bind (wpAny_rule ?_)
      rw [nt]
      rw [if_neg Bool.false_ne_true]
      refine wpAny_bind (wpAny_updateSeq ho rfl ?_ (by rw [sizeLine_eq]; simp; lia) (by rw [e2 _ rfl, sizeLine_eq]; simp; lia))
      refine wpAny_bind (wpAny_letGo ?_)
      exact wpAny_pure ⟨_, rfl, wpAny_pure fin⟩
end
end Mine.Py
end
section
open PySem PySem.W PyProof.Rows
namespace Mine.Py
noncomputable abbrev Spec := List AV → St → (AV → St → Prop) → Prop
inductive PT where
  | k (i : Int) | x | y | bin (op : Operator) (a b : PT)
mutual
inductive Tm where
  | c (a : At) | s (x : Str) | v (i : Nat) | fld (i f : Nat) | cat (i : Nat) (x : Str) (r : AV) | bm (i : Nat) (x : Str) (f : Nat)
  | bin (op : Operator) (a b : Tm) | inv (a : Tm) | neg (a : Tm) | cmp (op : CmpOp) (a b : Tm) | idx (a b : Tm)
  | mc (i : Nat) (x : Str) (f : Nat) (as : Ts) | vc (i : Nat) (as : Ts) | tc (t : Tm) (as : Ts) | gc (x : Str) (f : Nat) (as : Ts)
  | ite (t a b : Tm) | and (a b : Tm) | or (a b : Tm) | tup (as : Ts) | lst (as : Ts) | cut (a : Tm) (hi : Option Nat) | leq (a b : Tm) | new (a b : Tm)
  | len (a : Tm) | pop (i : Nat) | comp (i n : Nat) (t : PT) | and3 (a b c : Tm)
inductive Ts where
  | nil | cons (t : Tm) (r : Ts)
end
noncomputable def binV : Operator → Int → Int → Int
  | .Add, i, j => i + j
  | .Sub, i, j => i - j
  | .Mult, i, j => i * j
  | .BitAnd, i, j => Builtin.bitAnd i j
  | .BitOr, i, j => Builtin.bitOr i j
  | .BitXor, i, j => Builtin.bitXor i j
  | .LShift, i, j => i * 2 ^ j.toNat
  | .RShift, i, j => i.fdiv (2 ^ j.toNat)
  | .FloorDiv, i, j => i.fdiv j
  | .Mod, i, j => i.fmod j
  | _, _, _ => 0
noncomputable def BinOk : Operator → Int → Int → Prop
  | .Mult, i, j => IntMulOk i j
  | .LShift, i, j => 0 ≤ j ∧ j ≤ 1000000 ∧ i.natAbs < 2 ^ 64
  | .RShift, _, j => 0 ≤ j
  | .FloorDiv, _, j => j ≠ 0 ∧ j.natAbs < 1073741824
  | .Mod, _, j => j ≠ 0
  | .Pow, _, _ => False
  | .Div, _, _ => False
  | .MatMult, _, _ => False
  | _, _, _ => True
noncomputable def ptV : PT → Int → Int → Int
  | .k i, _, _ => i
  | .x, a, _ => a
  | .y, _, b => b
  | .bin op l r, a, b => binV op (ptV l a b) (ptV r a b)
noncomputable def ptOk : PT → Int → Int → Prop
  | .bin op l r, a, b => ptOk l a b ∧ ptOk r a b ∧ BinOk op (ptV l a b) (ptV r a b)
  | _, _, _ => True
noncomputable def truthL : Option AO → Option Bool
  | some (.list xs) => if xs.length ≤ 2 ^ 24 then some (!xs.isEmpty) else none
  | _ => none
noncomputable def truthA (σ : St) : At → Option Bool
  | .none => some false
  | .bool b => some b
  | .int i => some (i != 0)
  | .lst k => truthL σ[k]?
noncomputable def truth (σ : St) : AV → Option Bool
  | .at a => truthA σ a
  | _ => none
noncomputable def isNone : AV → Bool
  | .at .none => true
  | _ => false
noncomputable def isInt : At → Bool
  | .int _ => true
  | _ => false
noncomputable def cmpI : CmpOp → Int → Int → Option Bool
  | .Eq, i, j => some (i == j)
  | .NotEq, i, j => some (i != j)
  | .Lt, i, j => some (decide (i < j))
  | .LtE, i, j => some (decide (i ≤ j))
  | .Gt, i, j => some (decide (i > j))
  | .GtE, i, j => some (decide (i ≥ j))
  | _, _, _ => none
noncomputable def cmpN (op : CmpOp) (v : AV) : Option Bool := match op with
  | .Is => some (isNone v)
  | .IsNot => some (!isNone v)
  | _ => none
noncomputable def cmpT (op : CmpOp) (l m : List At) : Option Bool := match op with
  | .NotEq => if l.all isInt && m.all isInt then some (decide (l ≠ m)) else none
  | _ => none
noncomputable def cmpB (op : CmpOp) (a b : Bool) : Option Bool := match op with
  | .Eq => some (a == b)
  | _ => none
noncomputable def cmpA (op : CmpOp) (v : AV) : At → Option Bool
  | .none => cmpN op v
  | .int j => (match v with | .at (.int i) => cmpI op i j | _ => none)
  | .bool b => (match v with | .at (.bool a) => cmpB op a b | _ => none)
  | .lst _ => none
noncomputable def cmpV (op : CmpOp) (va vb : AV) : Option Bool := match vb with
  | .at b => cmpA op va b
  | .tup m => (match va with | .tup l => cmpT op l m | _ => none)
  | _ => none
noncomputable def binA (op : Operator) : At → At → St → (AV → St → Prop) → Prop
  | .int i, .int j, σ, Q => BinOk op i j ∧ Q (.at (.int (binV op i j))) σ
  | .lst k, .int i, σ, Q => op = .Mult ∧ ∃ xs, σ[k]? = some (.list xs) ∧ 0 ≤ i ∧ i < 2 ^ 63 ∧ xs.length * i.toNat ≤ 2 ^ 24 ∧ Q (.lst σ.length) (σ ++ [.list (List.replicate i.toNat xs).flatten])
  | .lst k, .lst j, σ, Q => op = .Add ∧ ∃ xs ys, σ[k]? = some (.list xs) ∧ σ[j]? = some (.list ys) ∧ xs.length + ys.length ≤ 2 ^ 24 ∧ Q (.lst σ.length) (σ ++ [.list (xs ++ ys)])
  | _, _, _, _ => False
noncomputable def binW (op : Operator) : AV → AV → St → (AV → St → Prop) → Prop
  | .at a, .at b, σ, Q => binA op a b σ Q
  | _, _, _, _ => False
noncomputable def idxL (xs : List AV) (i : Int) : Option AV := if 0 ≤ i ∧ i < 2 ^ 63 then xs[i.toNat]? else if i < 0 ∧ -(xs.length : Int) ≤ i ∧ -(2 ^ 63) ≤ i then xs[(i + xs.length).toNat]? else none
noncomputable def idxW (C : Cfg) : AV → AV → St → (AV → St → Prop) → Prop
  | .at (.lst k), .at (.int i), σ, Q => ∃ xs v, σ[k]? = some (.list xs) ∧ idxL xs i = some v ∧ Q v σ
  | .kl j, .at (.int i), σ, Q => ∃ v, idxL (C.klv j) i = some v ∧ Q v σ
  | .tup l, .at (.int i), σ, Q => ∃ a, 0 ≤ i ∧ i < 2 ^ 63 ∧ l[i.toNat]? = some a ∧ Q (.at a) σ
  | _, _, _, _ => False
noncomputable def listOf : Option AO → Option (List AV)
  | some (.list xs) => some xs
  | _ => none
noncomputable def listAtA (σ : St) : At → Option (List AV)
  | .lst k => listOf σ[k]?
  | _ => none
noncomputable def listAt (C : Cfg) (σ : St) : AV → Option (List AV)
  | .at a => listAtA σ a
  | .kl j => some (C.klv j)
  | _ => none
noncomputable def isIntV : AV → Bool
  | .at (.int _) => true
  | _ => false
section
variable (C : Cfg) (S : Nat → Spec)
noncomputable def callW : AV → List AV → St → (AV → St → Prop) → Prop
  | .meth f k, vs, σ, Q => f < 300 ∧ S f (.ins k :: vs) σ Q
  | .fn f, vs, σ, Q => f < 300 ∧ S f vs σ Q
  | .clo k, vs, σ, Q => S 400 (.ins k :: vs) σ Q
  | _, _, _, _ => False
mutual
noncomputable def wpT : Tm → Loc → St → (AV → St → Prop) → Prop
  | .c a, _, σ, Q => Q (.at a) σ
  | .s x, _, σ, Q => Q (.str x) σ
  | .v i, ρ, σ, Q => ∃ v, ρ[i]? = some (some v) ∧ Q v σ
  | .fld i f, ρ, σ, Q => ∃ k fs v, ρ[i]? = some (some (.ins k)) ∧ σ[k]? = some (.inst fs) ∧ fs[f]? = some v ∧ Q v σ
  | .cat i _ r, ρ, σ, Q => ∃ k fs, ρ[i]? = some (some (.ins k)) ∧ σ[k]? = some (.inst fs) ∧ Q r σ
  | .bm i _ f, ρ, σ, Q => ∃ k fs, ρ[i]? = some (some (.ins k)) ∧ σ[k]? = some (.inst fs) ∧ Q (.meth f k) σ
  | .bin op a b, ρ, σ, Q => wpT a ρ σ fun va σ₁ => wpT b ρ σ₁ fun vb σ₂ => binW op va vb σ₂ Q
  | .inv a, ρ, σ, Q => wpT a ρ σ fun va σ₁ => ∃ i, va = .at (.int i) ∧ Q (.at (.int (Builtin.bitNot i))) σ₁
  | .neg a, ρ, σ, Q => wpT a ρ σ fun va σ₁ => ∃ i, va = .at (.int i) ∧ Q (.at (.int (-i))) σ₁
  | .cmp op a b, ρ, σ, Q => wpT a ρ σ fun va σ₁ => wpT b ρ σ₁ fun vb σ₂ => ∃ r, cmpV op va vb = some r ∧ Q (.at (.bool r)) σ₂
  | .idx a b, ρ, σ, Q => wpT a ρ σ fun va σ₁ => wpT b ρ σ₁ fun vb σ₂ => idxW C va vb σ₂ Q
  | .mc i _ f as, ρ, σ, Q => ∃ k fs, ρ[i]? = some (some (.ins k)) ∧ σ[k]? = some (.inst fs) ∧ wpTs as ρ σ fun vs σ₁ => S f (.ins k :: vs) σ₁ Q
  | .vc i as, ρ, σ, Q => ∃ v, ρ[i]? = some (some v) ∧ wpTs as ρ σ fun vs σ₁ => callW S v vs σ₁ Q
  | .tc t as, ρ, σ, Q => wpT t ρ σ fun v σ₁ => wpTs as ρ σ₁ fun vs σ₂ => callW S v vs σ₂ Q
  | .gc _ f as, ρ, σ, Q => wpTs as ρ σ fun vs σ₁ => S f vs σ₁ Q
  | .ite t a b, ρ, σ, Q => wpB t ρ σ fun r σ₁ => (r = true → wpT a ρ σ₁ Q) ∧ (r = false → wpT b ρ σ₁ Q)
  | .and a b, ρ, σ, Q => wpT a ρ σ fun va σ₁ => ∃ r, truth σ₁ va = some r ∧ (r = false → Q va σ₁) ∧ (r = true → wpT b ρ σ₁ Q)
  | .or a b, ρ, σ, Q => wpT a ρ σ fun va σ₁ => ∃ r, truth σ₁ va = some r ∧ (r = true → Q va σ₁) ∧ (r = false → wpT b ρ σ₁ Q)
  | .tup as, ρ, σ, Q => wpTs as ρ σ fun vs σ₁ => ∃ l, vs = l.map AV.at ∧ l.length ≤ 1000 ∧ Q (.tup l) σ₁
  | .lst as, ρ, σ, Q => wpTs as ρ σ fun vs σ₁ => vs.length ≤ 1000 ∧ Q (.lst σ₁.length) (σ₁ ++ [.list vs])
  | .cut a hi, ρ, σ, Q => wpT a ρ σ fun v σ₁ => ∃ xs, listAt C σ₁ v = some xs ∧ xs.length ≤ 2 ^ 24 ∧ Q (.lst σ₁.length) (σ₁ ++ [.list (cutG hi xs)])
  | .leq a b, ρ, σ, Q => wpT a ρ σ fun va σ₁ => wpT b ρ σ₁ fun vb σ₂ => ∃ xs ys, listAt C σ₂ va = some xs ∧ listAt C σ₂ vb = some ys ∧ xs.all isIntV = true ∧ ys.all isIntV = true ∧ Q (.at (.bool (decide (xs = ys)))) σ₂
  | .new a b, ρ, σ, Q => wpT a ρ σ fun va σ₁ => wpT b ρ σ₁ fun vb σ₂ => S 300 [va, vb] σ₂ Q
  | .len a, ρ, σ, Q => wpT a ρ σ fun v σ₁ => ∃ xs, listAt C σ₁ v = some xs ∧ xs.length ≤ 2 ^ 24 ∧ Q (.at (.int xs.length)) σ₁
  | .pop i, ρ, σ, Q => ∃ k xs v, ρ[i]? = some (some (.lst k)) ∧ σ[k]? = some (.list (xs ++ [v])) ∧ xs.length ≤ 2 ^ 23 ∧ Q v (σ.set k (.list xs))
  | .comp i n t, ρ, σ, Q => ∃ y, ρ[i]? = some (some (.at (.int y))) ∧ (∀ j : Nat, j < n → ptOk t j y) ∧ Q (.lst σ.length) (σ ++ [.list ((List.range n).map fun (j : Nat) => .at (.int (ptV t j y)))])
  | .and3 a b c, ρ, σ, Q => wpT a ρ σ fun va σ₁ => ∃ r, truth σ₁ va = some r ∧ (r = false → Q va σ₁) ∧ (r = true → wpT b ρ σ₁ fun vb σ₂ => ∃ r, truth σ₂ vb = some r ∧ (r = false → Q vb σ₂) ∧ (r = true → wpT c ρ σ₂ Q))
noncomputable def wpTs : Ts → Loc → St → (List AV → St → Prop) → Prop
  | .nil, _, σ, Q => Q [] σ
  | .cons t r, ρ, σ, Q => wpT t ρ σ fun v σ₁ => wpTs r ρ σ₁ fun vs σ₂ => Q (v :: vs) σ₂
noncomputable def wpB : Tm → Loc → St → (Bool → St → Prop) → Prop
  | .and a b, ρ, σ, Q => wpB a ρ σ fun r σ₁ => (r = false → Q false σ₁) ∧ (r = true → wpB b ρ σ₁ Q)
  | .or a b, ρ, σ, Q => wpB a ρ σ fun r σ₁ => (r = true → Q true σ₁) ∧ (r = false → wpB b ρ σ₁ Q)
  | .ite t a b, ρ, σ, Q => wpB t ρ σ fun r σ₁ => (r = true → wpB a ρ σ₁ Q) ∧ (r = false → wpB b ρ σ₁ Q)
  | .c a, _, σ, Q => ∃ r, truth σ (.at a) = some r ∧ Q r σ
  | .v i, ρ, σ, Q => ∃ v, ρ[i]? = some (some v) ∧ ∃ r, truth σ v = some r ∧ Q r σ
  | .fld i f, ρ, σ, Q => ∃ k fs v, ρ[i]? = some (some (.ins k)) ∧ σ[k]? = some (.inst fs) ∧ fs[f]? = some v ∧ ∃ r, truth σ v = some r ∧ Q r σ
  | .bin op a b, ρ, σ, Q => wpT a ρ σ fun va σ₁ => wpT b ρ σ₁ fun vb σ₂ => binW op va vb σ₂ fun v σ₃ => ∃ r, truth σ₃ v = some r ∧ Q r σ₃
  | .cmp op a b, ρ, σ, Q => wpT a ρ σ fun va σ₁ => wpT b ρ σ₁ fun vb σ₂ => ∃ r, cmpV op va vb = some r ∧ Q r σ₂
  | .gc _ f as, ρ, σ, Q => wpTs as ρ σ fun vs σ₁ => S f vs σ₁ fun v σ₃ => ∃ r, truth σ₃ v = some r ∧ Q r σ₃
  | _, _, _, _ => False
end
end
end Mine.Py
end
section
open PySem PySem.W PyProof.Rows
namespace Mine.Py
structure Tabs where
  ct : List (Str × AV)
  mt : List (Str × Nat)
  gt : List (Str × Nat)
  bt : List (Str × Bool × String)
noncomputable def btV (x : Bool × String) : Value := if x.1 then .type x.2 else .builtin x.2
structure CfgOk (C : Cfg) (T : Tabs) : Prop where
  getat : findIn C.K (.ref C.C) "__getattribute__" = some (some (.builtin "object.__getattribute__"))
  getnone : findIn C.K (.ref C.C) "__getattr__" = some none
  setat : findIn C.K (.ref C.C) "__setattr__" = some (some (.builtin "object.__setattr__"))
  over : plainOver C.K C.C = true
  hasd : hasDictIn C.K C.C = true
  attr : ∀ a ∈ C.attrs, (∃ at', findIn C.K (.ref C.C) a = some at' ∧ noGet C.K at' = true) ∧ takerIn C.K C.C a = some none
  anod : ∀ (i j : Nat) x, C.attrs[i]? = some x → C.attrs[j]? = some x → i = j
  alen : C.attrs.length ≤ 1000
  ct : ∀ a r, (a, r) ∈ T.ct → a ∉ C.attrs ∧ copiedNames.contains a = false ∧ ∃ val, findIn C.K (.ref C.C) a = some (some val) ∧ specialIn C.K val "__get__" = some none ∧ handedIn val = true ∧ ∀ h n θ, Val C h n θ r val
  mt : ∀ a f, (a, f) ∈ T.mt → a ∉ C.attrs ∧ findIn C.K (.ref C.C) a = some (some (.ref (C.fa f))) ∧ isFn C.K (.ref (C.fa f)) = true ∧ specialIn C.K (.ref (C.fa f)) "__get__" = some (some (.builtin "function.__get__")) ∧ takesIn C.K (.ref (C.fa f)) = some false ∧ copiedNames.contains a = false
  main : ∃ mg mb, (∀ h : Heap, C.K.In h → h.Ns mainGlobals mg ∧ h.Ns builtinsNs mb) ∧ (∀ a f, (a, f) ∈ T.gt → mg a = some (.ref (C.fa f))) ∧ ∀ a x, (a, x) ∈ T.bt → mg a = none ∧ mb a = some (btV x)
  cls : C.fa 300 = C.C ∧ keepIn C.K (.ref C.C) = true
section
variable {C : Cfg} {h : Heap} {n : Nat} {θ : Nat → Nat}
theorem Fields.get : ∀ {xs : List Str} {vs : List AV} {es : List DictEntry} {f : Nat} {a : Str} {v : AV}, Fields C h n θ xs vs es → (∀ (i j : Nat) x, xs[i]? = some x → xs[j]? = some x → i = j) → xs[f]? = some a → vs[f]? = some v → ∃ val, getL a es = some (some val) ∧ Val C h n θ v val
  | _, [], _, f, a, v, F, _, _, h2 => by simp at h2
  | x :: xs, v :: vs, e :: es, f, a, u, ⟨⟨⟨t, hk⟩, V⟩, F⟩, nd, h1, h2 => by
    cases f with
    | zero =>
      simp only [List.getElem?_cons_zero, Option.some.injEq] at h1 h2
      subst h1 h2
      refine ⟨e.val, ?_, V⟩
      unfold getL
      rw [List.find?_cons, hk]
      simp [Value.isStr]
    | succ f =>
      simp only [List.getElem?_cons_succ] at h1 h2
      obtain ⟨val, g, V'⟩ := Fields.get F (fun i j y p q => Nat.succ.inj (nd (i + 1) (j + 1) y (by simpa using p) (by simpa using q))) h1 h2
      refine ⟨val, ?_, V'⟩
      have ne : x ≠ a := fun q => by
        have := nd 0 (f + 1) a (by simp [q]) (by simpa using h1)
        lia
      unfold getL at g ⊢
      rw [List.find?_cons, hk]
      have : (Value.str x t).isStr a = false := by simpa [Value.isStr] using ne
      rw [this]
      cases q : es.find? (·.key.isStr a) with
      | some en => rw [q] at g; exact g
      | none =>
        rw [q] at g
        simp only at g
        split at g <;> simp at g
  | [], _ :: _, _, _, _, _, F, _, _, _ => by cases ‹List DictEntry› <;> exact F.elim
  | _ :: _, _ :: _, [], _, _, _, F, _, _, _ => F.elim
theorem Fields.none : ∀ {xs : List Str} {vs : List AV} {es : List DictEntry} {a : Str}, Fields C h n θ xs vs es → a ∉ xs → getL a es = some none
  | _, [], [], a, F, _ => rfl
  | x :: xs, v :: vs, e :: es, a, ⟨⟨⟨t, hk⟩, V⟩, F⟩, na => by
    have g := Fields.none F (fun q => na (.tail _ q))
    have ne : x ≠ a := fun q => na (q ▸ .head _)
    unfold getL at g ⊢
    rw [List.find?_cons, hk]
    have : (Value.str x t).isStr a = false := by simpa [Value.isStr] using ne
    rw [this, List.any_cons]
    have r : e.refKey = false := by unfold DictEntry.refKey; rw [hk]
    rw [r, Bool.false_or]
    exact g
  | [], _ :: _, _, _, F, _ => by cases ‹List DictEntry› <;> exact F.elim
  | _ :: _, _ :: _, [], _, F, _ => F.elim
  | [], [], _ :: _, _, F, _ => F.elim
  | _ :: _, [], _ :: _, _, F, _ => F.elim
theorem Fields.length : ∀ {xs : List Str} {vs : List AV} {es : List DictEntry}, Fields C h n θ xs vs es → vs.length = es.length ∧ vs.length ≤ xs.length
  | _, [], [], F => by simp
  | x :: xs, v :: vs, e :: es, F => by have := Fields.length F.2; simp only [List.length_cons]; lia
  | [], _ :: _, _, F => by cases ‹List DictEntry› <;> exact F.elim
  | _ :: _, _ :: _, [], F => F.elim
  | [], [], _ :: _, F => F.elim
  | _ :: _, [], _ :: _, F => F.elim
theorem Fields.put : ∀ {xs : List Str} {vs : List AV} {es : List DictEntry} {f : Nat} {a : Str} {v : AV} {val : Value} {hs : Int} {tk : Nat}, Fields C h n θ xs vs es → (∀ (i j : Nat) x, xs[i]? = some x → xs[j]? = some x → i = j) → xs[f]? = some a → Val C h n θ v val → f ≤ vs.length →
    Fields C h n θ xs (if f < vs.length then vs.set f v else vs ++ [v]) (putL a hs (.str a tk) val es)
  | x :: xs, [], [], f, a, v, val, hs, tk, F, nd, h1, V, hf => by
    have : f = 0 := by simpa using hf
    subst this
    simp only [List.getElem?_cons_zero, Option.some.injEq] at h1
    subst h1
    exact ⟨⟨⟨tk, rfl⟩, V⟩, by cases xs <;> trivial⟩
  | [], [], [], f, a, v, val, hs, tk, F, nd, h1, V, hf => by simp at h1
  | x :: xs, u :: vs, e :: es, f, a, v, val, hs, tk, ⟨⟨⟨t, hk⟩, U⟩, F⟩, nd, h1, V, hf => by
    cases f with
    | zero =>
      simp only [List.getElem?_cons_zero, Option.some.injEq] at h1
      subst h1
      rw [if_pos (by simp)]
      simp only [putL, hk, isStr_self, if_true, List.set_cons_zero]
      exact ⟨⟨⟨t, rfl⟩, V⟩, F⟩
    | succ f =>
      simp only [List.getElem?_cons_succ] at h1
      have ne : x ≠ a := fun q => by
        have := nd 0 (f + 1) a (by simp [q]) (by simpa using h1)
        lia
      have hn : (Value.str x t).isStr a = false := by simpa [Value.isStr] using ne
      have ih := Fields.put (v := v) (val := val) (hs := hs) (tk := tk) F (fun i j y p q => Nat.succ.inj (nd (i + 1) (j + 1) y (by simpa using p) (by simpa using q))) h1 V (by simpa using hf)
      simp only [putL, hk, hn, Bool.false_eq_true, if_false, List.length_cons]
      by_cases q : f < vs.length
      · rw [if_pos q] at ih
        rw [if_pos (by lia), List.set_cons_succ]
        exact ⟨⟨⟨t, hk⟩, U⟩, ih⟩
      · rw [if_neg q] at ih
        rw [if_neg (by lia)]
        exact ⟨⟨⟨t, hk⟩, U⟩, ih⟩
  | [], _ :: _, _, _, _, _, _, _, _, F, _, _, _, _ => by cases ‹List DictEntry› <;> exact F.elim
  | _ :: _, _ :: _, [], _, _, _, _, _, _, F, _, _, _, _ => F.elim
  | [], [], _ :: _, _, _, _, _, _, _, F, _, _, _, _ => F.elim
  | _ :: _, [], _ :: _, _, _, _, _, _, _, F, _, _, _, _ => F.elim
where
  isStr_self {x : Str} {t : Nat} : (Value.str x t).isStr x = true := by simp [Value.isStr]
theorem Val.handed {v : AV} {x : Value} (V : Val C h n θ v x) : handedIn x = true := by
  cases v with
  | «at» a =>
    cases a with
    | none => cases V; rfl
    | bool b => cases V; rfl
    | int i => obtain ⟨t, rfl⟩ := V; rfl
    | lst k => obtain ⟨_, rfl⟩ := V; rfl
  | tup l => obtain ⟨t, vs, rfl, _⟩ := V; rfl
  | ins k => obtain ⟨_, rfl⟩ := V; rfl
  | meth f k => obtain ⟨_, q, rfl, _⟩ := V; rfl
  | str y => obtain ⟨t, rfl⟩ := V; rfl
  | kl j => cases V; rfl
  | fn f => cases V; rfl
  | clo k => obtain ⟨_, q, _, _, _, rfl, _⟩ := V; rfl
end
end Mine.Py
end
section
open PySem PySem.W PyProof.Rows PySem.SeqAt
namespace Mine.Py
noncomputable def E0 : Value → Shared → Prop := fun _ _ => False
noncomputable def OkT (C : Cfg) (F : Fm) (A : Around) (e : PySem.Expr) (W : Loc → St → (AV → St → Prop) → Prop) : Prop :=
  ∀ ρ σ Q, W ρ σ Q → ∀ s θ δ, R C F ρ σ θ δ s → ∀ Qc : Value → Shared → Prop, (∀ v σ' θ' δ' s' val, Q v σ' → Back C F ρ σ θ δ s σ' θ' δ' s' → Val C s'.heap σ'.length θ' v val → Qc val s') → wpAny (model C.P C.w) A (eval e F.env) Qc E0 s
section
variable {C : Cfg} {F : Fm} {A : Around} {T : Tabs} {S : Nat → Spec}
theorem okc_int {i : Int} {k : Nat} {p : Pos} : OkT C F A (.Constant (.int i) k p) (wpT C S (.c (.int i))) := fun ρ σ Q h s θ δ r Qc k => wpAny_Constant_int (k _ _ _ _ _ _ h (r.tok _) ⟨_, rfl⟩)
theorem okc_none {k : Nat} {p : Pos} : OkT C F A (.Constant .none k p) (wpT C S (.c .none)) := fun ρ σ Q h s θ δ r Qc k => wpAny_Constant_none (k _ _ _ _ _ _ h (.refl r) rfl)
theorem okc_bool {b : Bool} {k : Nat} {p : Pos} : OkT C F A (.Constant (.bool b) k p) (wpT C S (.c (.bool b))) := fun ρ σ Q h s θ δ r Qc k => wpAny_Constant_bool (k _ _ _ _ _ _ h (.refl r) rfl)
theorem okc_str {x : Str} {k : Nat} {p : Pos} : OkT C F A (.Constant (.str x) k p) (wpT C S (.s x)) := fun ρ σ Q h s θ δ r Qc k => wpAny_Constant_str (k _ _ _ _ _ _ h (r.tok _) ⟨_, rfl⟩)
theorem ld_loc (fo : FmOk F) {ρ : Loc} {σ : St} {θ δ : Nat → Nat} {s : Shared} (r : R C F ρ σ θ δ s) {i : Nat} {x : Str} {v : AV} {p : Pos} (hx : F.ns[i]? = some x) (hv : ρ[i]? = some (some v)) {Qc : Value → Shared → Prop} (k : ∀ val, Val C s.heap σ.length θ v val → Qc val s) :
    wpAny (model C.P C.w) A (eval (.Name x p) F.env) Qc E0 s := by
  obtain ⟨val, e, V⟩ := r.loc i x v hx hv
  have nm := fo.names i x hx
  refine wpAny_Name ?_ nm.2
  rcases e with ⟨l, m, N, e⟩ | ⟨l, c, a, e⟩
  · exact wpAny_loadName_local fo.kind l (by rw [fo.loc]; exact N) e (k val V)
  · rcases nm.1 with l' | l' | l'
    · exact absurd l' l
    · exact wpAny_loadName_cell fo.kind l' a e (k val V)
    · exact wpAny_loadName_free fo.kind l'.1 a e (k val V) l'.2
theorem ok_v (fo : FmOk F) {i : Nat} {x : Str} {p : Pos} (hx : F.ns[i]? = some x) : OkT C F A (.Name x p) (wpT C S (.v i)) := fun ρ σ Q h s θ δ r Qc k => by
  obtain ⟨v, hv, hq⟩ := h
  exact ld_loc fo r hx hv fun val V => k _ _ _ _ _ _ hq (.refl r) V
theorem instAt {σ : St} {θ δ : Nat → Nat} {h : Heap} (H : RelH C σ θ δ h) {k : Nat} {fs : List AV} (hk : σ[k]? = some (.inst fs)) : ∃ es m, InstAt h (θ k) (instObj C.C (δ k)) C.C (some (dictOf es m)) ∧ Fields C h σ.length θ C.attrs fs es ∧ h.get? (δ k) = some (dictOf es m) := by
  obtain ⟨es, m, e1, e2, e3⟩ := H.obj k _ hk
  exact ⟨es, m, ⟨e1, rfl, rfl, e2⟩, e3, e2⟩
theorem attr_name {x a : Str} {xp pos : Pos} {Q : Value → Shared → Prop} {s : Shared} (h : wpAny (model C.P C.w) A (eval (.Name x xp) F.env) (fun o s₁ => wpAny (model C.P C.w) A (getAttr o a true) Q E0 s₁) E0 s) : wpAny (model C.P C.w) A (eval (.Attribute (.Name x xp) a pos) F.env) Q E0 s := Attribute_Name_ h
theorem ok_fld (fo : FmOk F) (co : CfgOk C T) {i f : Nat} {x a : Str} {p p' : Pos} (hx : F.ns[i]? = some x) (ha : C.attrs[f]? = some a) : OkT C F A (.Attribute (.Name x p) a p') (wpT C S (.fld i f)) := fun ρ σ Q h s θ δ r Qc k => by
  obtain ⟨ki, fs, v, h1, h2, h3, hq⟩ := h
  refine attr_name (ld_loc fo r hx h1 fun val V => ?_)
  obtain ⟨_, rfl⟩ := V
  obtain ⟨es, m, I, Fd, _⟩ := instAt r.H h2
  obtain ⟨val, g, V⟩ := Fd.get co.anod ha h3
  obtain ⟨⟨at', b1, b2⟩, _⟩ := co.attr a (List.mem_of_getElem? ha)
  exact get_value r.H.kin I co.getat (findObj_own co.hasd b1 b2 (by rw [lookIn_dict]; exact g)) V.handed (k _ _ _ _ _ _ hq (r.tok _) V)
theorem ok_cat (fo : FmOk F) (co : CfgOk C T) {i : Nat} {x a : Str} {v : AV} {p p' : Pos} (hx : F.ns[i]? = some x) (ha : (a, v) ∈ T.ct) : OkT C F A (.Attribute (.Name x p) a p') (wpT C S (.cat i a v)) := fun ρ σ Q h s θ δ r Qc k => by
  obtain ⟨ki, fs, h1, h2, hq⟩ := h
  refine attr_name (ld_loc fo r hx h1 fun val V => ?_)
  obtain ⟨_, rfl⟩ := V
  obtain ⟨es, m, I, Fd, _⟩ := instAt r.H h2
  obtain ⟨n1, n2, val, b1, b2, b3, V⟩ := co.ct a v ha
  exact get_value r.H.kin I co.getat (findObj_cls co.hasd b1 b2 b3 n2 (by rw [lookIn_dict]; exact Fd.none n1)) b3 (k _ _ _ _ _ _ hq (r.tok _) (V _ _ _))
theorem ok_bm (fo : FmOk F) (co : CfgOk C T) {i f : Nat} {x a : Str} {p p' : Pos} (hx : F.ns[i]? = some x) (ha : (a, f) ∈ T.mt) : OkT C F A (.Attribute (.Name x p) a p') (wpT C S (.bm i a f)) := fun ρ σ Q h s θ δ r Qc k => by
  obtain ⟨ki, fs, h1, h2, hq⟩ := h
  refine attr_name (ld_loc fo r hx h1 fun val V => ?_)
  obtain ⟨hki, rfl⟩ := V
  obtain ⟨es, m, I, Fd, _⟩ := instAt r.H h2
  obtain ⟨n1, b1, b2, b3, b4, b5⟩ := co.mt a f ha
  refine get_bind r.H.kin I co.getat (findObj_fn co.hasd b1 b3 b4 b5 (by rw [lookIn_dict]; exact Fd.none n1)) co.getnone (wpAny_call (fn_get (s := { s with toks := s.toks + 1 }) r.H.kin (beq_iff_eq.mp b2) ?_))
  have b := r.push (methodObj (.ref (C.fa f)) (.ref (θ ki))) (s.toks + 1)
  refine handed_on rfl (k _ _ _ _ _ _ hq b ⟨hki, _, rfl, Heap.get?_push_size _ rfl⟩)
theorem bin_rule {prog : Program} {w : World} {E : Value → Shared → Prop} {op : Operator} {i j : Int} {t u : Nat} {s : Shared} {Q : Value → Shared → Prop} (h : BinOk op i j) (q : Q (.int (binV op i j) s.toks) { s with toks := s.toks + 1 }) : wpAny (model prog w) A (binaryOp op (.int i t) (.int j u)) Q E s := by
  cases op with
  | Add => exact P.add_int q
  | Sub => exact P.sub_int q
  | Mult => exact P.mul_int q h
  | BitAnd => exact and_int q
  | BitOr => exact or_int q
  | BitXor => exact xor_int q
  | LShift => exact lshift_int_small h.1 h.2.1 h.2.2 q
  | RShift => exact rshift_int h q
  | FloorDiv => exact floordiv_int h.1 q (Or.inl (PyProof.noPylong_small h.2))
  | Mod => exact mod_int' h q
  | Pow => exact h.elim
  | Div => exact h.elim
  | MatMult => exact h.elim
theorem ibin_rule {op : Operator} {i j : Int} {t u : Nat} {s : Shared} {Q : Value → Shared → Prop} (h : BinOk op i j) (q : Q (.int (binV op i j) s.toks) { s with toks := s.toks + 1 }) : wpAny (model C.P C.w) A (inplaceOp op (.int i t) (.int j u)) Q E0 s := by
  cases op with
  | Add => exact P.iadd_int q
  | Sub => exact P.isub_int q
  | Mult => exact P.imul_int q h
  | BitAnd => exact iand_int q
  | BitOr => exact ior_int q
  | BitXor => exact ixor_int q
  | LShift => exact ilshift_int_small h.1 h.2.1 h.2.2 q
  | RShift => exact irshift_int h q
  | FloorDiv => exact ifloordiv_int h.1 q (Or.inl (PyProof.noPylong_small h.2))
  | Mod => exact imod_int h q
  | Pow => exact h.elim
  | Div => exact h.elim
  | MatMult => exact h.elim
theorem binW_rule {op : Operator} {va vb : AV} {ρ : Loc} {σ : St} {θ δ : Nat → Nat} {s : Shared} {x y : Value} {Q : AV → St → Prop} (r : R C F ρ σ θ δ s) (Va : Val C s.heap σ.length θ va x) (Vb : Val C s.heap σ.length θ vb y) (h : binW op va vb σ Q)
    {Qc : Value → Shared → Prop} (k : ∀ v σ' θ' δ' s' val, Q v σ' → Back C F ρ σ θ δ s σ' θ' δ' s' → Val C s'.heap σ'.length θ' v val → Qc val s') : wpAny (model C.P C.w) A (binaryOp op x y) Qc E0 s := by
  cases va with
  | «at» a =>
    cases vb with
    | «at» b =>
      cases a with
      | int i =>
        cases b with
        | int j =>
          obtain ⟨_, rfl⟩ := Va
          obtain ⟨_, rfl⟩ := Vb
          exact bin_rule h.1 (k _ _ _ _ _ _ h.2 (r.tok _) ⟨_, rfl⟩)
        | _ => exact h.elim
      | lst kk =>
        cases b with
        | int i =>
          obtain ⟨rfl, xs, hk, h0, h1, h2, hq⟩ := h
          obtain ⟨_, rfl⟩ := Va
          obtain ⟨_, rfl⟩ := Vb
          obtain ⟨e0, vs, P, X⟩ := r.H.obj _ _ hk
          refine mul_plain P h0 h1 (by rw [← X.length]; exact h2) ?_
          exact k _ _ _ _ _ _ hq (r.newList (n := 0) (t := s.toks) (X.rep _)) ⟨by simp, by rw [ext1_new]⟩
        | lst j =>
          obtain ⟨rfl, xs, ys, hk, hj, h2, hq⟩ := h
          obtain ⟨_, rfl⟩ := Va
          obtain ⟨_, rfl⟩ := Vb
          obtain ⟨e0, vs, P, X⟩ := r.H.obj _ _ hk
          obtain ⟨e0', ws, P', Y⟩ := r.H.obj _ _ hj
          refine add_plain P.isList P'.isList (by rw [← X.length, ← Y.length]; exact h2) ?_
          exact k _ _ _ _ _ _ hq (r.newList (n := 0) (t := s.toks) (X.app Y)) ⟨by simp, by rw [ext1_new]⟩
        | _ => exact h.elim
      | _ => exact h.elim
    | _ => exact h.elim
  | _ => exact h.elim
theorem ok_bin {op : Operator} {e₁ e₂ : PySem.Expr} {a b : Tm} {p : Pos} (h₁ : OkT C F A e₁ (wpT C S a)) (h₂ : OkT C F A e₂ (wpT C S b)) : OkT C F A (.BinOp e₁ op e₂ p) (wpT C S (.bin op a b)) := fun ρ σ Q h s θ δ r Qc k => by
  refine wpAny_BinOp (h₁ ρ σ _ h s θ δ r _ fun va σ₁ θ₁ δ₁ s₁ x hb b₁ V₁ => h₂ ρ σ₁ _ hb s₁ θ₁ δ₁ b₁.r _ fun vb σ₂ θ₂ δ₂ s₂ y hw b₂ V₂ => ?_)
  exact binW_rule b₂.r (b₂.val b₁.r V₁) V₂ hw fun v σ₃ θ₃ δ₃ s₃ z hq b₃ V₃ => k _ _ _ _ _ _ hq ((b₁.trans b₂).trans b₃) V₃
theorem ok_inv {e₁ : PySem.Expr} {a : Tm} {p : Pos} (h₁ : OkT C F A e₁ (wpT C S a)) : OkT C F A (.UnaryOp .Invert e₁ p) (wpT C S (.inv a)) := fun ρ σ Q h s θ δ r Qc k => by
  refine wpAny_UnaryOp (h₁ ρ σ _ h s θ δ r _ fun va σ₁ θ₁ δ₁ s₁ x hb b₁ V₁ => ?_)
  obtain ⟨i, rfl, hq⟩ := hb
  obtain ⟨_, rfl⟩ := V₁
  exact invert_int (k _ _ _ _ _ _ hq (b₁.trans (b₁.r.tok _)) ⟨_, rfl⟩)
theorem ok_neg {e₁ : PySem.Expr} {a : Tm} {p : Pos} (h₁ : OkT C F A e₁ (wpT C S a)) : OkT C F A (.UnaryOp .USub e₁ p) (wpT C S (.neg a)) := fun ρ σ Q h s θ δ r Qc k => by
  refine wpAny_UnaryOp (h₁ ρ σ _ h s θ δ r _ fun va σ₁ θ₁ δ₁ s₁ x hb b₁ V₁ => ?_)
  obtain ⟨i, rfl, hq⟩ := hb
  obtain ⟨_, rfl⟩ := V₁
  exact P.neg_int (k _ _ _ _ _ _ hq (b₁.trans (b₁.r.tok _)) ⟨_, rfl⟩)
theorem isNone_of {h : Heap} {n : Nat} {θ : Nat → Nat} {v : AV} {x : Value} (V : Val C h n θ v x) : (x == .none) = isNone v := by
  cases v with
  | «at» a =>
    cases a with
    | none => cases V; rfl
    | bool b => cases V; rfl
    | int i => obtain ⟨t, rfl⟩ := V; rfl
    | lst k => obtain ⟨_, rfl⟩ := V; rfl
  | tup l => obtain ⟨t, vs, rfl, _⟩ := V; rfl
  | ins k => obtain ⟨_, rfl⟩ := V; rfl
  | meth f k => obtain ⟨_, q, rfl, _⟩ := V; rfl
  | str y => obtain ⟨t, rfl⟩ := V; rfl
  | kl j => cases V; rfl
  | fn f => cases V; rfl
  | clo k => obtain ⟨_, q, _, _, _, rfl, _⟩ := V; rfl
theorem all2_ints {l m : List At} {xs ys : List Value} (hl : l.all isInt = true) (hm : m.all isInt = true) {n : Nat} {θ : Nat → Nat} (X : All2 (AtV n θ) l xs) (Y : All2 (AtV n θ) m ys) {A : Around} {s : Shared} :
    ∀ j (h1 : j < xs.toArray.size) (h2 : j < ys.toArray.size), EqAt A s xs.toArray[j] ys.toArray[j] (l[j]? == m[j]?) := by
  intro j h1 h2
  have h1' : j < xs.length := by simpa using h1
  have h2' : j < ys.length := by simpa using h2
  have hl1 : j < l.length := by rw [X.length]; exact h1'
  have hm1 : j < m.length := by rw [Y.length]; exact h2'
  obtain ⟨x, e1, V1⟩ := X.get (List.getElem?_eq_getElem hl1)
  obtain ⟨y, e2, V2⟩ := Y.get (List.getElem?_eq_getElem hm1)
  rw [List.getElem?_eq_getElem h1'] at e1
  rw [List.getElem?_eq_getElem h2'] at e2
  rw [List.getElem?_eq_getElem hl1, List.getElem?_eq_getElem hm1]
  have i1 := List.all_eq_true.mp hl _ (List.getElem_mem hl1)
  have i2 := List.all_eq_true.mp hm _ (List.getElem_mem hm1)
  simp only [List.getElem_toArray]
  rw [Option.some.inj e1, Option.some.inj e2]
  cases q1 : l[j] with
  | int a =>
    cases q2 : m[j] with
    | int b =>
      rw [q1] at V1; rw [q2] at V2
      obtain ⟨t, rfl⟩ := V1
      obtain ⟨u, rfl⟩ := V2
      have : (some (At.int a) == some (At.int b)) = (a == b) := by
        by_cases h : a = b
        · subst h; simp
        · rw [beq_eq_false_iff_ne.mpr h, beq_eq_false_iff_ne.mpr (fun q => h (by injection q with q; injection q))]
      rw [this]
      exact .int_int a t b u
    | _ => rw [q2] at i2; cases i2
  | _ => rw [q1] at i1; cases i1
theorem all_same {α : Type} [DecidableEq α] : ∀ {l m : List α}, ((List.range (min l.length m.length)).all (fun j => l[j]? == m[j]?) && l.length == m.length) = decide (l = m) := by
  intro l m
  by_cases h : l = m
  · subst h; simp
  · rw [decide_eq_false h]
    by_cases hl : l.length = m.length
    · rw [Bool.and_eq_false_iff]
      left
      rw [List.all_eq_false]
      refine Classical.byContradiction fun hn => h (List.ext_getElem hl fun j h1 h2 => ?_)
      have : ¬ ¬ (l[j]? == m[j]?) = true := fun z => hn ⟨j, by simp; lia, z⟩
      simpa [List.getElem?_eq_getElem h1, List.getElem?_eq_getElem h2] using this
    · rw [Bool.and_eq_false_iff]
      right
      simpa using hl
theorem tup_isTuple {h : Heap} {t : Addr} {vs : List Value} (e : h.get? t = some (tupObj vs)) : h.IsTuple t vs.toArray := ⟨_, e, rfl, _, rfl⟩
theorem of_some {a b : Bool} {M : Bool → Prop} (h : some a = some b) (k : M b) : M a := Option.some.inj h ▸ k
theorem cmp_rule {op : CmpOp} {va vb : AV} {ρ : Loc} {σ : St} {θ δ : Nat → Nat} {s : Shared} {x y : Value} {b : Bool} (hu : A.units < cLine) (r : R C F ρ σ θ δ s) (Va : Val C s.heap σ.length θ va x) (Vb : Val C s.heap σ.length θ vb y) (h : cmpV op va vb = some b)
    {Q : Value → Shared → Prop} (k : Q (.bool b) s) : wpAny (model C.P C.w) A (compareOp op x y) Q E0 s := by
  cases vb with
  | «at» b' =>
    cases b' with
    | none =>
      cases op with
      | Is => cases h; cases Vb; exact is_none (by rw [isNone_of Va]; exact k)
      | IsNot => cases h; cases Vb; exact isNot_none (by rw [isNone_of Va]; exact k)
      | _ => exact Mine.Dx.no_some h
    | int j =>
      cases va with
      | «at» a' =>
        cases a' with
        | int i =>
          obtain ⟨_, rfl⟩ := Va
          obtain ⟨_, rfl⟩ := Vb
          cases op with
          | Eq => exact P.eq_int (of_some (M := fun b => Q (.bool b) s) h k)
          | NotEq => exact P.ne_int (of_some (M := fun b => Q (.bool b) s) h k)
          | Lt => exact P.lt_int (of_some (M := fun b => Q (.bool b) s) h k)
          | LtE => exact P.le_int (of_some (M := fun b => Q (.bool b) s) h k)
          | Gt => exact P.gt_int (of_some (M := fun b => Q (.bool b) s) h k)
          | GtE => exact P.ge_int (of_some (M := fun b => Q (.bool b) s) h k)
          | _ => exact Mine.Dx.no_some h
        | _ => exact Mine.Dx.no_some h
      | _ => exact Mine.Dx.no_some h
    | bool b' =>
      cases va with
      | «at» a' =>
        cases a' with
        | bool a =>
          cases Va
          cases Vb
          cases op with
          | Eq => exact eq_bool (of_some (M := fun b => Q (.bool b) s) h k)
          | _ => exact Mine.Dx.no_some h
        | _ => exact Mine.Dx.no_some h
      | _ => exact Mine.Dx.no_some h
    | lst _ => exact Mine.Dx.no_some h
  | tup m =>
    cases va with
    | tup l =>
      cases op with
      | NotEq =>
        have h : (if l.all isInt && m.all isInt then some (decide (l ≠ m)) else none) = some b := h
        by_cases hi : (l.all isInt && m.all isInt) = true
        · rw [if_pos hi] at h
          cases h
          obtain ⟨hl, hm⟩ := Bool.and_eq_true_iff.mp hi
          obtain ⟨t, vs, rfl, e1, X⟩ := Va
          obtain ⟨u, ws, rfl, e2, Y⟩ := Vb
          refine RcNeAt.tuples (tup_isTuple e1) (tup_isTuple e2) hu (all2_ints hl hm X Y) C.P C.w E0 Q ?_
          have : (!((List.range (min vs.toArray.size ws.toArray.size)).all (fun j => l[j]? == m[j]?) && vs.toArray.size == ws.toArray.size)) = decide (l ≠ m) := by
            rw [List.size_toArray, List.size_toArray, ← X.length, ← Y.length, all_same]
            simp
          rw [this]; exact k
        · rw [if_neg hi] at h; cases h
      | _ => exact Mine.Dx.no_some h
    | _ => exact Mine.Dx.no_some h
  | _ => exact Mine.Dx.no_some h
theorem ok_cmp {op : CmpOp} {e₁ e₂ : PySem.Expr} {a b : Tm} {p : Pos} (hu : A.units < cLine) (hm : behindInMarks op e₂ = false) (h₁ : OkT C F A e₁ (wpT C S a)) (h₂ : OkT C F A e₂ (wpT C S b)) : OkT C F A (.Compare e₁ [op] [e₂] p) (wpT C S (.cmp op a b)) := fun ρ σ Q h s θ δ r Qc k => by
  refine wpAny_Compare1 (h₁ ρ σ _ h s θ δ r _ fun va σ₁ θ₁ δ₁ s₁ x hb b₁ V₁ => h₂ ρ σ₁ _ hb s₁ θ₁ δ₁ b₁.r _ fun vb σ₂ θ₂ δ₂ s₂ y hw b₂ V₂ => ?_) hm
  obtain ⟨b, hc, hq⟩ := hw
  exact cmp_rule hu b₂.r (b₂.val b₁.r V₁) V₂ hc (k _ _ _ _ _ _ hq (b₁.trans b₂) rfl)
theorem listOf_eq {o : Option AO} {xs : List AV} (h : listOf o = some xs) : o = some (.list xs) := by
  cases o with
  | none => cases h
  | some o => cases o with
    | list ys => cases h; rfl
    | inst fs => cases h
theorem list_rule {σ : St} {θ δ : Nat → Nat} {h : Heap} {v : AV} {x : Value} {xs : List AV} (H : RelH C σ θ δ h) (V : Val C h σ.length θ v x) (e : listAt C σ v = some xs) : ∃ a vs, x = .ref a ∧ h.IsList a vs.toArray ∧ All2 (Val C h σ.length θ) xs vs := by
  cases v with
  | «at» a =>
    cases a with
    | lst k =>
      obtain ⟨_, rfl⟩ := V
      obtain ⟨e0, vs, P, AV⟩ := H.obj _ _ (listOf_eq e)
      exact ⟨_, vs, rfl, P.isList, AV⟩
    | _ => exact Mine.Dx.no_some e
  | kl j =>
    cases e
    cases V
    obtain ⟨vs, IL, AV⟩ := H.kl j
    exact ⟨_, vs, rfl, IL, AV.mono fun a b V => V.mono (Nat.zero_le _) (fun _ _ => rfl) fun _ _ e _ => e⟩
  | _ => exact Mine.Dx.no_some e
noncomputable def atOf : AV → At
  | .at a => a
  | _ => .none
theorem ats_of {h : Heap} {n : Nat} {θ : Nat → Nat} : ∀ {xs : List AV} {vs : List Value}, All2 (Val C h n θ) xs vs → xs.all isIntV = true → All2 (AtV n θ) (xs.map atOf) vs ∧ (xs.map atOf).all isInt = true ∧ xs = (xs.map atOf).map AV.at
  | [], [], _, _ => ⟨.nil, rfl, rfl⟩
  | x :: xs, v :: vs, X, h => by
    have h : (isIntV x && xs.all isIntV) = true := h
    cases X with
    | cons V X =>
      obtain ⟨i1, i2, i3⟩ := ats_of X (Mine.Dx.r2 h)
      cases x with
      | «at» a =>
        refine ⟨.cons V i1, ?_, ?_⟩
        · cases a with
          | int i => exact i2
          | _ => exact Mine.Dx.no_true (Mine.Dx.l2 h)
        · exact congrArg (AV.at a :: ·) i3
      | _ => exact Mine.Dx.no_true (Mine.Dx.l2 h)
  | [], _ :: _, X, _ => by cases X
  | _ :: _, [], X, _ => by cases X
theorem leq_rule {a b : Addr} {xs ys : List AV} {vs ws : List Value} {h : Heap} {n : Nat} {θ : Nat → Nat} {s : Shared} (hu : A.units < cLine) (I : s.heap.IsList a vs.toArray) (J : s.heap.IsList b ws.toArray) (X : All2 (Val C h n θ) xs vs) (Y : All2 (Val C h n θ) ys ws) (hx : xs.all isIntV = true) (hy : ys.all isIntV = true)
    {Q : Value → Shared → Prop} (k : Q (.bool (decide (xs = ys))) s) : wpAny (model C.P C.w) A (compareOp .Eq (.ref a) (.ref b)) Q E0 s := by
  obtain ⟨x1, x2, x3⟩ := ats_of X hx
  obtain ⟨y1, y2, y3⟩ := ats_of Y hy
  have key : decide (xs = ys) = decide (xs.map atOf = ys.map atOf) := by
    refine decide_eq_decide.mpr ⟨fun q => by rw [q], fun q => by rw [x3, y3, q]⟩
  rw [key] at k
  by_cases hl : vs.toArray.size = ws.toArray.size
  · refine eq_listAt I J hl hu (all2_ints x2 y2 x1 y1) ?_
    have len : (xs.map atOf).length = (ys.map atOf).length := by rw [x1.length, y1.length]; simpa using hl
    have := all_same (l := xs.map atOf) (m := ys.map atOf)
    rw [len, Nat.min_self] at this
    simp only [beq_self_eq_true, Bool.and_true] at this
    rw [List.size_toArray, ← x1.length, len, this]
    exact k
  · refine eq_list_lengthsAt I J (by simpa using hl) hu ?_
    have : decide (xs.map atOf = ys.map atOf) = false := decide_eq_false fun q => hl (by
      rw [List.size_toArray, List.size_toArray, ← x1.length, ← y1.length, q])
    rw [← this]; exact k
theorem ok_leq {e₁ e₂ : PySem.Expr} {a b : Tm} {p : Pos} (hu : A.units < cLine) (hm : behindInMarks .Eq e₂ = false) (h₁ : OkT C F A e₁ (wpT C S a)) (h₂ : OkT C F A e₂ (wpT C S b)) : OkT C F A (.Compare e₁ [.Eq] [e₂] p) (wpT C S (.leq a b)) := fun ρ σ Q h s θ δ r Qc k => by
  refine wpAny_Compare1 (h₁ ρ σ _ h s θ δ r _ fun va σ₁ θ₁ δ₁ s₁ x hb b₁ V₁ => h₂ ρ σ₁ _ hb s₁ θ₁ δ₁ b₁.r _ fun vb σ₂ θ₂ δ₂ s₂ y hw b₂ V₂ => ?_) hm
  obtain ⟨xs, ys, e1, e2, e3, e4, hq⟩ := hw
  obtain ⟨a, vs, rfl, I, X⟩ := list_rule b₂.r.H (b₂.val b₁.r V₁) e1
  obtain ⟨b, ws, rfl, J, Y⟩ := list_rule b₂.r.H V₂ e2
  exact leq_rule hu I J X Y e3 e4 (k _ _ _ _ _ _ hq (b₁.trans b₂) rfl)
theorem ok_cut {e₁ : PySem.Expr} {a : Tm} {hi : Option Nat} {up : Option PySem.Expr} {p p' : Pos} (hup : match hi with | none => up = none | some n => ∃ k q, up = some (.Constant (.int n) k q)) (h₁ : OkT C F A e₁ (wpT C S a)) :
    OkT C F A (.Subscript e₁ (.Slice none up none p) p') (wpT C S (.cut a hi)) := fun ρ σ Q h s θ δ r Qc k => by
  refine Subscript_ (h₁ ρ σ _ h s θ δ r _ fun va σ₁ θ₁ δ₁ s₁ x hb b₁ V₁ => ?_)
  obtain ⟨xs, e1, hl, hq⟩ := hb
  obtain ⟨ad, vs, rfl, I, X⟩ := list_rule b₁.r.H V₁ e1
  have main : ∀ (vu : Value) (tk : Nat), IsPart vu (cutI hi) → wpAny (model C.P C.w) A (subscriptTail e₁ (.Slice none up none p) (.ref ad) (.ref s₁.heap.objs.size)) Qc E0 { s₁ with heap := s₁.heap.push { cls := .type "slice", data := .fields #[.none, vu, .none] }, toks := tk } := fun vu tk hp => by
    have b₂ := b₁.r.push { cls := .type "slice", data := .fields #[.none, vu, .none] } tk
    obtain ⟨ad', vs', e', I', X'⟩ := list_rule b₂.r.H (b₂.val b₁.r V₁) e1
    cases e'
    refine tail_any I'.typeIs slot_list_getitem.lookup (wpAny_getItem_list_slice I' (Heap.IsSliceOf.new ..) .none hp .none (by simp) ?_ (by rw [List.size_toArray, ← X'.length, sizeLine_eq]; exact hl)) rfl
    rw [pick_cut]
    exact k _ _ _ _ _ _ hq (b₁.trans (b₂.trans (b₂.r.newList (n := 0) (t := tk) (X'.cut hi)))) ⟨by simp, by rw [ext1_new]⟩
  refine wpAny_Slice (wpAny_evalPart_none ?_)
  cases hi with
  | none =>
    obtain rfl := hup
    exact wpAny_evalPart_none (wpAny_evalPart_none (main .none s₁.toks .none))
  | some n =>
    obtain ⟨kk, q, rfl⟩ := hup
    exact wpAny_evalPart_some (wpAny_Constant_int (wpAny_evalPart_none (main _ _ (.int n _))))
theorem ok_len (fo : FmOk F) (co : CfgOk C T) {x : Str} {xp pos : Pos} {e : PySem.Expr} {a : Tm} (hn : starEach [e] F.env = [(false, eval e F.env)]) (hload : ∀ {ρ : Loc} {σ : St} {θ δ : Nat → Nat} {s : Shared} {Qc : Value → Shared → Prop}, R C F ρ σ θ δ s → Qc (.builtin "len") s → wpAny (model C.P C.w) A (eval (.Name x xp) F.env) Qc E0 s) (h₁ : OkT C F A e (wpT C S a)) :
    OkT C F A (.Call (.Name x xp) [e] [] pos) (wpT C S (.len a)) := fun ρ σ Q h s θ δ r Qc k => by
  refine Call_ (hload r ?_) rfl
  have tr : backTo pos (starEach [e] F.env) = [(false, eval e F.env)] := by rw [hn]; rfl
  rw [tr]
  refine Calls.callWith_builtin rfl (Calls.evalArgs_plain (Calls.spliced_cons (h₁ ρ σ _ h s θ δ r _ fun v σ₁ θ₁ δ₁ s₁ val hq b V => Calls.spliced_nil ?_)))
  obtain ⟨xs, e1, hl, hq⟩ := hq
  obtain ⟨ad, vs, rfl, I, X⟩ := list_rule b.r.H V e1
  have hs : vs.toArray.size = xs.length := by rw [List.size_toArray, ← X.length]
  refine Calls.call_len_list I (by rw [hs]; lia) ?_
  rw [hs]
  exact k _ _ _ _ _ _ hq (b.trans (b.r.tok _)) ⟨_, rfl⟩
end
end Mine.Py
end
section
open PySem PySem.W PyProof.Rows PySem.Calls
namespace Mine.Py
noncomputable def KeptT (C : Cfg) (σ : St) (θ δ : Nat → Nat) (h h' : Heap) : Prop := ∀ b o, h.get? b = some o → b ≠ C.wx → (∀ k, k < σ.length → b ≠ θ k ∧ b ≠ δ k) → h'.get? b = some o
noncomputable def Room (A : Around) (n : Nat) : Prop := A.depth + 3 * n ≤ 900 ∧ A.units + 40 * n ≤ 9000 ∧ A.handled = none
noncomputable def Room1 (A : Around) (n : Nat) : Prop := A.depth + 1 + 3 * n ≤ 900 ∧ A.units + 3 + 40 * n ≤ 9000 ∧ A.handled = none
theorem Room.one {A : Around} {n : Nat} (h : Room A (n + 1)) : Room1 A n := ⟨by have := h.1; lia, by have := h.2.1; lia, h.2.2⟩
structure Done (C : Cfg) (σ : St) (θ δ : Nat → Nat) (s : Shared) (σ' : St) (θ' δ' : Nat → Nat) (s' : Shared) : Prop where
  H : RelH C σ' θ' δ' s'.heap
  kept : KeptT C σ θ δ s.heap s'.heap
  ext : Ext σ θ δ s.heap σ' θ' δ'
  gens : s'.gens = C.gens
  os : s'.os = C.os
noncomputable def SpecOk (C : Cfg) (n : Nat) (f : Nat) (W : Spec) : Prop :=
  ∀ args σ Q, W args σ Q → ∀ A, Room A n → ∀ s θ δ, RelH C σ θ δ s.heap → s.gens = C.gens → s.os = C.os → ∀ vals, All2 (Val C s.heap σ.length θ) args vals → ∀ Rc : Result → Shared → Prop,
    (∀ v σ' θ' δ' s' val, Q v σ' → Done C σ θ δ s σ' θ' δ' s' → Val C s'.heap σ'.length θ' v val → Rc (.ok (.ret val)) s') → codeAny (model C.P C.w) A (.call (.ref (C.fa f)) ⟨vals, []⟩) Rc s
section
variable {C : Cfg} {F : Fm} {A : Around} {T : Tabs} {S : Nat → Spec}
theorem R.size {ρ : Loc} {σ : St} {θ δ : Nat → Nat} {s : Shared} (r : R C F ρ σ θ δ s) : F.L < s.heap.objs.size := by
  obtain ⟨m, ⟨o, es, ep, e1, _⟩⟩ := r.ns
  exact Heap.lt_size e1
theorem R.done {ρ : Loc} {σ σ' : St} {θ δ θ' δ' : Nat → Nat} {s s' : Shared} (r : R C F ρ σ θ δ s) (d : Done C σ θ δ s σ' θ' δ' s') : Back C F ρ σ θ δ s σ' θ' δ' s' := by
  have un : ∀ b o, s.heap.get? b = some o → Un o → s'.heap.get? b = some o := fun b o e i => d.kept b o e (r.H.nwx e i) (r.H.un e i)
  have imm : ∀ b o, s.heap.get? b = some o → Imm o → s'.heap.get? b = some o := fun b o e i => un b o e i.un
  have hL : ∀ o, s.heap.get? F.L = some o → s'.heap.get? F.L = some o := fun o e => d.kept _ _ e r.wxL fun k q => ⟨Ne.symm (r.apart k q).1, Ne.symm (r.apart k q).2⟩
  obtain ⟨m, ⟨o, es, ep, e1, e2⟩⟩ := r.ns
  refine ⟨⟨d.H, ⟨m, ⟨o, es, ep, hL _ e1, e2⟩⟩, fun i x v a b => let ⟨val, c, V⟩ := r.loc i x v a b; ⟨val, c.keep hL fun b o e q => un b o e (.inr q), V.mono d.ext.1 (fun k q => (d.ext.2.1 k q).1) imm⟩,
    fun c hc => let ⟨l, o, v, e, q, i⟩ := r.cel c hc; ⟨l, o, v, un _ _ e (.cell q), q, i⟩, r.len, fun k q => ?_, r.low, d.gens, d.os⟩, fun b o e n1 n2 => d.kept b o e (fun z => n1 (by rw [z]; exact .head _)) n2, d.ext⟩
  by_cases z : k < σ.length
  · rw [(d.ext.2.1 k z).1, (d.ext.2.1 k z).2]; exact r.apart k z
  · have := d.ext.2.2 k (Nat.not_lt.mp z) q
    refine ⟨fun y => ?_, fun y => ?_⟩
    · rw [← y, this.1] at e1; cases e1
    · rw [← y, this.2] at e1; cases e1
theorem call_spec {n : Nat} {f : Nat} {W : Spec} (ok : SpecOk C n f W) (hA : Room A n) {ρ : Loc} {σ : St} {θ δ : Nat → Nat} {s : Shared} (r : R C F ρ σ θ δ s) {args : List AV} {vals : List Value} {Q : AV → St → Prop} (h : W args σ Q) (V : All2 (Val C s.heap σ.length θ) args vals)
    {Qc : Value → Shared → Prop} (k : ∀ v σ' θ' δ' s' val, Q v σ' → Back C F ρ σ θ δ s σ' θ' δ' s' → Val C s'.heap σ'.length θ' v val → Qc val s') : wpAny (model C.P C.w) A (call (.ref (C.fa f)) vals) Qc E0 s :=
  wpAny_call (ok args σ Q h A hA s θ δ r.H r.gens r.os vals V _ fun v σ' θ' δ' s' val hq d V' => k _ _ _ _ _ _ hq (r.done d) V')
noncomputable def OkTs (C : Cfg) (F : Fm) (A : Around) (es : List PySem.Expr) (W : Loc → St → (List AV → St → Prop) → Prop) : Prop :=
  ∀ pos ρ σ Q, W ρ σ Q → ∀ s θ δ, R C F ρ σ θ δ s → ∀ Qc : List Value → Shared → Prop, (∀ vs σ' θ' δ' s' vals, Q vs σ' → Back C F ρ σ θ δ s σ' θ' δ' s' → All2 (Val C s'.heap σ'.length θ') vs vals → Qc vals s') → wpAny (model C.P C.w) A (spliced (backTo pos (starEach es F.env))) Qc E0 s
noncomputable def noStar : PySem.Expr → Bool
  | .Starred .. => false
  | _ => true
theorem starEach_cons {e : PySem.Expr} {r : List PySem.Expr} {env : Env} (h : noStar e = true) : starEach (e :: r) env = (false, eval e env) :: starEach r env := by
  cases e <;> first | rfl | cases h
theorem starEach_plain {env : Env} {pos : Pos} : ∀ {es : List PySem.Expr}, es.all noStar = true → (backTo pos (starEach es env)).any (·.1) = false ∧ (backTo pos (starEach es env)).all (!·.1) = true ∧ (backTo pos (starEach es env)).length = es.length
  | [], _ => ⟨rfl, rfl, rfl⟩
  | e :: r, h => by
    simp only [List.all_cons, Bool.and_eq_true] at h
    rw [starEach_cons h.1]
    have := starEach_plain (env := env) (pos := pos) h.2
    simp only [backTo, List.map_cons, List.any_cons, List.all_cons, Bool.false_or, Bool.not_false, Bool.true_and, List.length_cons] at this ⊢
    exact ⟨this.1, this.2.1, by rw [this.2.2]⟩
theorem ok_nil : OkTs C F A [] (wpTs C S .nil) := fun pos ρ σ Q h s θ δ r Qc k => by
  rw [arm_starEach_nil]
  exact spliced_nil (k _ _ _ _ _ _ h (.refl r) .nil)
theorem ok_cons {e : PySem.Expr} {es : List PySem.Expr} {t : Tm} {ts : Ts} (hn : noStar e = true) (h₁ : OkT C F A e (wpT C S t)) (h₂ : OkTs C F A es (wpTs C S ts)) : OkTs C F A (e :: es) (wpTs C S (.cons t ts)) := fun pos ρ σ Q h s θ δ r Qc k => by
  rw [starEach_cons hn]
  simp only [backTo, List.map_cons, Bool.false_eq_true, if_false]
  refine spliced_cons (h₁ ρ σ _ h s θ δ r _ fun va σ₁ θ₁ δ₁ s₁ x hb b₁ V₁ => ?_)
  exact h₂ pos ρ σ₁ _ hb s₁ θ₁ δ₁ b₁.r _ fun vs σ₂ θ₂ δ₂ s₂ vals hq b₂ V₂ => k _ _ _ _ _ _ hq (b₁.trans b₂) (.cons (b₂.val b₁.r V₁) V₂)
theorem evalArgs_none {M : Model} {f : Value} {pos : Pos} {s : Shared} {Q : Args → Shared → Prop} (h : wpAny M A (spliced (backTo pos [])) (fun vs s' => Q ⟨vs, []⟩ s') E0 s) : wpAny M A (evalArgs f true (backTo pos []) []) Q E0 s := by
  unfold evalArgs
  show wpAny M A (spliced (backTo pos []) >>= _) Q E0 s
  refine wpAny_bind (wpAny_mono h (fun vs s' h' => ?_) fun _ _ x => x)
  refine wpAny_bind (wpAny_pure (wpAny_holding ?_))
  exact wpAny_bind (wpAny_pure (wpAny_bind (wpAny_pure (wpAny_pure h'))))
theorem args_call {f : Value} {first : List Value} {es : List PySem.Expr} {pos : Pos} {ts : Ts} {Q : List AV → St → Prop} {ρ : Loc} {σ : St} {θ δ : Nat → Nat} {s : Shared} (hs : es.all noStar = true) (ho : OkTs C F A es (wpTs C S ts)) (r : R C F ρ σ θ δ s) (h : wpTs C S ts ρ σ Q)
    (hk : ∀ vs σ' θ' δ' s', Q vs σ' → Back C F ρ σ θ δ s σ' θ' δ' s' → ∃ k, (k = Keeper.frame ∨ k = Keeper.machine ∨ k = Keeper.boundFrame) ∧ Looks (model C.P C.w) s'.heap (keeperOf f) k) {Qc : Value → Shared → Prop}
    (k : ∀ vs σ' θ' δ' s' vals, Q vs σ' → Back C F ρ σ θ δ s σ' θ' δ' s' → All2 (Val C s'.heap σ'.length θ') vs vals → wpAny (model C.P C.w) A (call f (first ++ vals) []) Qc E0 s') : wpAny (model C.P C.w) A (callWith pos f first (backTo pos (starEach es F.env)) []) Qc E0 s := by
  have pl := starEach_plain (env := F.env) (pos := pos) hs
  refine callWith_of (P := fun h => ∃ k, (k = Keeper.frame ∨ k = Keeper.machine ∨ k = Keeper.boundFrame) ∧ Looks (model C.P C.w) h (keeperOf f) k) (by rw [pl.1]; rfl) (fun h p => p) ?_
  have main : wpAny (model C.P C.w) A (spliced (backTo pos (starEach es F.env))) (fun vs s' => (∃ k, (k = Keeper.frame ∨ k = Keeper.machine ∨ k = Keeper.boundFrame) ∧ Looks (model C.P C.w) s'.heap (keeperOf f) k) ∧ wpAny (model C.P C.w) A (call f (first ++ vs) []) Qc E0 s') E0 s :=
    ho pos ρ σ _ h s θ δ r _ fun vs σ' θ' δ' s' vals hq b V => ⟨hk _ _ _ _ _ hq b, k _ _ _ _ _ _ hq b V⟩
  cases es with
  | nil =>
    rw [arm_starEach_nil] at main ⊢
    exact evalArgs_none main
  | cons e es =>
    simp only [List.all_cons, Bool.and_eq_true] at hs
    rw [starEach_cons hs.1] at main ⊢
    exact evalArgs_plain main
end
end Mine.Py
end
section
open PySem PySem.W PyProof.Rows PySem.Calls
namespace Mine.Py
noncomputable def NewOk (C : Cfg) (n : Nat) (W : Spec) : Prop :=
  ∀ a b σ Q, W [a, b] σ Q → ∀ A, Room A n → ∀ s θ δ, RelH C σ θ δ s.heap → s.gens = C.gens → s.os = C.os → ∀ va vb, Val C s.heap σ.length θ a va → Val C s.heap σ.length θ b vb → ∀ Rc : Result → Shared → Prop,
    (∀ v σ' θ' δ' s' val, Q v σ' → Done C σ θ δ s σ' θ' δ' s' → Val C s'.heap σ'.length θ' v val → Rc (.ok (.ret val)) s') → codeAny (model C.P C.w) A (.call (.ref C.C) ⟨[], [("memory", va), ("pc", vb)]⟩) Rc s
noncomputable def LamOk (C : Cfg) (n : Nat) (W : Spec) : Prop :=
  ∀ k args σ Q, W (.ins k :: args) σ Q → ∀ A, Room A n → ∀ s θ δ, RelH C σ θ δ s.heap → s.gens = C.gens → s.os = C.os → ∀ q, Val C s.heap σ.length θ (.clo k) (.ref q) → ∀ vals, All2 (Val C s.heap σ.length θ) args vals → ∀ Rc : Result → Shared → Prop,
    (∀ v σ' θ' δ' s' val, Q v σ' → Done C σ θ δ s σ' θ' δ' s' → Val C s'.heap σ'.length θ' v val → Rc (.ok (.ret val)) s') → codeAny (model C.P C.w) A (.call (.ref q) ⟨vals, []⟩) Rc s
structure SpecsOk (C : Cfg) (n : Nat) (S : Nat → Spec) : Prop where
  ok : ∀ f, f < 300 → SpecOk C n f (S f)
  nw : NewOk C n (S 300)
  fn : ∀ f a σ Q, f < 300 → S f a σ Q → keepIn C.K (.ref (C.fa f)) = true ∧ fnIn C.K (C.fa f) = true
  lm : LamOk C n (S 400)
section
variable {C : Cfg} {F : Fm} {A : Around} {T : Tabs} {S : Nat → Spec} {n : Nat}
noncomputable def noSlice : PySem.Expr → Bool
  | .Slice .. => false
  | _ => true
theorem sub_plain {slice : PySem.Expr} {o i : Value} (h : noSlice slice = true) : subscripted slice false o i = operate [o, i] (getItem o i) := by
  cases slice <;> first | rfl | cases h
theorem idxL_some {xs : List AV} {i : Int} {v : AV} (h : idxL xs i = some v) : (0 ≤ i ∧ i < 2 ^ 63 ∧ xs[i.toNat]? = some v) ∨ (i < 0 ∧ -(xs.length : Int) ≤ i ∧ -(2 ^ 63) ≤ i ∧ xs[(i + xs.length).toNat]? = some v) := by
  unfold idxL at h
  split at h
  · rename_i q; exact .inl ⟨q.1, q.2, h⟩
  · split at h
    · rename_i q; exact .inr ⟨q.1, q.2.1, q.2.2, h⟩
    · cases h
theorem get_rule {a : Addr} {vs : List Value} {xs : List AV} {i : Int} {t : Nat} {v : AV} {σ : St} {θ : Nat → Nat} {s : Shared} {Q : Value → Shared → Prop} (I : s.heap.IsList a vs.toArray) (X : All2 (Val C s.heap σ.length θ) xs vs) (h : idxL xs i = some v)
    (k : ∀ val, Val C s.heap σ.length θ v val → Q val s) : wpAny (model C.P C.w) A (getItem (.ref a) (.int i t)) Q E0 s := by
  rcases idxL_some h with ⟨i0, i1, e3⟩ | ⟨i0, i1, i2, e3⟩
  · obtain ⟨val, e4, V⟩ := X.get e3
    exact wpAny_getItem_list I i0 i1 (by simpa using e4) (k _ V)
  · obtain ⟨val, e4, V⟩ := X.get e3
    exact wpAny_getItem_list_neg I i0 (by rw [List.size_toArray, ← X.length]; exact i1) i2 (by rw [List.size_toArray, ← X.length]; simpa using e4) (k _ V)
theorem seqIdx {i : Int} {n : Nat} (h : 0 ≤ i) (h1 : i.toNat < n) : seqIndex? i n = some i.toNat := by
  unfold seqIndex?
  have e : ¬ (i < 0) := by lia
  simp only [e, if_false]
  rw [if_pos (by simp; lia)]
theorem idx_rule {value slice : PySem.Expr} (hn : noSlice slice = true) {va vb : AV} {ρ : Loc} {σ : St} {θ δ : Nat → Nat} {s : Shared} {x y : Value} {Q : AV → St → Prop} (r : R C F ρ σ θ δ s) (Va : Val C s.heap σ.length θ va x) (Vb : Val C s.heap σ.length θ vb y) (h : idxW C va vb σ Q)
    {Qc : Value → Shared → Prop} (k : ∀ v σ' θ' δ' s' val, Q v σ' → Back C F ρ σ θ δ s σ' θ' δ' s' → Val C s'.heap σ'.length θ' v val → Qc val s') : wpAny (model C.P C.w) A (subscriptTail value slice x y) Qc E0 s := by
  cases vb with
  | «at» a =>
    cases a with
    | int i =>
      cases va with
      | «at» a =>
        cases a with
        | lst kk =>
          obtain ⟨xs, v, e1, e2, hq⟩ := h
          obtain ⟨_, rfl⟩ := Va
          obtain ⟨_, rfl⟩ := Vb
          obtain ⟨e0, vs, P, X⟩ := r.H.obj _ _ e1
          exact tail_any P.isList.typeIs slot_list_getitem.lookup (get_rule P.isList X e2 fun val V => k _ _ _ _ _ _ hq (.refl r) V) (sub_plain hn)
        | _ => exact h.elim
      | kl j =>
        obtain ⟨v, e2, hq⟩ := h
        cases Va
        obtain ⟨_, rfl⟩ := Vb
        obtain ⟨vs, IL, X⟩ := r.H.kl j
        exact tail_any IL.typeIs slot_list_getitem.lookup (get_rule IL (X.mono fun a b V => V.mono (Nat.zero_le _) (fun _ _ => rfl) fun _ _ e _ => e) e2 fun val V => k _ _ _ _ _ _ hq (.refl r) V) (sub_plain hn)
      | tup l =>
        obtain ⟨a, i0, i1, e2, hq⟩ := h
        obtain ⟨ta, vs, rfl, e1, X⟩ := Va
        obtain ⟨_, rfl⟩ := Vb
        obtain ⟨val, e3, V⟩ := X.get e2
        exact tail_any (tup_isTuple e1).typeIs slot_tuple_getitem.lookup (PyProof.Rows.getItem_tuple (j := i.toNat) (tup_isTuple e1) (by lia) i1 (seqIdx i0 (by rw [List.size_toArray]; exact (List.getElem?_eq_some_iff.mp e3).1)) (by simpa using e3) (k _ _ _ _ _ _ hq (.refl r) V)) (sub_plain hn)
      | _ => exact h.elim
    | _ => cases va with
      | «at» a => cases a <;> exact h.elim
      | _ => exact h.elim
  | _ => cases va with
    | «at» a => cases a <;> exact h.elim
    | _ => exact h.elim
theorem ok_idx {e₁ e₂ : PySem.Expr} {a b : Tm} {p : Pos} (hn : noSlice e₂ = true) (h₁ : OkT C F A e₁ (wpT C S a)) (h₂ : OkT C F A e₂ (wpT C S b)) : OkT C F A (.Subscript e₁ e₂ p) (wpT C S (.idx a b)) := fun ρ σ Q h s θ δ r Qc k => by
  refine Subscript_ (h₁ ρ σ _ h s θ δ r _ fun va σ₁ θ₁ δ₁ s₁ x hb b₁ V₁ => h₂ ρ σ₁ _ hb s₁ θ₁ δ₁ b₁.r _ fun vb σ₂ θ₂ δ₂ s₂ y hw b₂ V₂ => ?_)
  have V₁' := b₂.val b₁.r V₁
  exact idx_rule hn b₂.r V₁' V₂ hw fun v σ₃ θ₃ δ₃ s₃ z hq b₃ V₃ => k _ _ _ _ _ _ hq ((b₁.trans b₂).trans b₃) V₃
theorem keeps_fn {f : Nat} {h : Heap} (hk : keepIn C.K (.ref (C.fa f)) = true) (X : C.K.In h) : ∃ k, (k = Keeper.frame ∨ k = Keeper.machine ∨ k = Keeper.boundFrame) ∧ Looks (model C.P C.w) h (keeperOf (.ref (C.fa f))) k := keeps_K hk h X
theorem mcall_ {x name : Str} {xp apos pos : Pos} {es : List PySem.Expr} {Q : Value → Shared → Prop} {s : Shared} {env : Env} (hs : es.all noStar = true) (hl : (apos.endLine == pos.line) = true) (hn : es.length < 30)
    (h : wpAny (model C.P C.w) A (eval (.Name x xp) env) (fun ov s₁ => wpAny (model C.P C.w) A (getMethod ov name (do return (← importBound (.Name x xp) env).getD true)) (fun fx s₂ => wpAny (model C.P C.w) A (callWith pos fx.1 fx.2 (backTo pos (starEach es env)) []) Q E0 s₂) E0 s₁) E0 s) :
    wpAny (model C.P C.w) A (eval (.Call (.Attribute (.Name x xp) name apos) es [] pos) env) Q E0 s := by
  have pl := starEach_plain (env := env) (pos := pos) hs
  have mf : methodCallForm (es.length + 0) (backTo pos (starEach es env)) [] = true := by
    unfold methodCallForm
    rw [pl.2.1]
    simp [hn]
  show wpAny (model C.P C.w) A (eval (.Name x xp) env >>= fun ov => standAt apos.atName >>= fun _ => methodCall (.Name x xp) name apos pos env ov (es.length + 0) (backTo pos (starEach es env)) (backToKw pos (keywordEach [] env))) Q E0 s
  refine wpAny_bind (wpAny_mono h (fun ov s₁ h₁ => wpAny_bind (wpAny_standAt ?_)) fun _ _ z => z)
  show wpAny (model C.P C.w) A (methodCall (.Name x xp) name apos pos env ov (es.length + 0) (backTo pos (starEach es env)) []) Q E0 s₁
  unfold methodCall methodCallPos calleeOf
  rw [mf]
  simp only [if_true]
  refine wpAny_bind (wpAny_holding (wpAny_mono h₁ (fun fx s₂ h₂ => ?_) fun _ _ z => z))
  obtain ⟨f, first⟩ := fx
  simp only [Bool.not_true, Bool.false_or, hl, if_true]
  exact wpAny_bind (wpAny_pure h₂)
theorem ok_mc (fo : FmOk F) (co : CfgOk C T) (so : SpecsOk C n S) (hA : Room A n) {i f : Nat} (hf : f < 300) {x a : Str} {xp apos pos : Pos} {es : List PySem.Expr} {ts : Ts} (hx : F.ns[i]? = some x) (ha : (a, f) ∈ T.mt) (hs : es.all noStar = true) (hl : (apos.endLine == pos.line) = true) (hn : es.length < 30) (ho : OkTs C F A es (wpTs C S ts)) :
    OkT C F A (.Call (.Attribute (.Name x xp) a apos) es [] pos) (wpT C S (.mc i a f ts)) := fun ρ σ Q h s θ δ r Qc k => by
  obtain ⟨ki, fs, h1, h2, hq⟩ := h
  refine mcall_ hs hl hn (ld_loc fo r hx h1 fun val V => ?_)
  obtain ⟨hki, rfl⟩ := V
  obtain ⟨es', m, I, Fd, _⟩ := instAt r.H h2
  obtain ⟨n1, b1, b2, b3, b4, b5⟩ := co.mt a f ha
  refine method_fn r.H.kin I co.getat co.getnone b1 (beq_iff_eq.mp b2) (by show (lookIn a (dictOf es' m)).map _ = _; rw [lookIn_dict, Fd.none n1]; rfl) ?_
  refine args_call hs ho r hq (fun vs σ' θ' δ' s' hq b => keeps_fn (so.fn _ _ _ _ hf hq).1 b.r.H.kin) fun vs σ' θ' δ' s' vals hq b V => ?_
  exact call_spec (so.ok f hf) hA b.r hq (.cons (b.val r ⟨hki, rfl⟩) V) fun v σ'' θ'' δ'' s'' val hq' b' V' => k _ _ _ _ _ _ hq' (b.trans b') V'
theorem callee_rule (so : SpecsOk C n S) (hA : Room A n) {v : AV} {x : Value} {vs : List AV} {vals : List Value} {ρ : Loc} {σ : St} {θ δ : Nat → Nat} {s : Shared} {Q : AV → St → Prop} (r : R C F ρ σ θ δ s) (V : Val C s.heap σ.length θ v x) (Vs : All2 (Val C s.heap σ.length θ) vs vals) (h : callW S v vs σ Q)
    {Qc : Value → Shared → Prop} (k : ∀ v σ' θ' δ' s' val, Q v σ' → Back C F ρ σ θ δ s σ' θ' δ' s' → Val C s'.heap σ'.length θ' v val → Qc val s') : wpAny (model C.P C.w) A (call x ([] ++ vals) []) Qc E0 s := by
  cases v with
  | meth f kk =>
    obtain ⟨hki, q, rfl, e⟩ := V
    refine wpAny_call (method_call e ?_)
    exact (so.ok _ h.1) _ σ Q h.2 A hA s θ δ r.H r.gens r.os _ (.cons ⟨hki, rfl⟩ Vs) _ fun v σ' θ' δ' s' val hq d V' => k _ _ _ _ _ _ hq (r.done d) V'
  | fn f =>
    cases V
    exact call_spec (so.ok _ h.1) hA r h.2 Vs k
  | clo kk =>
    have V' := V
    obtain ⟨hki, q, cell, c', ctv, rfl, _⟩ := V'
    exact wpAny_call (so.lm kk vs σ Q h A hA s θ δ r.H r.gens r.os q V vals Vs _ fun v σ' θ' δ' s' val hq d V' => k _ _ _ _ _ _ hq (r.done d) V')
  | _ => exact h.elim
theorem callee_keeps (so : SpecsOk C n S) {v : AV} {x : Value} {vs : List AV} {ρ : Loc} {σ : St} {θ δ : Nat → Nat} {s : Shared} {Q : AV → St → Prop} (r : R C F ρ σ θ δ s) (V : Val C s.heap σ.length θ v x) (h : callW S v vs σ Q) :
    ∃ k, (k = Keeper.frame ∨ k = Keeper.machine ∨ k = Keeper.boundFrame) ∧ Looks (model C.P C.w) s.heap (keeperOf x) k := by
  cases v with
  | meth f kk =>
    obtain ⟨hki, q, rfl, e⟩ := V
    exact keeps_M (so.fn _ _ _ _ h.1 h.2).2 _ ⟨e, r.H.kin⟩
  | fn f =>
    cases V
    exact keeps_fn (so.fn _ _ _ _ h.1 h.2).1 r.H.kin
  | clo kk =>
    obtain ⟨hki, q, cell, c', ctv, rfl, e, _⟩ := V
    obtain ⟨fd, d⟩ := C.lamF cell c' ctv
    refine ⟨.frame, .inl rfl, (Looks.ld (part := none) e).andThen ?_⟩
    rw [d]; exact .now
  | _ => exact h.elim
theorem ok_vc (fo : FmOk F) (so : SpecsOk C n S) (hA : Room A n) {i : Nat} {x : Str} {xp pos : Pos} {es : List PySem.Expr} {ts : Ts} (hx : F.ns[i]? = some x) (hs : es.all noStar = true) (ho : OkTs C F A es (wpTs C S ts)) :
    OkT C F A (.Call (.Name x xp) es [] pos) (wpT C S (.vc i ts)) := fun ρ σ Q h s θ δ r Qc k => by
  obtain ⟨v, h1, hq⟩ := h
  refine Call_ (ld_loc fo r hx h1 fun val V => ?_) rfl
  refine args_call hs ho r hq (fun vs σ' θ' δ' s' hq b => callee_keeps so b.r (b.val r V) hq) fun vs σ' θ' δ' s' vals hq b Vs => ?_
  exact callee_rule so hA b.r (b.val r V) Vs hq fun v σ'' θ'' δ'' s'' val hq' b' V' => k _ _ _ _ _ _ hq' (b.trans b') V'
noncomputable def subCallee : PySem.Expr → Bool
  | .Subscript .. => true
  | _ => false
theorem ok_tc (so : SpecsOk C n S) (hA : Room A n) {e : PySem.Expr} {t : Tm} {pos : Pos} {es : List PySem.Expr} {ts : Ts} (he : subCallee e = true) (hs : es.all noStar = true) (h₁ : OkT C F A e (wpT C S t)) (ho : OkTs C F A es (wpTs C S ts)) :
    OkT C F A (.Call e es [] pos) (wpT C S (.tc t ts)) := fun ρ σ Q h s θ δ r Qc k => by
  refine Call_ (h₁ ρ σ _ h s θ δ r _ fun va σ₁ θ₁ δ₁ s₁ x hb b₁ V => ?_) (by cases e <;> first | rfl | cases he)
  refine args_call hs ho b₁.r hb (fun vs σ' θ' δ' s' hq b => callee_keeps so b.r (b.val b₁.r V) hq) fun vs σ' θ' δ' s' vals hq b Vs => ?_
  exact callee_rule so hA b.r (b.val b₁.r V) Vs hq fun v σ'' θ'' δ'' s'' val hq' b' V' => k _ _ _ _ _ _ hq' ((b₁.trans b).trans b') V'
noncomputable def glob (F : Fm) (x : Str) : Bool := F.env.scope.names.lookup x == some .globalImplicit && !(x == ("__debug__" : Str))
theorem ld_glob (fo : FmOk F) (co : CfgOk C T) {ρ : Loc} {σ : St} {θ δ : Nat → Nat} {s : Shared} (r : R C F ρ σ θ δ s) {x : Str} {f : Nat} {p : Pos} (hx : glob F x = true) (hg : (x, f) ∈ T.gt) {Qc : Value → Shared → Prop} (k : Qc (.ref (C.fa f)) s) :
    wpAny (model C.P C.w) A (eval (.Name x p) F.env) Qc E0 s := by
  obtain ⟨mg, mb, N, e, _⟩ := co.main
  simp only [glob, Bool.and_eq_true, Bool.not_eq_true', beq_iff_eq] at hx
  exact Name_function_global fo.kind hx.1 (loadGlobal_global (env := F.env) (by rw [fo.glob]; exact (N _ r.H.kin).1) (e x f hg) k) (by simpa using hx.2)
theorem ld_blt (fo : FmOk F) (co : CfgOk C T) {ρ : Loc} {σ : St} {θ δ : Nat → Nat} {s : Shared} (r : R C F ρ σ θ δ s) {x : Str} {f : Bool × String} {p : Pos} (hx : glob F x = true) (hg : (x, f) ∈ T.bt) {Qc : Value → Shared → Prop} (k : Qc (btV f) s) :
    wpAny (model C.P C.w) A (eval (.Name x p) F.env) Qc E0 s := by
  obtain ⟨mg, mb, N, _, e⟩ := co.main
  simp only [glob, Bool.and_eq_true, Bool.not_eq_true', beq_iff_eq] at hx
  obtain ⟨e1, e2⟩ := e x f hg
  exact Name_function_global fo.kind hx.1 (loadGlobal_builtin (env := F.env) (by rw [fo.glob]; exact (N _ r.H.kin).1) e1 (by rw [fo.blt]; exact (N _ r.H.kin).2) e2 k) (by simpa using hx.2)
theorem ok_new (fo : FmOk F) (co : CfgOk C T) (so : SpecsOk C n S) (hA : Room A n) {x : Str} {xp pos p₁ p₂ : Pos} {e₁ e₂ : PySem.Expr} {a b : Tm} (hx : glob F x = true) (hg : (x, 300) ∈ T.gt) (h₁ : OkT C F A e₁ (wpT C S a)) (h₂ : OkT C F A e₂ (wpT C S b)) :
    OkT C F A (.Call (.Name x xp) [] [⟨some "memory", e₁, p₁⟩, ⟨some "pc", e₂, p₂⟩] pos) (wpT C S (.new a b)) := fun ρ σ Q h s θ δ r Qc k => by
  show wpAny (model C.P C.w) A (eval (.Name x xp) F.env >>= fun f => callWith pos f [] (backTo pos (starEach [] F.env)) (backToKw pos (keywordEach [⟨some "memory", e₁, p₁⟩, ⟨some "pc", e₂, p₂⟩] F.env))) Qc E0 s
  refine wpAny_bind (ld_glob fo co r hx hg ?_)
  rw [co.cls.1]
  refine callWith_KW0 r.H.kin co.cls.2 rfl (kwAll_cons (h₁ ρ σ _ h s θ δ r _ fun va σ₁ θ₁ δ₁ s₁ x hb b₁ V₁ => kwAll_cons (h₂ ρ σ₁ _ hb s₁ θ₁ δ₁ b₁.r _ fun vb σ₂ θ₂ δ₂ s₂ y hq b₂ V₂ => kwAll_nil ⟨b₂.r.H.kin, ?_⟩))) rfl
  exact wpAny_call (so.nw _ _ σ₂ Q hq A hA s₂ θ₂ δ₂ b₂.r.H b₂.r.gens b₂.r.os _ _ (b₂.val b₁.r V₁) V₂ _ fun v σ' θ' δ' s' val hq d V' => k _ _ _ _ _ _ hq ((b₁.trans b₂).trans (b₂.r.done d)) V')
theorem ok_gc (fo : FmOk F) (co : CfgOk C T) (so : SpecsOk C n S) (hA : Room A n) {f : Nat} (hf : f < 300) {x : Str} {xp pos : Pos} {es : List PySem.Expr} {ts : Ts} (hx : glob F x = true) (hg : (x, f) ∈ T.gt) (hs : es.all noStar = true) (ho : OkTs C F A es (wpTs C S ts)) :
    OkT C F A (.Call (.Name x xp) es [] pos) (wpT C S (.gc x f ts)) := fun ρ σ Q h s θ δ r Qc k => by
  refine Call_ (ld_glob fo co r hx hg ?_) rfl
  refine args_call hs ho r h (fun vs σ' θ' δ' s' hq b => keeps_fn (so.fn _ _ _ _ hf hq).1 b.r.H.kin) fun vs σ' θ' δ' s' vals hq b Vs => ?_
  exact call_spec (so.ok f hf) hA b.r hq Vs fun v σ'' θ'' δ'' s'' val hq' b' V' => k _ _ _ _ _ _ hq' (b.trans b') V'
theorem truthL_eq {o : Option AO} {b : Bool} (h : truthL o = some b) : ∃ xs, o = some (.list xs) ∧ xs.length ≤ 2 ^ 24 ∧ b = !xs.isEmpty := by
  cases o with
  | none => cases h
  | some o => cases o with
    | list ys =>
      have h : (if ys.length ≤ 2 ^ 24 then some (!ys.isEmpty) else none) = some b := h
      by_cases q : ys.length ≤ 2 ^ 24
      · rw [if_pos q] at h; cases h; exact ⟨ys, rfl, q, rfl⟩
      · rw [if_neg q] at h; cases h
    | inst fs => cases h
theorem truthy_rule {v : AV} {x : Value} {b : Bool} {ρ : Loc} {σ : St} {θ δ : Nat → Nat} {s : Shared} (r : R C F ρ σ θ δ s) (V : Val C s.heap σ.length θ v x) (h : truth σ v = some b) {Q : Bool → Shared → Prop} (k : ∀ s', Back C F ρ σ θ δ s σ θ δ s' → Q b s') : wpAny (model C.P C.w) A (truthy x) Q E0 s := by
  cases v with
  | «at» a =>
    cases a with
    | none => cases h; cases V; exact truthy_none (k _ (.refl r))
    | bool b => cases h; cases V; exact wpAny_pure (k _ (.refl r))
    | int i => cases h; obtain ⟨_, rfl⟩ := V; exact P.truthy_int (k _ (.refl r))
    | lst kk =>
      obtain ⟨xs, e, hl, rfl⟩ := truthL_eq h
      obtain ⟨_, rfl⟩ := V
      obtain ⟨e0, vs, P, X⟩ := r.H.obj _ _ e
      refine wpAny_truthy_list P.isList (by rw [List.size_toArray, ← X.length]; lia) ?_
      have : (!vs.toArray.isEmpty) = !xs.isEmpty := by
        cases X with
        | nil => rfl
        | cons _ _ => rfl
      rw [this]
      exact k _ (r.tok _)
  | _ => cases h
theorem all2_at {l : List At} : ∀ {vals : List Value} {h : Heap} {m : Nat} {θ : Nat → Nat}, All2 (Val C h m θ) (l.map AV.at) vals → All2 (AtV m θ) l vals := by
  induction l with
  | nil => intro vals h m θ V; cases V; exact .nil
  | cons a l ih => intro vals h m θ V; cases V with | cons x y => exact .cons x (ih y)
theorem ok_tup {es : List PySem.Expr} {ts : Ts} {kk : Nat} {pos : Pos} (ho : OkTs C F A es (wpTs C S ts)) : OkT C F A (.Tuple es kk pos) (wpT C S (.tup ts)) := fun ρ σ Q h s θ δ r Qc k => by
  refine Tuple_ (ho pos ρ σ _ h s θ δ r _ fun vs σ' θ' δ' s' vals hq b V => ?_)
  obtain ⟨l, rfl, hl, hq⟩ := hq
  have len : vals.length ≤ sizeLine := by rw [← V.length, List.length_map]; exact Nat.le_trans hl (by decide)
  exact wpAny_newObj_type (k _ _ _ _ _ _ hq (b.trans (b.r.push _ _)) ⟨_, vals, rfl, Heap.get?_push_size _ rfl, all2_at V⟩) (by show vals.toArray.size ≤ sizeLine; rw [List.size_toArray]; exact len)
theorem ok_lst {es : List PySem.Expr} {ts : Ts} {pos : Pos} (ho : OkTs C F A es (wpTs C S ts)) : OkT C F A (.List es pos) (wpT C S (.lst ts)) := fun ρ σ Q h s θ δ r Qc k => by
  refine List_ (ho pos ρ σ _ h s θ δ r _ fun vs σ' θ' δ' s' vals hq b V => ?_)
  obtain ⟨hl, hq⟩ := hq
  have len : vals.length ≤ sizeLine := by rw [← V.length]; exact Nat.le_trans hl (by decide)
  exact wpAny_newObj_type (k _ _ _ _ _ _ hq (b.trans (b.r.newList (n := 0) (t := s'.toks) V)) ⟨by simp, by rw [ext1_new]⟩) (by show vals.toArray.size ≤ sizeLine; rw [List.size_toArray]; exact len)
noncomputable def OkB (C : Cfg) (F : Fm) (A : Around) (e : PySem.Expr) (W : Loc → St → (Bool → St → Prop) → Prop) : Prop :=
  ∀ ρ σ Q, W ρ σ Q → ∀ s θ δ, R C F ρ σ θ δ s → ∀ Qc : Bool → Shared → Prop, (∀ b σ' θ' δ' s', Q b σ' → Back C F ρ σ θ δ s σ' θ' δ' s' → Qc b s') → wpAny (model C.P C.w) A (isTrue e F.env (eval e F.env)) Qc E0 s
theorem okb_of {e : PySem.Expr} {W : Loc → St → (AV → St → Prop) → Prop} (h₁ : OkT C F A e W) (he : isTrue e F.env (eval e F.env) = (do let v ← eval e F.env; standAt e.pos; holding [v] (truthy v))) :
    OkB C F A e (fun ρ σ Q => W ρ σ fun v σ' => ∃ r, truth σ' v = some r ∧ Q r σ') := fun ρ σ Q h s θ δ r Qc k =>
  isTrue_plain (h₁ ρ σ _ h s θ δ r _ fun v σ' θ' δ' s' val hq b V => let ⟨_, ht, hq⟩ := hq; truthy_rule b.r V ht fun s' b' => k _ _ _ _ _ hq (b.trans b')) he
theorem okb_cmp {op : CmpOp} {e₁ e₂ : PySem.Expr} {a b : Tm} {p : Pos} (hu : A.units < cLine) (hm : behindInMarks op e₂ = false) (h₁ : OkT C F A e₁ (wpT C S a)) (h₂ : OkT C F A e₂ (wpT C S b)) : OkB C F A (.Compare e₁ [op] [e₂] p) (wpB C S (.cmp op a b)) := fun ρ σ Q h s θ δ r Qc k => by
  refine wpAny_isTrue_Compare1 (h₁ ρ σ _ h s θ δ r _ fun va σ₁ θ₁ δ₁ s₁ x hb b₁ V₁ => h₂ ρ σ₁ _ hb s₁ θ₁ δ₁ b₁.r _ fun vb σ₂ θ₂ δ₂ s₂ y hw b₂ V₂ => ?_) hm
  obtain ⟨b, hc, hq⟩ := hw
  exact cmp_rule hu b₂.r (b₂.val b₁.r V₁) V₂ hc (wpAny_pure (k _ _ _ _ _ hq (b₁.trans b₂)))
theorem ok_ite {t₁ e₁ e₂ : PySem.Expr} {t a b : Tm} {p : Pos} (h₀ : OkB C F A t₁ (wpB C S t)) (h₁ : OkT C F A e₁ (wpT C S a)) (h₂ : OkT C F A e₂ (wpT C S b)) : OkT C F A (.IfExp t₁ e₁ e₂ p) (wpT C S (.ite t a b)) := fun ρ σ Q h s θ δ r Qc k => by
  refine wpAny_IfExp (h₀ ρ σ _ h s θ δ r _ fun c σ₁ θ₁ δ₁ s₁ hq b₁ => ?_)
  cases c with
  | true => exact h₁ ρ σ₁ _ (hq.1 rfl) s₁ θ₁ δ₁ b₁.r _ fun v σ' θ' δ' s' val hq b V => k _ _ _ _ _ _ hq (b₁.trans b) V
  | false => exact h₂ ρ σ₁ _ (hq.2 rfl) s₁ θ₁ δ₁ b₁.r _ fun v σ' θ' δ' s' val hq b V => k _ _ _ _ _ _ hq (b₁.trans b) V
theorem ok_and3 {e₁ e₂ e₃ : PySem.Expr} {a b c : Tm} {p : Pos} (h₁ : OkT C F A e₁ (wpT C S a)) (h₂ : OkT C F A e₂ (wpT C S b)) (h₃ : OkT C F A e₃ (wpT C S c)) : OkT C F A (.BoolOp .And [e₁, e₂, e₃] p) (wpT C S (.and3 a b c)) := fun ρ σ Q h s θ δ r Qc k => by
  refine BoolOp_and (h₁ ρ σ _ h s θ δ r _ fun va σ₁ θ₁ δ₁ s₁ x hq b₁ V₁ => ?_)
  obtain ⟨c, ht, q1, q2⟩ := hq
  refine truthy_rule b₁.r V₁ ht fun s₂ b₂ => ?_
  cases c with
  | false => exact k _ _ _ _ _ _ (q1 rfl) (b₁.trans b₂) (b₂.val b₁.r V₁)
  | true =>
    refine BoolOp_and (h₂ ρ σ₁ _ (q2 rfl) s₂ θ₁ δ₁ b₂.r _ fun vb σ₃ θ₃ δ₃ s₃ y hq b₃ V₃ => ?_)
    obtain ⟨c, ht, q1, q2⟩ := hq
    refine truthy_rule b₃.r V₃ ht fun s₄ b₄ => ?_
    have bb := ((b₁.trans b₂).trans b₃).trans b₄
    cases c with
    | false => exact k _ _ _ _ _ _ (q1 rfl) bb (b₄.val b₃.r V₃)
    | true => exact BoolOp_one (h₃ ρ σ₃ _ (q2 rfl) s₄ θ₃ δ₃ b₄.r _ fun v σ' θ' δ' s' val hq b V => k _ _ _ _ _ _ hq (bb.trans b) V)
theorem ok_or {e₁ e₂ : PySem.Expr} {a b : Tm} {p : Pos} (h₁ : OkT C F A e₁ (wpT C S a)) (h₂ : OkT C F A e₂ (wpT C S b)) : OkT C F A (.BoolOp .Or [e₁, e₂] p) (wpT C S (.or a b)) := fun ρ σ Q h s θ δ r Qc k => by
  refine BoolOp_or (h₁ ρ σ _ h s θ δ r _ fun va σ₁ θ₁ δ₁ s₁ x hq b₁ V₁ => ?_)
  obtain ⟨c, ht, q1, q2⟩ := hq
  refine truthy_rule b₁.r V₁ ht fun s₂ b₂ => ?_
  cases c with
  | true => exact k _ _ _ _ _ _ (q1 rfl) (b₁.trans b₂) (b₂.val b₁.r V₁)
  | false => exact BoolOp_one (h₂ ρ σ₁ _ (q2 rfl) s₂ θ₁ δ₁ b₂.r _ fun v σ' θ' δ' s' val hq b V => k _ _ _ _ _ _ hq ((b₁.trans b₂).trans b) V)
end
end Mine.Py
end
section
open PySem PySem.W PyProof.Rows PySem.Calls
namespace Mine.Py
noncomputable def putF (fs : List AV) (f : Nat) (v : AV) : List AV := if f < fs.length then fs.set f v else fs ++ [v]
section
variable {C : Cfg} {F : Fm} {A : Around} {T : Tabs} {S : Nat → Spec} {n : Nat}
theorem osa_exact {K : Frag} {prog : Program} {w : World} {x c dx : Addr} {es : List DictEntry} {m : Nat} {s : Shared} {name : Str} {tk : Tok} {v : Value} {R' : Result → Shared → Prop} (X : K.In s.heap) (hx : s.heap.get? x = some (instObj c dx)) (hdx : s.heap.get? dx = some (dictOf es m))
    (hp : plainOver K c = true) (ht : takerIn K c name = some none) (hh : hasDictIn K c = true) (hl : es.any (·.refKey) = false) (hz : (putL name (PyData.keyHash w.params name) (.str name s.toks) v es).length ≤ 1001)
    (h : R' (.ok (.ret .none)) { s with heap := s.heap.update dx (Obj.putName name (PyData.keyHash w.params name) (.str name s.toks) v), toks := s.toks + 1 }) :
    codeAny (model prog w) A (.call (.builtin "object.__setattr__") ⟨[.ref x, .str name tk, v], []⟩) R' s := by
  have I : InstAt s.heap x (instObj c dx) c (some (dictOf es m)) := ⟨hx, rfl, rfl, hdx⟩
  refine osa_open X I hp ht fun b => ?_
  obtain ⟨cd, hc, hd'⟩ := any_some hh
  refine wpAny_bind (wpAny_pure (wpAny_bind (wpAny_bind (wpAny_loadPart hx (wpAny_bind ((looks_clsIn X hc).here ?_))))))
  rw [hd']
  refine wpAny_pure (a := some dx) (wpAny_bind (wpAny_pure (wpAny_bind ?_)))
  unfold nsSet
  refine wpAny_bind (wpAny_bind (wpAny_askSetting (wpAny_pure (wpAny_bind (wpAny_mkText (wpAny_bind (wpAny_loadPart hdx ?_)))))))
  dsimp only
  rw [aRefKeyMayBeTheName_at]
  have e : (List.toArray es).any (·.refKey) = false := by rw [← Array.any_toList]; exact hl
  rw [e, Bool.and_false]
  refine wpAny_updatePart hdx ?_
  have D' : (s.heap.update dx (Obj.putName name (PyData.keyHash w.params name) (.str name s.toks) v)).get? dx = some (dictOf (putL name (PyData.keyHash w.params name) (.str name s.toks) v es) (putN name es m)) := by
    rw [Heap.get?_update_self _ hdx (by rw [putName_dict]; rfl), putName_dict]
  refine wpAny_bind (wpAny_lookBehind D' (pastItsLine_dict (by rw [List.size_toArray, sizeLine_eq]; lia)) ?_)
  exact wpAny_pure h
theorem Fields.noRef {h : Heap} {m : Nat} {θ : Nat → Nat} : ∀ {xs : List Str} {vs : List AV} {es : List DictEntry}, Fields C h m θ xs vs es → es.any (·.refKey) = false
  | _, [], [], F => rfl
  | x :: xs, v :: vs, e :: es, ⟨⟨⟨t, hk⟩, V⟩, F⟩ => by
    rw [List.any_cons, Fields.noRef F]
    unfold DictEntry.refKey
    rw [hk]; rfl
  | [], _ :: _, _, F => by cases ‹List DictEntry› <;> exact F.elim
  | _ :: _, _ :: _, [], F => F.elim
  | [], [], _ :: _, F => F.elim
  | _ :: _, [], _ :: _, F => F.elim
theorem putL_len {x : Str} {h : Int} {key v : Value} : ∀ {es : List DictEntry}, (putL x h key v es).length ≤ es.length + 1
  | [] => by simp [putL]
  | e :: r => by
    unfold putL
    split
    · simp
    · have := putL_len (x := x) (h := h) (key := key) (v := v) (es := r); simp only [List.length_cons]; lia
theorem setAttr_rule (co : CfgOk C T) {ρ : Loc} {σ : St} {θ δ : Nat → Nat} {s : Shared} (r : R C F ρ σ θ δ s) {k f : Nat} {a : Str} {fs : List AV} {v : AV} {val : Value} (hk : σ[k]? = some (.inst fs)) (ha : C.attrs[f]? = some a) (hf : f ≤ fs.length) (V : Val C s.heap σ.length θ v val)
    {Q : Unit → Shared → Prop} (q : ∀ s', Back C F ρ σ θ δ s (σ.set k (.inst (putF fs f v))) θ δ s' → Q () s') : wpAny (model C.P C.w) A (setAttr (.ref (θ k)) a val) Q E0 s := by
  obtain ⟨es, m, I, Fd, hdx⟩ := instAt r.H hk
  have lenE := Fd.length
  have al := co.alen
  refine set_plain r.H.kin I co.setat (osa_exact (s := { s with toks := s.toks + 1 }) (m := m) r.H.kin I.at_ hdx co.over (co.attr a (List.mem_of_getElem? ha)).2 co.hasd Fd.noRef (by have := putL_len (x := a) (h := PyData.keyHash C.w.params a) (key := .str a (s.toks + 1)) (v := val) (es := es); dsimp only; lia) ?_)
  refine q _ (r.setInst (h' := s.heap.update (δ k) (Obj.putName a (PyData.keyHash C.w.params a) (.str a (s.toks + 1)) val)) (es' := putL a (PyData.keyHash C.w.params a) (.str a (s.toks + 1)) val es) (m' := putN a es m) hk (Heap.SameBut.update ..) ?_ (Fd.put co.anod ha V hf))
  rw [Heap.get?_update_self _ hdx (by rw [putName_dict]; rfl), putName_dict]
end
end Mine.Py
end
section
open PySem PySem.W PyProof.Rows PySem.Calls
namespace Mine.Py
inductive Fl where
  | next | brk | cont | ret (v : AV)
inductive Tgt where
  | one (i : Nat) | enum (i j : Nat)
mutual
inductive Cmd where
  | asg (i : Nat) (t : Tm) | aug (i : Nat) (op : Operator) (t : Tm) | sat (i f : Nat) (t : Tm) | aat (i f : Nat) (op : Operator) (t : Tm)
  | six (a b t : Tm) | ifc (t : Tm) (a b : Cs) | ret (t : Tm) | retn | ex (t : Tm) | pass | brk | tas (is : List Nat) (t : Tm) | tar (is : List Nat) (t : Tm)
  | app (i : Nat) (t : Tm) | forc (g : Tgt) (t : Tm) (b : Cs)
  | casg (i : Nat) (t : Tm) | sls (i : Nat) (lo hi t : Tm) | ladd (i : Nat) (t : Tm) | tsx (i a b : Nat) (t : Tm) | tal (is : List Nat) (t : Tm) | whl (t : Tm) (b : Cs) | forr (i n : Nat) (b : Cs) | lam (i j : Nat)
inductive Cs where
  | nil | cons (c : Cmd) (r : Cs)
end
noncomputable def setAll : Loc → List Nat → List At → Loc
  | ρ, i :: is, a :: as => setAll (ρ.set i (some (.at a))) is as
  | ρ, _, _ => ρ
noncomputable def bindW : Tgt → Nat → AV → Loc → (Loc → Prop) → Prop
  | .one i, _, a, ρ, X => X (ρ.set i (some a))
  | .enum i j, n, a, ρ, X => X ((ρ.set i (some (.at (.int n)))).set j (some a))
noncomputable def intW (op : Operator) : AV → AV → (AV → Prop) → Prop
  | .at (.int i), .at (.int j), Q => BinOk op i j ∧ Q (.at (.int (binV op i j)))
  | _, _, _ => False
section
variable (C : Cfg) (S : Nat → Spec)
mutual
noncomputable def wpC : Cmd → Loc → St → (Fl → Loc → St → Prop) → Prop
  | .asg i t, ρ, σ, Q => wpT C S t ρ σ fun v σ₁ => Q .next (ρ.set i (some v)) σ₁
  | .aug i op t, ρ, σ, Q => ∃ v, ρ[i]? = some (some v) ∧ wpT C S t ρ σ fun u σ₁ => intW op v u fun w => Q .next (ρ.set i (some w)) σ₁
  | .sat i f t, ρ, σ, Q => wpT C S t ρ σ fun v σ₁ => ∃ k fs, ρ[i]? = some (some (.ins k)) ∧ σ₁[k]? = some (.inst fs) ∧ f ≤ fs.length ∧ Q .next ρ (σ₁.set k (.inst (putF fs f v)))
  | .aat i f op t, ρ, σ, Q => ∃ k fs v, ρ[i]? = some (some (.ins k)) ∧ σ[k]? = some (.inst fs) ∧ fs[f]? = some v ∧ wpT C S t ρ σ fun u σ₁ => intW op v u fun w => ∃ fs', σ₁[k]? = some (.inst fs') ∧ f ≤ fs'.length ∧ Q .next ρ (σ₁.set k (.inst (putF fs' f w)))
  | .six a b t, ρ, σ, Q => wpT C S t ρ σ fun v σ₁ => wpT C S a ρ σ₁ fun va σ₂ => wpT C S b ρ σ₂ fun vb σ₃ => ∃ k xs i, va = .lst k ∧ vb = .at (.int i) ∧ σ₃[k]? = some (.list xs) ∧ 0 ≤ i ∧ i < xs.length ∧ i < 2 ^ 63 ∧ Q .next ρ (σ₃.set k (.list (xs.set i.toNat v)))
  | .ifc t a b, ρ, σ, Q => wpB C S t ρ σ fun r σ₁ => (r = true → wpCs a ρ σ₁ Q) ∧ (r = false → wpCs b ρ σ₁ Q)
  | .ret t, ρ, σ, Q => wpT C S t ρ σ fun v σ₁ => Q (.ret v) ρ σ₁
  | .retn, ρ, σ, Q => Q (.ret (.at .none)) ρ σ
  | .ex t, ρ, σ, Q => wpT C S t ρ σ fun _ σ₁ => Q .next ρ σ₁
  | .pass, ρ, σ, Q => Q .next ρ σ
  | .brk, ρ, σ, Q => Q .brk ρ σ
  | .tas is t, ρ, σ, Q => wpT C S t ρ σ fun v σ₁ => ∃ l, v = .tup l ∧ l.length = is.length ∧ Q .next (setAll ρ is l) σ₁
  | .tar is t, ρ, σ, Q => wpT C S t ρ σ fun v σ₁ => ∃ l, v = .tup l ∧ l.length = is.length ∧ Q .next (setAll ρ is.reverse l.reverse) σ₁
  | .app i t, ρ, σ, Q => ∃ k xs₀, ρ[i]? = some (some (.lst k)) ∧ σ[k]? = some (.list xs₀) ∧ wpT C S t ρ σ fun v σ₁ => ∃ xs, σ₁[k]? = some (.list xs) ∧ xs.length ≤ 2 ^ 23 ∧ Q .next ρ (σ₁.set k (.list (xs ++ [v])))
  | .forc g t b, ρ, σ, Q => wpT C S t ρ σ fun v σ₁ => ∃ xs, listAt C σ₁ v = some xs ∧ ∃ Inv : Nat → Loc → St → Prop, Inv 0 ρ σ₁ ∧ ∀ n ρ' σ', Inv n ρ' σ' → listAt C σ' v = some xs ∧
      (∀ a, xs[n]? = some a → bindW g n a ρ' fun ρ₂ => wpCs b ρ₂ σ' fun fl ρ₃ σ₃ => match fl with | .next => Inv (n + 1) ρ₃ σ₃ | .cont => Inv (n + 1) ρ₃ σ₃ | .brk => Q .next ρ₃ σ₃ | .ret v => Q (.ret v) ρ₃ σ₃) ∧
      (n = xs.length → Q .next ρ' σ')
  | .casg i t, ρ, σ, Q => wpT C S t ρ σ fun v σ₁ => ∃ y, v = .at (.int y) ∧ Q .next (ρ.set i (some v)) σ₁
  | .sls i lo hi t, ρ, σ, Q => wpT C S t ρ σ fun v σ₁ => ∃ k, ρ[i]? = some (some (.lst k)) ∧ wpT C S lo ρ σ₁ fun va σ₂ => wpT C S hi ρ σ₂ fun vb σ₃ => ∃ (a b : Nat) (j : Nat) (xs ys : List AV), va = .at (.int a) ∧ vb = .at (.int b) ∧ v = .lst j ∧ σ₃[k]? = some (.list xs) ∧ σ₃[j]? = some (.list ys) ∧ a ≤ b ∧ b ≤ xs.length ∧ xs.length ≤ 2 ^ 23 ∧ ys.length ≤ xs.length ∧ Q .next ρ (σ₃.set k (.list (xs.take a ++ ys ++ xs.drop b)))
  | .ladd i t, ρ, σ, Q => ∃ k, ρ[i]? = some (some (.lst k)) ∧ wpT C S t ρ σ fun v σ₁ => ∃ j xs ys, v = .lst j ∧ σ₁[k]? = some (.list xs) ∧ σ₁[j]? = some (.list ys) ∧ xs.length + ys.length ≤ 2 ^ 24 ∧ Q .next (ρ.set i (some (.lst k))) (σ₁.set k (.list (xs ++ ys)))
  | .tsx i a b t, ρ, σ, Q => wpT C S t ρ σ fun v σ₁ => ∃ a1 a2 k xs, v = .tup [a1, a2] ∧ ρ[i]? = some (some (.lst k)) ∧ σ₁[k]? = some (.list xs) ∧ a < xs.length ∧ b < xs.length ∧ xs.length ≤ 2 ^ 24 ∧ Q .next ρ (σ₁.set k (.list ((xs.set a (.at a1)).set b (.at a2))))
  | .tal is t, ρ, σ, Q => wpT C S t ρ σ fun v σ₁ => ∃ k l, v = .lst k ∧ σ₁[k]? = some (.list (l.map AV.at)) ∧ l.length = is.length ∧ Q .next (setAll ρ is l) σ₁
  | .whl t b, ρ, σ, Q => ∃ Inv : Nat → Loc → St → Prop, (∃ n, Inv n ρ σ) ∧ ∀ n ρ' σ', Inv n ρ' σ' → wpB C S t ρ' σ' fun r σ₁ => (r = true → wpCs b ρ' σ₁ fun fl ρ₂ σ₂ => match fl with | .next => ∃ m, m < n ∧ Inv m ρ₂ σ₂ | .cont => ∃ m, m < n ∧ Inv m ρ₂ σ₂ | .brk => Q .next ρ₂ σ₂ | .ret v => Q (.ret v) ρ₂ σ₂) ∧ (r = false → Q .next ρ' σ₁)
  | .forr i n b, ρ, σ, Q => ∃ Inv : Nat → Loc → St → Prop, Inv 0 ρ σ ∧ ∀ m ρ' σ', Inv m ρ' σ' →
      (m < n → wpCs b (ρ'.set i (some (.at (.int m)))) σ' fun fl ρ₃ σ₃ => match fl with | .next => Inv (m + 1) ρ₃ σ₃ | .cont => Inv (m + 1) ρ₃ σ₃ | .brk => Q .next ρ₃ σ₃ | .ret v => Q (.ret v) ρ₃ σ₃) ∧ (m = n → Q .next ρ' σ')
  | .lam i j, ρ, σ, Q => ∃ k, ρ[j]? = some (some (.ins k)) ∧ Q .next (ρ.set i (some (.clo k))) σ
noncomputable def wpCs : Cs → Loc → St → (Fl → Loc → St → Prop) → Prop
  | .nil, ρ, σ, Q => Q .next ρ σ
  | .cons c r, ρ, σ, Q => wpC c ρ σ fun fl ρ₁ σ₁ => match fl with | .next => wpCs r ρ₁ σ₁ Q | fl => Q fl ρ₁ σ₁
end
end
noncomputable def FlV (C : Cfg) (h : Heap) (n : Nat) (θ : Nat → Nat) : Fl → Flow → Prop
  | .next, f => f = .next
  | .brk, f => f = .brk
  | .cont, f => f = .cont
  | .ret v, f => ∃ val, f = .ret val ∧ Val C h n θ v val
noncomputable def OkC (C : Cfg) (F : Fm) (A : Around) (st : Stmt) (W : Loc → St → (Fl → Loc → St → Prop) → Prop) : Prop :=
  ∀ ρ σ Q, W ρ σ Q → ∀ s θ δ, R C F ρ σ θ δ s → ∀ Qc : Flow → Shared → Prop, (∀ fl ρ' σ' θ' δ' s' f, Q fl ρ' σ' → Back C F ρ' σ θ δ s σ' θ' δ' s' → FlV C s'.heap σ'.length θ' fl f → Qc f s') → wpAny (model C.P C.w) A (exec st F.env) Qc E0 s
noncomputable def OkCs (C : Cfg) (F : Fm) (A : Around) (st : List Stmt) (W : Loc → St → (Fl → Loc → St → Prop) → Prop) : Prop :=
  ∀ ρ σ Q, W ρ σ Q → ∀ s θ δ, R C F ρ σ θ δ s → ∀ Qc : Flow → Shared → Prop, (∀ fl ρ' σ' θ' δ' s' f, Q fl ρ' σ' → Back C F ρ' σ θ δ s σ' θ' δ' s' → FlV C s'.heap σ'.length θ' fl f → Qc f s') → wpAny (model C.P C.w) A (execs st F.env) Qc E0 s
noncomputable def noComp : PySem.Expr → Bool
  | .ListComp .. => false
  | .SetComp .. => false
  | .DictComp .. => false
  | _ => true
theorem swaps_plain {value : PySem.Expr} {t : Option PySem.Expr} {line : Nat} {env : Env} (h : noComp value = true) : swapsWith value t line env = pure false := by
  cases value <;> first | rfl | cases h
section
variable {C : Cfg} {F : Fm} {A : Around} {T : Tabs} {S : Nat → Spec} {n : Nat}
theorem ld_at {ρ : Loc} {σ : St} {θ δ : Nat → Nat} {s : Shared} (r : R C F ρ σ θ δ s) {i : Nat} {x : Str} {v : AV} (hx : F.ns[i]? = some x) (hs : F.env.scope.names.lookup x = some .local) (hv : ρ[i]? = some (some v)) : ∃ val m, s.heap.Ns F.L m ∧ m x = some val ∧ Val C s.heap σ.length θ v val := by
  obtain ⟨val, e, V⟩ := r.loc i x v hx hv
  rcases e with ⟨_, m, N, e⟩ | ⟨l, _⟩
  · exact ⟨val, m, N, e, V⟩
  · exact absurd hs l
theorem st_loc (fo : FmOk F) {ρ : Loc} {σ : St} {θ δ : Nat → Nat} {s : Shared} (r : R C F ρ σ θ δ s) {i : Nat} {x : Str} {v : AV} {val : Value} (hx : F.ns[i]? = some x) (hs : F.env.scope.names.lookup x = some .local) (V : Val C s.heap σ.length θ v val) {Q : Unit → Shared → Prop} (q : ∀ s', Back C F (ρ.set i (some v)) σ θ δ s σ θ δ s' → Q () s') :
    wpAny (model C.P C.w) A (storeName F.env x val) Q E0 s := by
  obtain ⟨m, N⟩ := r.ns
  refine wpAny_storeName_local hs (by rw [fo.loc]; exact N) (fun h' hn hs' => ?_) (by rw [fo.kind]; rfl)
  rw [fo.loc] at hn hs'
  refine q _ (r.store fo hx hs V (fun m' N' => ?_) hs')
  have : m' = m := N'.eq_nsMap.trans N.eq_nsMap.symm
  rw [this]; exact hn
theorem st_cell (fo : FmOk F) {ρ : Loc} {σ : St} {θ δ : Nat → Nat} {s : Shared} (r : R C F ρ σ θ δ s) {i c : Nat} {x : Str} {y : Int} {val : Value} (hx : F.ns[i]? = some x) (hl : F.env.scope.names.lookup x = some .cell) (hc : F.env.cells.lookup x = some c) (ho : c ∈ F.oc) (V : Val C s.heap σ.length θ (.at (.int y)) val) {Q : Unit → Shared → Prop} (q : ∀ s', Back C F (ρ.set i (some (.at (.int y)))) σ θ δ s σ θ δ s' → Q () s') :
    wpAny (model C.P C.w) A (storeName F.env x val) Q E0 s := by
  obtain ⟨_, o, v, e, d, _⟩ := r.cel c ho
  obtain ⟨t, rfl⟩ := V
  refine wpAny_storeName_cell fo.kind hl hc ⟨o, e, d⟩ fun h' hn hs' => ?_
  exact q _ (r.storeC (t' := 0) fo hx hl hc ho hn hs')
theorem ok_casg (fo : FmOk F) {i c : Nat} {x : Str} {e : PySem.Expr} {t : Tm} {p p' : Pos} (hx : F.ns[i]? = some x) (hl : F.env.scope.names.lookup x = some .cell) (hcc : F.env.cells.lookup x = some c) (ho : c ∈ F.oc) (hc : noComp e = true) (h₁ : OkT C F A e (wpT C S t)) : OkC C F A (.Assign [.Name x p'] e p) (wpC C S (.casg i t)) := fun ρ σ Q h s θ δ r Qc k =>
  wpAny_Assign_Name (h₁ ρ σ _ h s θ δ r _ fun v σ₁ θ₁ δ₁ s₁ val hq b V => by
    obtain ⟨y, rfl, hq⟩ := hq
    exact st_cell fo b.r hx hl hcc ho V fun s' b' => k _ _ _ _ _ _ _ hq (b.trans b') rfl) (swaps_plain hc)
theorem ok_asg (fo : FmOk F) {i : Nat} {x : Str} {e : PySem.Expr} {t : Tm} {p p' : Pos} (hx : F.ns[i]? = some x) (hs : F.env.scope.names.lookup x = some .local) (hc : noComp e = true) (h₁ : OkT C F A e (wpT C S t)) : OkC C F A (.Assign [.Name x p'] e p) (wpC C S (.asg i t)) := fun ρ σ Q h s θ δ r Qc k =>
  wpAny_Assign_Name (h₁ ρ σ _ h s θ δ r _ fun v σ₁ θ₁ δ₁ s₁ val hq b V => st_loc fo b.r hx hs V fun s' b' => k _ _ _ _ _ _ _ hq (b.trans b') rfl) (swaps_plain hc)
theorem intW_rule {op : Operator} {v u : AV} {x y : Value} {ρ : Loc} {σ : St} {θ δ : Nat → Nat} {s : Shared} {Q : AV → Prop} (r : R C F ρ σ θ δ s) (V : Val C s.heap σ.length θ v x) (U : Val C s.heap σ.length θ u y) (h : intW op v u Q) {Qc : Value → Shared → Prop}
    (k : ∀ w s' val, Q w → Back C F ρ σ θ δ s σ θ δ s' → Val C s'.heap σ.length θ w val → Qc val s') : wpAny (model C.P C.w) A (inplaceOp op x y) Qc E0 s := by
  unfold intW at h
  split at h
  · obtain ⟨_, rfl⟩ := V
    obtain ⟨_, rfl⟩ := U
    exact ibin_rule h.1 (k _ _ _ h.2 (r.tok _) ⟨_, rfl⟩)
  · exact h.elim
theorem ok_aug (fo : FmOk F) {i : Nat} {x : Str} {op : Operator} {e : PySem.Expr} {t : Tm} {p p' : Pos} (hx : F.ns[i]? = some x) (hs : F.env.scope.names.lookup x = some .local) (h₁ : OkT C F A e (wpT C S t)) : OkC C F A (.AugAssign (.Name x p') op e p) (wpC C S (.aug i op t)) := fun ρ σ Q h s θ δ r Qc k => by
  obtain ⟨v, hv, hq⟩ := h
  obtain ⟨val, m, N, e, V⟩ := ld_at r hx hs hv
  refine wpAny_AugAssign_Name (wpAny_loadName_local fo.kind hs (by rw [fo.loc]; exact N) e (h₁ ρ σ _ hq s θ δ r _ fun u σ₁ θ₁ δ₁ s₁ y hq b U => ?_))
  exact intW_rule b.r (b.val r V) U hq fun w s₂ z hq b₂ W => st_loc fo b₂.r hx hs W fun s' b' => k _ _ _ _ _ _ _ hq ((b.trans b₂).trans b') rfl
theorem ok_ladd (fo : FmOk F) {i : Nat} {x : Str} {e : PySem.Expr} {t : Tm} {p p' : Pos} (hx : F.ns[i]? = some x) (hs : F.env.scope.names.lookup x = some .local) (h₁ : OkT C F A e (wpT C S t)) : OkC C F A (.AugAssign (.Name x p') .Add e p) (wpC C S (.ladd i t)) := fun ρ σ Q h s θ δ r Qc k => by
  obtain ⟨kk, hv, hq⟩ := h
  obtain ⟨val, m, N, e, V⟩ := ld_at r hx hs hv
  refine wpAny_AugAssign_Name (wpAny_loadName_local fo.kind hs (by rw [fo.loc]; exact N) e (h₁ ρ σ _ hq s θ δ r _ fun u σ₁ θ₁ δ₁ s₁ y hq b U => ?_))
  obtain ⟨j, xs, ys, rfl, e1, e2, hl, hq⟩ := hq
  have V₁ := b.val r V
  obtain ⟨hk1, rfl⟩ := V₁
  obtain ⟨_, rfl⟩ := U
  obtain ⟨_, vs, P, X⟩ := b.r.H.obj _ _ e1
  obtain ⟨_, ws, P', Y⟩ := b.r.H.obj _ _ e2
  refine iadd_plain P P' (by rw [← X.length, ← Y.length]; exact hl) fun h' hp hs' => ?_
  have b₂ := b.r.setList (vs' := vs ++ ws) (xs' := xs ++ ys) (t := s₁.toks) e1 hs' (by simpa using hp) (X.app Y)
  exact st_loc (v := .lst kk) fo b₂.r hx hs (show _ ∧ _ from ⟨by rw [List.length_set]; exact hk1, rfl⟩) fun s' b' => k _ _ _ _ _ _ _ hq ((b.trans b₂).trans b') rfl
theorem ok_sat (fo : FmOk F) (co : CfgOk C T) {i f : Nat} {x a : Str} {e : PySem.Expr} {t : Tm} {p p' xp : Pos} (hx : F.ns[i]? = some x) (ha : C.attrs[f]? = some a) (hc : noComp e = true) (h₁ : OkT C F A e (wpT C S t)) : OkC C F A (.Assign [.Attribute (.Name x xp) a p'] e p) (wpC C S (.sat i f t)) := fun ρ σ Q h s θ δ r Qc k => by
  refine plainObj_wpAny_Assign_Attribute (h₁ ρ σ _ h s θ δ r _ fun v σ₁ θ₁ δ₁ s₁ val hq b V => ?_) (swaps_plain hc)
  obtain ⟨kk, fs, h1, h2, h3, hq⟩ := hq
  refine ld_loc fo b.r hx h1 fun o O => ?_
  obtain ⟨_, rfl⟩ := O
  exact setAttr_rule co b.r h2 ha h3 V fun s' b' => k _ _ _ _ _ _ _ hq (b.trans b') rfl
theorem ok_aat (fo : FmOk F) (co : CfgOk C T) {i f : Nat} {x a : Str} {op : Operator} {e : PySem.Expr} {t : Tm} {p p' xp : Pos} (hx : F.ns[i]? = some x) (ha : C.attrs[f]? = some a) (h₁ : OkT C F A e (wpT C S t)) : OkC C F A (.AugAssign (.Attribute (.Name x xp) a p') op e p) (wpC C S (.aat i f op t)) := fun ρ σ Q h s θ δ r Qc k => by
  obtain ⟨kk, fs, v, h1, h2, h3, hq⟩ := h
  refine wpAny_AugAssign_AttributeAny (ld_loc fo r hx h1 fun o O => ?_)
  have O' := O
  obtain ⟨hkk, rfl⟩ := O
  obtain ⟨es, m, I, Fd, _⟩ := instAt r.H h2
  obtain ⟨val, g, V⟩ := Fd.get co.anod ha h3
  obtain ⟨⟨at', b1, b2⟩, _⟩ := co.attr a (List.mem_of_getElem? ha)
  refine get_value r.H.kin I co.getat (findObj_own co.hasd b1 b2 (by rw [lookIn_dict]; exact g)) V.handed ?_
  have b0 := r.tok (s.toks + 1)
  refine h₁ ρ σ _ hq _ θ δ b0.r _ fun u σ₁ θ₁ δ₁ s₁ y hq b U => ?_
  refine intW_rule b.r (b.val b0.r V) U hq fun w s₂ z hq b₂ W => ?_
  obtain ⟨fs', e1, e2, hq⟩ := hq
  have bb := (b0.trans b).trans b₂
  obtain ⟨_, e3⟩ := bb.val r O'
  rw [e3]
  exact setAttr_rule co b₂.r e1 ha e2 W fun s' b' => k _ _ _ _ _ _ _ hq (bb.trans b') rfl
theorem ok_six {o i e : PySem.Expr} {a b t : Tm} {p p' : Pos} (hc : noComp e = true) (h₁ : OkT C F A e (wpT C S t)) (h₂ : OkT C F A o (wpT C S a)) (h₃ : OkT C F A i (wpT C S b)) : OkC C F A (.Assign [.Subscript o i p'] e p) (wpC C S (.six a b t)) := fun ρ σ Q h s θ δ r Qc k => by
  refine wpAny_Assign_Subscript (h₁ ρ σ _ h s θ δ r _ fun v σ₁ θ₁ δ₁ s₁ val hq b₁ V => h₂ ρ σ₁ _ hq s₁ θ₁ δ₁ b₁.r _ fun va σ₂ θ₂ δ₂ s₂ x hq b₂ Va => h₃ ρ σ₂ _ hq s₂ θ₂ δ₂ b₂.r _ fun vb σ₃ θ₃ δ₃ s₃ y hq b₃ Vb => ?_) (swaps_plain hc)
  obtain ⟨kk, xs, j, rfl, rfl, e1, j0, j1, j2, hq⟩ := hq
  obtain ⟨_, rfl⟩ := b₃.val b₂.r Va
  obtain ⟨_, rfl⟩ := Vb
  have V₃ := b₃.val b₂.r (b₂.val b₁.r V)
  obtain ⟨e0, vs, IL, X⟩ := b₃.r.H.obj _ _ e1
  refine setItem_plain IL j0 j2 (by rw [List.size_toArray, ← X.length]; exact j1) fun h' hl hs => ?_
  refine k _ _ _ _ _ _ _ hq (((b₁.trans b₂).trans b₃).trans (b₃.r.setList (vs' := vs.set j.toNat val) e1 hs (by simpa using hl) (X.set V₃))) rfl
theorem ok_ifc {e : PySem.Expr} {b₁ b₂ : List Stmt} {t : Tm} {c₁ c₂ : Cs} {p : Pos} (h₀ : OkB C F A e (wpB C S t)) (h₁ : OkCs C F A b₁ (wpCs C S c₁)) (h₂ : OkCs C F A b₂ (wpCs C S c₂)) : OkC C F A (.If e b₁ b₂ p) (wpC C S (.ifc t c₁ c₂)) := fun ρ σ Q h s θ δ r Qc k => by
  refine wpAny_If (h₀ ρ σ _ h s θ δ r _ fun c σ₁ θ₁ δ₁ s₁ hq b => ?_)
  cases c with
  | true => exact h₁ ρ σ₁ _ (hq.1 rfl) s₁ θ₁ δ₁ b.r _ fun fl ρ' σ' θ' δ' s' f hq b' Fv => k _ _ _ _ _ _ _ hq (b.trans b') Fv
  | false => exact h₂ ρ σ₁ _ (hq.2 rfl) s₁ θ₁ δ₁ b.r _ fun fl ρ' σ' θ' δ' s' f hq b' Fv => k _ _ _ _ _ _ _ hq (b.trans b') Fv
theorem ok_ret {e : PySem.Expr} {t : Tm} {p : Pos} (h₁ : OkT C F A e (wpT C S t)) : OkC C F A (.Return (some e) p) (wpC C S (.ret t)) := fun ρ σ Q h s θ δ r Qc k =>
  wpAny_Return_some (h₁ ρ σ _ h s θ δ r _ fun v σ₁ θ₁ δ₁ s₁ val hq b V => k _ _ _ _ _ _ _ hq b ⟨_, rfl, V⟩)
theorem ok_retn {p : Pos} : OkC C F A (.Return none p) (wpC C S .retn) := fun ρ σ Q h s θ δ r Qc k => wpAny_Return_none (k _ _ _ _ _ _ _ h (.refl r) ⟨_, rfl, rfl⟩)
theorem ok_ex (fo : FmOk F) {e : PySem.Expr} {t : Tm} {p : Pos} (hc : noComp e = true) (h₁ : OkT C F A e (wpT C S t)) : OkC C F A (.Expr e p) (wpC C S (.ex t)) := fun ρ σ Q h s θ δ r Qc k =>
  wpAny_Expr_any (h₁ ρ σ _ h s θ δ r _ fun v σ₁ θ₁ δ₁ s₁ val hq b V => k _ _ _ _ _ _ _ hq b rfl) fo.inter (swaps_plain hc)
theorem ok_pass {p : Pos} : OkC C F A (.Pass p) (wpC C S .pass) := fun ρ σ Q h s θ δ r Qc k => wpAny_Pass (k _ _ _ _ _ _ _ h (.refl r) rfl)
theorem ok_brk {p : Pos} : OkC C F A (.Break p) (wpC C S .brk) := fun ρ σ Q h s θ δ r Qc k => wpAny_Break (k _ _ _ _ _ _ _ h (.refl r) rfl)
theorem ok_app (fo : FmOk F) {i : Nat} {x : Str} {e : PySem.Expr} {t : Tm} {p xp apos pos : Pos} (hx : F.ns[i]? = some x) (hn : noStar e = true) (hl : (apos.endLine == pos.line) = true) (h₁ : OkT C F A e (wpT C S t)) :
    OkC C F A (.Expr (.Call (.Attribute (.Name x xp) "append" apos) [e] [] pos) p) (wpC C S (.app i t)) := fun ρ σ Q h s θ δ r Qc k => by
  obtain ⟨kk, xs₀, hk, hk₀, hq⟩ := h
  have tr : backTo pos (starEach [e] F.env) = [(false, eval e F.env)] := by rw [starEach_cons hn, arm_starEach_nil]; rfl
  have hfew : ((backTo pos (starEach [e] F.env)).all (fun x => !x.1) && (backToKw pos (keywordEach [] F.env)).all (fun x => x.1.isSome) && decide (([e] : List PySem.Expr).length + ([] : List Keyword).length + (if ([] : List Keyword).isEmpty then 0 else 1) < 30)) = true := by rw [tr]; rfl
  refine wpAny_Expr_any (wpAny_Call_append rfl hfew hl tr (ld_loc fo r hx hk fun val V => ?_)) fo.inter (swaps_plain rfl)
  have V₀ := V
  obtain ⟨hkk, rfl⟩ := V
  obtain ⟨e0, vs₀, ⟨nl, P⟩, X⟩ := r.H.obj _ _ hk₀
  refine ⟨_, _, rfl, ⟨_, nl, P, rfl, rfl, rfl⟩, h₁ ρ σ _ hq s θ δ r _ fun v σ₁ θ₁ δ₁ s₁ val hq b V => ?_⟩
  obtain ⟨xs, e1, hl, hq⟩ := hq
  obtain ⟨_, e2⟩ := b.val r V₀
  rw [e2]
  obtain ⟨e0', vs, P', X'⟩ := b.r.H.obj _ _ e1
  refine wpAny_list_append_plain P' (fun h' hp hs => ?_) (by rw [List.size_toArray, ← X'.length, sizeLine_eq]; lia)
  have b₂ := b.r.setList (vs' := vs ++ [val]) (xs' := xs ++ [v]) (t := s₁.toks) e1 hs (by simpa using hp) (X'.app (.cons V .nil))
  exact k _ _ _ _ _ _ _ hq (b.trans b₂) rfl
theorem All2.snoc {α β : Type} {R : α → β → Prop} {a : α} : ∀ {l : List α} {r : List β}, All2 R (l ++ [a]) r → ∃ r' b, r = r' ++ [b] ∧ All2 R l r' ∧ R a b
  | [], r, h => by
    cases h with | cons x y => cases y; exact ⟨[], _, rfl, .nil, x⟩
  | c :: l, r, h => by
    cases h with
    | cons x y =>
      obtain ⟨r', b, rfl, h1, h2⟩ := All2.snoc y
      exact ⟨_ :: r', b, rfl, .cons x h1, h2⟩
theorem ok_sls (fo : FmOk F) {i : Nat} {x : Str} {xp sp p p' : Pos} {e el eh : PySem.Expr} {lo hi t : Tm} (hx : F.ns[i]? = some x) (hc : noComp e = true) (h₁ : OkT C F A e (wpT C S t)) (h₂ : OkT C F A el (wpT C S lo)) (h₃ : OkT C F A eh (wpT C S hi)) :
    OkC C F A (.Assign [.Subscript (.Name x xp) (.Slice (some el) (some eh) none sp) p'] e p) (wpC C S (.sls i lo hi t)) := fun ρ σ Q h s θ δ r Qc k => by
  refine wpAny_Assign_Subscript (h₁ ρ σ _ h s θ δ r _ fun v σ₁ θ₁ δ₁ s₁ val hq b₁ V => ?_) (swaps_plain hc)
  obtain ⟨kk, hv, hq⟩ := hq
  refine ld_loc fo b₁.r hx hv fun o O => ?_
  refine wpAny_Slice (wpAny_evalPart_some (h₂ ρ σ₁ _ hq s₁ θ₁ δ₁ b₁.r _ fun va σ₂ θ₂ δ₂ s₂ x₂ hq b₂ Va => wpAny_evalPart_some (h₃ ρ σ₂ _ hq s₂ θ₂ δ₂ b₂.r _ fun vb σ₃ θ₃ δ₃ s₃ x₃ hq b₃ Vb => wpAny_evalPart_none ?_)))
  obtain ⟨a, b, j, xs, ys, rfl, rfl, rfl, e1, e2, l1, l2, l3, l4, hq⟩ := hq
  obtain ⟨ta, rfl⟩ := Va
  obtain ⟨tb, rfl⟩ := Vb
  have O₃ := b₃.val b₂.r (b₂.val b₁.r O)
  have V₃ := b₃.val b₂.r (b₂.val b₁.r V)
  obtain ⟨_, rfl⟩ := O₃
  obtain ⟨_, rfl⟩ := V₃
  have b₄ := b₃.r.push { cls := .type "slice", data := .fields #[.int (a : Int) ta, .int (b : Int) tb, .none] } s₃.toks
  obtain ⟨_, vs, P, X⟩ := b₄.r.H.obj _ _ e1
  obtain ⟨_, ws, P', Y⟩ := b₄.r.H.obj _ _ e2
  refine setSlice_plain P P' (Heap.IsSliceOf.new ..) l1 (by rw [← X.length]; exact l2) (by rw [← X.length, ← Y.length]; lia) (by rw [← X.length, ← Y.length]; exact l4) fun h' hp hs => ?_
  have b₅ := b₄.r.setList (vs' := vs.take a ++ ws ++ vs.drop b) (xs' := xs.take a ++ ys ++ xs.drop b) (t := s₃.toks) e1 hs hp (((X.take a).app Y).app (X.drop b))
  exact k _ _ _ _ _ _ _ hq ((((b₁.trans b₂).trans b₃).trans b₄).trans b₅) rfl
theorem ok_whl {e : PySem.Expr} {body : List Stmt} {t : Tm} {cs : Cs} {p : Pos} (h₀ : OkB C F A e (wpB C S t)) (hb : OkCs C F A body (wpCs C S cs)) : OkC C F A (.While e body [] p) (wpC C S (.whl t cs)) := fun ρ σ Q h s θ δ r Qc k => by
  obtain ⟨Inv, ⟨n₀, i0⟩, inv⟩ := h
  refine wpAny_While (codeAny_whileLoop (fun n s' => ∃ ρ' σ' θ' δ', Inv n ρ' σ' ∧ Back C F ρ' σ θ δ s σ' θ' δ' s') ?_ n₀ ⟨ρ, σ, θ, δ, i0, .refl r⟩)
  rintro n s' ⟨ρ', σ', θ', δ', hi, b⟩
  refine wpAny_mono (h₀ ρ' σ' _ (inv n ρ' σ' hi) s' θ' δ' b.r (fun c s₂ => if c = true then wpAny (model C.P C.w) A (execs body F.env) (fun f s₃ => match f with
            | .next | .cont => ∃ m, m < n ∧ ∃ ρ₃ σ₃ θ₃ δ₃, Inv m ρ₃ σ₃ ∧ Back C F ρ₃ σ θ δ s σ₃ θ₃ δ₃ s₃
            | .brk => Qc .next s₃
            | .ret v => Qc (.ret v) s₃) E0 s₂ else Qc .next s₂) fun c σ₁ θ₁ δ₁ s₁ hq b₁ => ?_) (fun c s₂ h => ?_) fun _ _ x => x.elim
  · have bb := b.trans b₁
    cases c with
    | true =>
      rw [if_pos rfl]
      refine hb ρ' σ₁ _ (hq.1 rfl) s₁ θ₁ δ₁ b₁.r _ fun fl ρ₃ σ₃ θ₃ δ₃ s₃ f hq b₃ Fv => ?_
      have bb := bb.trans b₃
      cases fl with
      | next => cases Fv; obtain ⟨m, hm, hi⟩ := hq; exact ⟨m, hm, _, _, _, _, hi, bb⟩
      | cont => cases Fv; obtain ⟨m, hm, hi⟩ := hq; exact ⟨m, hm, _, _, _, _, hi, bb⟩
      | brk => cases Fv; exact k _ _ _ _ _ _ _ hq bb rfl
      | ret v => obtain ⟨val, rfl, Vv⟩ := Fv; exact k _ _ _ _ _ _ _ hq bb ⟨val, rfl, Vv⟩
    | false =>
      rw [if_neg Bool.false_ne_true]
      exact k _ _ _ _ _ _ _ (hq.2 rfl) bb rfl
  · cases c with
    | true =>
      rw [if_pos rfl] at h ⊢
      refine wpAny_mono h (fun f s₃ h => ?_) fun _ _ x => x.elim
      cases f <;> exact h
    | false =>
      rw [if_neg Bool.false_ne_true] at h ⊢
      exact wpAny_execs_nil h
theorem ok_pop (fo : FmOk F) {i : Nat} {x : Str} {xp apos pos : Pos} (hx : F.ns[i]? = some x) (hl : (apos.endLine == pos.line) = true) : OkT C F A (.Call (.Attribute (.Name x xp) "pop" apos) [] [] pos) (wpT C S (.pop i)) := fun ρ σ Q h s θ δ r Qc k => by
  obtain ⟨kk, xs, v, hv, e, hn, hq⟩ := h
  refine mcall_ rfl hl (by decide) (ld_loc fo r hx hv fun o O => ?_)
  obtain ⟨hk1, rfl⟩ := O
  obtain ⟨_, vs', ⟨nl, P⟩, X⟩ := r.H.obj _ _ e
  obtain ⟨vs, val, rfl, X1, V⟩ := X.snoc
  refine getMethod_list_of PySem.F.slot_list_pop PySem.F.type_list_pop (PlainList.mk' P).isList ⟨_, P, rfl⟩ ?_
  rw [arm_starEach_nil]
  refine Calls.callWith_builtin rfl (evalArgs_none (Calls.spliced_nil ?_))
  refine pop_plain ⟨nl, P⟩ (by rw [← X1.length]; lia) fun h' hp hs => ?_
  have b := r.setList (vs' := vs) (xs' := xs) (t := s.toks) e hs hp X1
  exact k _ _ _ _ _ _ hq b (b.val r V)
theorem oks_nil : OkCs C F A [] (wpCs C S .nil) := fun ρ σ Q h s θ δ r Qc k => wpAny_execs_nil (k _ _ _ _ _ _ _ h (.refl r) rfl)
theorem oks_cons {st : Stmt} {rest : List Stmt} {c : Cmd} {cs : Cs} (h₁ : OkC C F A st (wpC C S c)) (h₂ : OkCs C F A rest (wpCs C S cs)) : OkCs C F A (st :: rest) (wpCs C S (.cons c cs)) := fun ρ σ Q h s θ δ r Qc k => by
  refine wpAny_execs_cons (h₁ ρ σ _ h s θ δ r _ fun fl ρ' σ' θ' δ' s' f hq b Fv => ?_)
  cases fl with
  | next =>
    cases Fv
    exact h₂ ρ' σ' _ hq s' θ' δ' b.r _ fun fl ρ'' σ'' θ'' δ'' s'' f hq b' Fv => k _ _ _ _ _ _ _ hq (b.trans b') Fv
  | brk => cases Fv; exact k _ _ _ _ _ _ _ hq b rfl
  | cont => cases Fv; exact k _ _ _ _ _ _ _ hq b rfl
  | ret v => obtain ⟨val, rfl, V⟩ := Fv; exact k _ _ _ _ _ _ _ hq b ⟨_, rfl, V⟩
end
end Mine.Py
end
section
open PySem PySem.W PyProof.Rows PySem.Calls
namespace Mine.Py
open Mine.Dx
structure Sx where
  T : Tabs
  attrs : List Str
  ns : List Str
  sc : Scope
  cst : List Str
noncomputable def memP {β : Type} [DecidableEq β] (a : Str) (b : β) : List (Str × β) → Bool
  | [] => false
  | (x, y) :: r => (a == x && decide (b = y)) || memP a b r
theorem memP_mem {β : Type} [DecidableEq β] {a : Str} {b : β} : ∀ {l : List (Str × β)}, memP a b l = true → (a, b) ∈ l
  | [], h => by cases h
  | (x, y) :: r, h => by
    simp only [memP, Bool.or_eq_true, Bool.and_eq_true, beq_iff_eq, decide_eq_true_eq] at h
    rcases h with ⟨rfl, rfl⟩ | h
    · exact .head _
    · exact .tail _ (memP_mem h)
noncomputable def isAt (l : List Str) (i : Nat) (x : Str) : Bool := l[i]?.any fun y => y == x
theorem isAt_eq {l : List Str} {i : Nat} {x : Str} (h : isAt l i x = true) : l[i]? = some x := by
  obtain ⟨y, e, q⟩ := any_eq h
  rw [e, beq_iff_eq.mp q]
noncomputable def two {α : Type} : List α → Option (α × α)
  | [a, b] => some (a, b)
  | _ => none
noncomputable def three {α : Type} : List α → Option (α × α × α)
  | [a, b, c] => some (a, b, c)
  | _ => none
theorem two_eq {α : Type} {l : List α} {a b : α} (h : two l = some (a, b)) : l = [a, b] := by
  match l, h with
  | [_, _], h => cases h; rfl
theorem three_eq {α : Type} {l : List α} {a b c : α} (h : three l = some (a, b, c)) : l = [a, b, c] := by
  match l, h with
  | [_, _, _], h => cases h; rfl
theorem vwE {k : Nat} {β : Type} {g : FE k → β} {e : PySem.Expr} {a : β} {P : β → Prop} (h : (atE k e).map g = some a) (f : ∀ x, mkE k x e → P (g x)) : P a := by
  cases q : atE k e with
  | none => rw [q] at h; cases h
  | some x => rw [q] at h; cases h; exact f x (atE_mk q)
noncomputable def exC (e : PySem.Expr) : Option (Const) := (atE 0 e).map fun x => x.1
noncomputable def exN (e : PySem.Expr) : Option (Str) := (atE 1 e).map fun x => x.1
noncomputable def exA (e : PySem.Expr) : Option (PySem.Expr × Str × Pos) := (atE 2 e).map fun x => x
noncomputable def exBin (e : PySem.Expr) : Option (Operator × PySem.Expr × PySem.Expr) := (atE 3 e).map fun x => (x.2.1, x.1, x.2.2.1)
noncomputable def exUn (e : PySem.Expr) : Option (UnaryOp × PySem.Expr) := (atE 4 e).map fun x => (x.1, x.2.1)
noncomputable def exCmp (e : PySem.Expr) : Option (PySem.Expr × List CmpOp × List PySem.Expr) := (atE 5 e).map fun x => (x.1, x.2.1, x.2.2.1)
noncomputable def exSub (e : PySem.Expr) : Option (PySem.Expr × PySem.Expr) := (atE 6 e).map fun x => (x.1, x.2.1)
noncomputable def exCall (e : PySem.Expr) : Option (PySem.Expr × List PySem.Expr × List Keyword × Pos) := (atE 7 e).map fun x => x
noncomputable def exIf (e : PySem.Expr) : Option (PySem.Expr × PySem.Expr × PySem.Expr) := (atE 8 e).map fun x => (x.1, x.2.1, x.2.2.1)
noncomputable def exBo (e : PySem.Expr) : Option (BoolOp × List PySem.Expr) := (atE 9 e).map fun x => (x.1, x.2.1)
noncomputable def exTup (e : PySem.Expr) : Option (List PySem.Expr × Nat × Pos) := (atE 10 e).map fun x => x
noncomputable def exLst (e : PySem.Expr) : Option (List PySem.Expr) := (atE 11 e).map fun x => x.1
noncomputable def exSl (e : PySem.Expr) : Option (Option PySem.Expr × Option PySem.Expr × Option PySem.Expr) := (atE 12 e).map fun x => (x.1, x.2.1, x.2.2.1)
noncomputable def exLc (e : PySem.Expr) : Option (PySem.Expr × List Comprehension × Scope) := (atE 13 e).map fun x => (x.1, x.2.1, x.2.2.1)
theorem exC_eq {e : PySem.Expr} {c : Const} (h : exC e = some c) : ∃ k p, e = .Constant c k p := vwE (k := 0) (P := fun (c : Const) => ∃ k p, e = .Constant c k p) h fun _ q => ⟨_, _, q⟩
theorem exN_eq {e : PySem.Expr} {x : Str} (h : exN e = some x) : ∃ p, e = .Name x p := vwE (k := 1) (P := fun (c : Str) => ∃ p, e = .Name c p) h fun _ q => ⟨_, q⟩
theorem exA_eq {e e' : PySem.Expr} {x : Str} {p : Pos} (h : exA e = some (e', x, p)) : e = .Attribute e' x p := vwE (k := 2) (P := fun (c : PySem.Expr × Str × Pos) => e = .Attribute c.1 c.2.1 c.2.2) h fun _ q => q
theorem exBin_eq {e l r : PySem.Expr} {op : Operator} (h : exBin e = some (op, l, r)) : ∃ p, e = .BinOp l op r p := vwE (k := 3) (P := fun (c : Operator × PySem.Expr × PySem.Expr) => ∃ p, e = .BinOp c.2.1 c.1 c.2.2 p) h fun _ q => ⟨_, q⟩
theorem exUn_eq {e l : PySem.Expr} {op : UnaryOp} (h : exUn e = some (op, l)) : ∃ p, e = .UnaryOp op l p := vwE (k := 4) (P := fun (c : UnaryOp × PySem.Expr) => ∃ p, e = .UnaryOp c.1 c.2 p) h fun _ q => ⟨_, q⟩
theorem exCmp_eq {e l : PySem.Expr} {ops : List CmpOp} {rs : List PySem.Expr} (h : exCmp e = some (l, ops, rs)) : ∃ p, e = .Compare l ops rs p := vwE (k := 5) (P := fun (c : PySem.Expr × List CmpOp × List PySem.Expr) => ∃ p, e = .Compare c.1 c.2.1 c.2.2 p) h fun _ q => ⟨_, q⟩
theorem exSub_eq {e l r : PySem.Expr} (h : exSub e = some (l, r)) : ∃ p, e = .Subscript l r p := vwE (k := 6) (P := fun (c : PySem.Expr × PySem.Expr) => ∃ p, e = .Subscript c.1 c.2 p) h fun _ q => ⟨_, q⟩
theorem exCall_eq {e f : PySem.Expr} {es : List PySem.Expr} {ks : List Keyword} {p : Pos} (h : exCall e = some (f, es, ks, p)) : e = .Call f es ks p := vwE (k := 7) (P := fun (c : PySem.Expr × List PySem.Expr × List Keyword × Pos) => e = .Call c.1 c.2.1 c.2.2.1 c.2.2.2) h fun _ q => q
theorem exIf_eq {e e' l r : PySem.Expr} (h : exIf e = some (e', l, r)) : ∃ p, e = .IfExp e' l r p := vwE (k := 8) (P := fun (c : PySem.Expr × PySem.Expr × PySem.Expr) => ∃ p, e = .IfExp c.1 c.2.1 c.2.2 p) h fun _ q => ⟨_, q⟩
theorem exBo_eq {e : PySem.Expr} {op : BoolOp} {es : List PySem.Expr} (h : exBo e = some (op, es)) : ∃ p, e = .BoolOp op es p := vwE (k := 9) (P := fun (c : BoolOp × List PySem.Expr) => ∃ p, e = .BoolOp c.1 c.2 p) h fun _ q => ⟨_, q⟩
theorem exTup_eq {e : PySem.Expr} {es : List PySem.Expr} {k : Nat} {p : Pos} (h : exTup e = some (es, k, p)) : e = .Tuple es k p := vwE (k := 10) (P := fun (c : List PySem.Expr × Nat × Pos) => e = .Tuple c.1 c.2.1 c.2.2) h fun _ q => q
theorem exLst_eq {e : PySem.Expr} {es : List PySem.Expr} (h : exLst e = some es) : ∃ p, e = .List es p := vwE (k := 11) (P := fun (c : List PySem.Expr) => ∃ p, e = .List c p) h fun _ q => ⟨_, q⟩
theorem exSl_eq {e : PySem.Expr} {a b c : Option PySem.Expr} (h : exSl e = some (a, b, c)) : ∃ p, e = .Slice a b c p := vwE (k := 12) (P := fun (c : Option PySem.Expr × Option PySem.Expr × Option PySem.Expr) => ∃ p, e = .Slice c.1 c.2.1 c.2.2 p) h fun _ q => ⟨_, q⟩
theorem exLc_eq {e e' : PySem.Expr} {g : List Comprehension} {sc : Scope} (h : exLc e = some (e', g, sc)) : ∃ p, e = .ListComp e' g sc p := vwE (k := 13) (P := fun (c : PySem.Expr × List Comprehension × Scope) => ∃ p, e = .ListComp c.1 c.2.1 c.2.2 p) h fun _ q => ⟨_, q⟩
theorem elC {e : PySem.Expr} {M : PySem.Expr → Prop} {p : (Const) → Bool} (h : (exC e).any p = true) (f : ∀ (c : Const) (k : Nat) (z : Pos), p (c) = true → M (.Constant c k z)) : M e := elO h fun a q r => (exC_eq q).elim fun _ q => q.elim fun _ q => q ▸ f _ _ _ r
theorem elN {e : PySem.Expr} {M : PySem.Expr → Prop} {p : (Str) → Bool} (h : (exN e).any p = true) (f : ∀ (x : Str) (z : Pos), p (x) = true → M (.Name x z)) : M e := elO h fun a q r => (exN_eq q).elim fun _ q => q ▸ f _ _ r
theorem elA {e : PySem.Expr} {M : PySem.Expr → Prop} {p : (PySem.Expr × Str × Pos) → Bool} (h : (exA e).any p = true) (f : ∀ (e : PySem.Expr) (a : Str) (z : Pos), p (e, a, z) = true → M (.Attribute e a z)) : M e := elO h fun a q r => have q := exA_eq q; q ▸ f _ _ _ r
theorem elBin {e : PySem.Expr} {M : PySem.Expr → Prop} {p : (Operator × PySem.Expr × PySem.Expr) → Bool} (h : (exBin e).any p = true) (f : ∀ (op : Operator) (l r : PySem.Expr) (z : Pos), p (op, l, r) = true → M (.BinOp l op r z)) : M e := elO h fun a q r => (exBin_eq q).elim fun _ q => q ▸ f _ _ _ _ r
theorem elUn {e : PySem.Expr} {M : PySem.Expr → Prop} {p : (UnaryOp × PySem.Expr) → Bool} (h : (exUn e).any p = true) (f : ∀ (op : UnaryOp) (l : PySem.Expr) (z : Pos), p (op, l) = true → M (.UnaryOp op l z)) : M e := elO h fun a q r => (exUn_eq q).elim fun _ q => q ▸ f _ _ _ r
theorem elCmp {e : PySem.Expr} {M : PySem.Expr → Prop} {p : (PySem.Expr × List CmpOp × List PySem.Expr) → Bool} (h : (exCmp e).any p = true) (f : ∀ (l : PySem.Expr) (ops : List CmpOp) (rs : List PySem.Expr) (z : Pos), p (l, ops, rs) = true → M (.Compare l ops rs z)) : M e := elO h fun a q r => (exCmp_eq q).elim fun _ q => q ▸ f _ _ _ _ r
theorem elSub {e : PySem.Expr} {M : PySem.Expr → Prop} {p : (PySem.Expr × PySem.Expr) → Bool} (h : (exSub e).any p = true) (f : ∀ (l r : PySem.Expr) (z : Pos), p (l, r) = true → M (.Subscript l r z)) : M e := elO h fun a q r => (exSub_eq q).elim fun _ q => q ▸ f _ _ _ r
theorem elCall {e : PySem.Expr} {M : PySem.Expr → Prop} {p : (PySem.Expr × List PySem.Expr × List Keyword × Pos) → Bool} (h : (exCall e).any p = true) (f : ∀ (f : PySem.Expr) (es : List PySem.Expr) (ks : List Keyword) (z : Pos), p (f, es, ks, z) = true → M (.Call f es ks z)) : M e := elO h fun a q r => have q := exCall_eq q; q ▸ f _ _ _ _ r
theorem elIf {e : PySem.Expr} {M : PySem.Expr → Prop} {p : (PySem.Expr × PySem.Expr × PySem.Expr) → Bool} (h : (exIf e).any p = true) (f : ∀ (t l r : PySem.Expr) (z : Pos), p (t, l, r) = true → M (.IfExp t l r z)) : M e := elO h fun a q r => (exIf_eq q).elim fun _ q => q ▸ f _ _ _ _ r
theorem elBo {e : PySem.Expr} {M : PySem.Expr → Prop} {p : (BoolOp × List PySem.Expr) → Bool} (h : (exBo e).any p = true) (f : ∀ (op : BoolOp) (es : List PySem.Expr) (z : Pos), p (op, es) = true → M (.BoolOp op es z)) : M e := elO h fun a q r => (exBo_eq q).elim fun _ q => q ▸ f _ _ _ r
theorem elTup {e : PySem.Expr} {M : PySem.Expr → Prop} {p : (List PySem.Expr × Nat × Pos) → Bool} (h : (exTup e).any p = true) (f : ∀ (es : List PySem.Expr) (k : Nat) (z : Pos), p (es, k, z) = true → M (.Tuple es k z)) : M e := elO h fun a q r => have q := exTup_eq q; q ▸ f _ _ _ r
theorem elLst {e : PySem.Expr} {M : PySem.Expr → Prop} {p : (List PySem.Expr) → Bool} (h : (exLst e).any p = true) (f : ∀ (es : List PySem.Expr) (z : Pos), p (es) = true → M (.List es z)) : M e := elO h fun a q r => (exLst_eq q).elim fun _ q => q ▸ f _ _ r
theorem elSl {e : PySem.Expr} {M : PySem.Expr → Prop} {p : (Option PySem.Expr × Option PySem.Expr × Option PySem.Expr) → Bool} (h : (exSl e).any p = true) (f : ∀ (a b c : Option PySem.Expr) (z : Pos), p (a, b, c) = true → M (.Slice a b c z)) : M e := elO h fun a q r => (exSl_eq q).elim fun _ q => q ▸ f _ _ _ _ r
theorem elLc {e : PySem.Expr} {M : PySem.Expr → Prop} {p : (PySem.Expr × List Comprehension × Scope) → Bool} (h : (exLc e).any p = true) (f : ∀ (e : PySem.Expr) (g : List Comprehension) (sc : Scope) (z : Pos), p (e, g, sc) = true → M (.ListComp e g sc z)) : M e := elO h fun a q r => (exLc_eq q).elim fun _ q => q ▸ f _ _ _ _ r
theorem eqd {α : Type} {a b : α} [Decidable (a = b)] {M : α → Prop} (h : decide (a = b) = true) (f : M a) : M b := of_decide_eq_true h ▸ f
theorem eqb {α : Type} [BEq α] [LawfulBEq α] {a b : α} {M : α → Prop} (h : (a == b) = true) (f : M a) : M b := eq_of_beq h ▸ f
theorem some_el {α : Type} {l : Option α} {M : Option α → Prop} {p : α → Bool} (h : l.any p = true) (f : ∀ a, p a = true → M (some a)) : M l := elO h fun a q r => q ▸ f a r
theorem two_el {α : Type} {l : List α} {M : List α → Prop} {p : α × α → Bool} (h : (two l).any p = true) (f : ∀ a b, p (a, b) = true → M [a, b]) : M l := elO h fun a q r => two_eq q ▸ f _ _ r
theorem three_el {α : Type} {l : List α} {M : List α → Prop} {p : α × α × α → Bool} (h : (three l).any p = true) (f : ∀ a b c, p (a, b, c) = true → M [a, b, c]) : M l := elO h fun a q r => three_eq q ▸ f _ _ _ r
noncomputable def cI : Const → Option Int
  | .int i => some i
  | _ => none
noncomputable def cB : Const → Option Bool
  | .bool b => some b
  | _ => none
noncomputable def cS : Const → Option Str
  | .str x => some x
  | _ => none
noncomputable def cN : Const → Bool
  | .none => true
  | _ => false
theorem cI_eq {c : Const} {i : Int} (h : cI c = some i) : c = .int i := by cases c with | int => cases h; rfl | _ => cases h
theorem cB_eq {c : Const} {b : Bool} (h : cB c = some b) : c = .bool b := by cases c with | bool => cases h; rfl | _ => cases h
theorem cS_eq {c : Const} {x : Str} (h : cS c = some x) : c = .str x := by cases c with | str => cases h; rfl | _ => cases h
theorem cN_eq {c : Const} (h : cN c = true) : c = .none := by cases c with | none => rfl | _ => cases h
noncomputable def constIs : At → Const → Bool
  | .none, c => cN c
  | .bool b, c => (cB c).any (b == ·)
  | .int i, c => (cI c).any fun j => decide (i = j)
  | .lst _, _ => false
noncomputable def isK (e : PySem.Expr) (i : Int) : Bool := (exC e).any fun c => (cI c).any fun j => decide (i = j)
theorem isK_eq {e : PySem.Expr} {i : Int} (h : isK e i = true) : ∃ k p, e = .Constant (.int i) k p := by
  obtain ⟨c, h1, h2⟩ := any_eq h
  obtain ⟨j, h3, h4⟩ := any_eq h2
  obtain rfl := cI_eq h3
  obtain rfl := of_decide_eq_true h4
  exact exC_eq h1
noncomputable def isLoc (X : Sx) (i : Nat) (e : PySem.Expr) : Bool := (exN e).any (isAt X.ns i)
noncomputable def isSto (X : Sx) (i : Nat) (e : PySem.Expr) : Bool := (exN e).any fun x => isAt X.ns i x && X.sc.names.lookup x == some .local
structure Around' (C : Cfg) (F : Fm) (A : Around) (X : Sx) (S : Nat → Spec) (n : Nat) : Prop where
  fo : FmOk F
  co : CfgOk C X.T
  so : SpecsOk C n S
  room : Room A n
  ns : F.ns = X.ns
  at' : C.attrs = X.attrs
  sc : F.env.scope = X.sc
  cst : ∀ x, x ∈ X.cst → ∃ c, F.env.cells.lookup x = some c ∧ c ∈ F.oc
section
variable {C : Cfg} {F : Fm} {A : Around} {X : Sx} {S : Nat → Spec} {n : Nat}
theorem Around'.low (c : Around' C F A X S n) : A.units < cLine := by have := c.room.2.1; unfold cLine; lia
theorem isSto_eq (c : Around' C F A X S n) {i : Nat} {e : PySem.Expr} (h : isSto X i e = true) : ∃ x p, e = .Name x p ∧ F.ns[i]? = some x ∧ F.env.scope.names.lookup x = some .local := by
  obtain ⟨x, h1, h2⟩ := any_eq h
  obtain ⟨p, rfl⟩ := exN_eq h1
  obtain ⟨h3, h4⟩ := Bool.and_eq_true_iff.mp h2
  exact ⟨x, p, rfl, by rw [c.ns]; exact isAt_eq h3, by rw [c.sc]; exact beq_iff_eq.mp h4⟩
theorem loc_el (c : Around' C F A X S n) {i : Nat} {e : PySem.Expr} {M : PySem.Expr → Prop} (h : isLoc X i e = true) (f : ∀ x p, F.ns[i]? = some x → M (.Name x p)) : M e := elN h fun x p q => f x p (c.ns ▸ isAt_eq q)
theorem sto_el (c : Around' C F A X S n) {i : Nat} {e : PySem.Expr} {M : PySem.Expr → Prop} (h : isSto X i e = true) (f : ∀ x p, F.ns[i]? = some x → F.env.scope.names.lookup x = some .local → M (.Name x p)) : M e := elN h fun x p q => f x p (c.ns ▸ isAt_eq (l2 q)) (c.sc ▸ eq_of_beq (r2 q))
theorem K_el {i : Int} {e : PySem.Expr} {M : PySem.Expr → Prop} (h : isK e i = true) (f : ∀ k p, M (.Constant (.int i) k p)) : M e := elC h fun c k p q => elO q fun j r s => cI_eq r ▸ of_decide_eq_true s ▸ f k p
theorem const_ok {a : At} {e : PySem.Expr} (h : (exC e).any (constIs a) = true) : OkT C F A e (wpT C S (.c a)) := by
  obtain ⟨k, h1, h2⟩ := any_eq h
  obtain ⟨_, _, rfl⟩ := exC_eq h1
  cases a with
  | none => obtain rfl := cN_eq h2; exact okc_none
  | bool b => obtain ⟨b', h3, h4⟩ := any_eq (x := cB k) h2; obtain rfl := cB_eq h3; obtain rfl := beq_iff_eq.mp h4; exact okc_bool
  | int i => obtain ⟨j, h3, h4⟩ := any_eq (x := cI k) h2; obtain rfl := cI_eq h3; obtain rfl := of_decide_eq_true h4; exact okc_int
  | lst _ => cases h2
noncomputable def globX (X : Sx) (x : Str) : Bool := X.sc.names.lookup x == some .globalImplicit && !(x == ("__debug__" : Str))
theorem glob_eq (c : Around' C F A X S n) {x : Str} (h : globX X x = true) : glob F x = true := by unfold glob; rw [c.sc]; exact h
noncomputable def okPT (x y : Str) : PT → PySem.Expr → Bool
  | .k i, e => isK e i
  | .x, e => (exN e).any (· == x)
  | .y, e => (exN e).any (· == y)
  | .bin op a b, e => (exBin e).any fun z => decide (op = z.1) && okPT x y a z.2.1 && okPT x y b z.2.2
theorem pt_sound {env : Env} {x y : Str} {cc : Addr} {a b : Int} {s₂ : Shared} {M : Model} (hM : ∃ prog w, M = model prog w) (hk : env.scope.kind = .function) (hx : env.kindOf x = some .local) (hy : env.kindOf y = some .cell) (hc : env.cells.lookup y = some cc)
    (dx : (x == ("__debug__" : Str)) = false) (dy : (y == ("__debug__" : Str)) = false) :
    ∀ (t : PT) (e : PySem.Expr) (h : Heap) (m : Str → Option Value) (tx ty : Nat), okPT x y t e = true → ptOk t a b → h.Ns env.locals m → m x = some (.int a tx) → h.IsCell cc (some (.int b ty)) → ∀ (A : Around) (E : Value → Shared → Prop) (tk : Nat) (Q : Value → Shared → Prop),
      (∀ u tk', Q (.int (ptV t a b) u) { s₂ with heap := h, toks := tk' }) → wpAny M A (eval e env) Q E { s₂ with heap := h, toks := tk } := by
  obtain ⟨prog, w, rfl⟩ := hM
  intro t
  induction t with
  | k i =>
    intro e h m tx ty ok po hn hm hcell A E tk Q q
    obtain ⟨_, _, rfl⟩ := isK_eq (show isK e i = true from ok)
    exact wpAny_Constant_int (q _ _)
  | x =>
    intro e h m tx ty ok po hn hm hcell A E tk Q q
    obtain ⟨z, h1, h2⟩ := any_eq (x := exN e) ok
    obtain ⟨p, rfl⟩ := exN_eq h1
    obtain rfl := beq_iff_eq.mp h2
    exact wpAny_Name (wpAny_loadName_local hk hx hn hm (q _ _)) dx
  | y =>
    intro e h m tx ty ok po hn hm hcell A E tk Q q
    obtain ⟨z, h1, h2⟩ := any_eq (x := exN e) ok
    obtain ⟨p, rfl⟩ := exN_eq h1
    obtain rfl := beq_iff_eq.mp h2
    exact wpAny_Name (wpAny_loadName_cell hk hy hc hcell (q _ _)) dy
  | bin op l r il ir =>
    intro e h m tx ty ok po hn hm hcell A E tk Q q
    obtain ⟨⟨op', el, er⟩, h1, h2⟩ := any_eq (x := exBin e) ok
    obtain ⟨p, rfl⟩ := exBin_eq h1
    simp only [Bool.and_eq_true, decide_eq_true_eq] at h2
    obtain ⟨⟨rfl, h2⟩, h3⟩ := h2
    refine wpAny_BinOp (il el h m tx ty h2 po.1 hn hm hcell A _ tk _ fun u tk' => ir er h m tx ty h3 po.2.1 hn hm hcell A _ tk' _ fun u' tk'' => ?_)
    exact bin_rule po.2.2 (q _ _)
end
end Mine.Py
end
section
open PySem PySem.W PyProof.Rows PySem.Calls
namespace Mine.Py
open Mine.Dx
section
variable {C : Cfg} {F : Fm} {A : Around} {X : Sx} {S : Nat → Spec} {n : Nat}
theorem R.grown {ρ : Loc} {σ : St} {θ δ : Nat → Nat} {s : Shared} {h' : Heap} {t : Nat} (r : R C F ρ σ θ δ s) (keep : ∀ b o, s.heap.get? b = some o → h'.get? b = some o) : Back C F ρ σ θ δ s σ θ δ { s with heap := h', toks := t } :=
  ⟨r.beside (r.H.keepAll keep) (fun o e => keep _ _ e) fun b o e _ => keep b o e, fun b o e _ _ => keep b o e, .refl ..⟩
theorem range_small {n : Nat} (h : n < 2 ^ 24) : Builtin.Range.small 0 n 1 = true ∧ Builtin.Range.rangeSize 0 n 1 = (n : Int) := by
  have e : Builtin.Range.rangeSize 0 n 1 = (n : Int) := by rw [rangeSize_nat]; lia
  refine ⟨?_, e⟩
  unfold Builtin.Range.small
  rw [e]
  unfold Builtin.Range.rangeFitsLong
  have h' : (n : Int) < 2 ^ 24 := by lia
  simp only [show (1 : Int) > 0 by decide, if_true, Bool.and_eq_true, Bool.or_eq_true, decide_eq_true_eq]
  refine ⟨⟨⟨⟨?_, ?_⟩, ?_⟩, ?_⟩, .inr ?_⟩ <;> lia
theorem range_src (c : Around' C F A X S n) {rn : Str} {np cp q : Pos} {kk m : Nat} (hg : globX X rn = true) (ht : (rn, (true, "range")) ∈ X.T.bt) (hm : m < 2 ^ 24) {ρ : Loc} {σ : St} {θ δ : Nat → Nat} {s : Shared} (r : R C F ρ σ θ δ s) {Q : Value → Shared → Prop}
    (k : ∀ I h t, (∀ b o, s.heap.get? b = some o → h.get? b = some o) → s.heap.objs.size ≤ I → I < h.objs.size → IsRangeIter h I 0 m 1 → Q (.ref I) { s with heap := h, toks := t }) :
    wpAny (model C.P C.w) A (eval (.Call (.Name rn np) [.Constant (.int m) kk q] [] cp) F.env) (fun xv s₁ => wpAny (model C.P C.w) A (pyIter xv) Q E0 s₁) E0 s := by
  refine Call_ (ld_blt c.fo c.co r (glob_eq c hg) ht ?_) rfl
  refine Pv.callWith_type1 ?_ (starEach_cons rfl) (by rw [arm_starEach_nil]; rfl)
  refine args_cons (wpAny_Constant_int (args_nil ?_)) (starEach_cons rfl)
  refine call_range_1 ?_
  obtain ⟨sm, sz⟩ := range_small hm
  refine wpAny_pyIter_range (IsRange.new ..) sm ?_
  rw [sz]
  refine k _ _ _ (fun b o e => Heap.get?_push_of_some _ (Heap.get?_push_of_some _ e)) ?_ ?_ (Heap.get?_push_size _ rfl)
  · show s.heap.objs.size ≤ (s.heap.push _).objs.size; rw [Heap.size_push]; exact Nat.le_succ _
  · simp only [Heap.size_push]; exact Nat.lt_succ_self _
noncomputable def compScope (sc : Scope) (x y : Str) : Bool := (three sc.names).any fun z => z.1.1 == (".0" : Str) && z.1.2 == .local && z.2.1.1 == x && z.2.1.2 == .local && z.2.2.1 == y && z.2.2.2 == .free && sc.kind == .function && !(x == y) && !(x == (".0" : Str)) && !(y == (".0" : Str)) && !(x == ("__debug__" : Str)) && !(y == ("__debug__" : Str))
structure CompOk (sc : Scope) (x y : Str) : Prop where
  names : sc.names = [((".0" : Str), NameKind.local), (x, .local), (y, .free)]
  kind : sc.kind = .function
  xy : (y == x) = false
  x0 : (x == (".0" : Str)) = false
  y0 : (y == (".0" : Str)) = false
  dx : (x == ("__debug__" : Str)) = false
  dy : (y == ("__debug__" : Str)) = false
theorem compOk {sc : Scope} {x y : Str} (h : compScope sc x y = true) : CompOk sc x y := by
  obtain ⟨⟨⟨a, ka⟩, ⟨b, kb⟩, ⟨c, kc⟩⟩, h1, h2⟩ := any_eq h
  simp only [Bool.and_eq_true, beq_iff_eq, Bool.not_eq_true'] at h2
  obtain ⟨⟨⟨⟨⟨⟨⟨⟨⟨⟨⟨rfl, rfl⟩, rfl⟩, rfl⟩, rfl⟩, rfl⟩, h3⟩, h4⟩, h5⟩, h6⟩, h7⟩, h8⟩ := h2
  refine ⟨three_eq h1, h3, ?_, h5, h6, h7, h8⟩
  rw [Bool.beq_comm] at h4
  exact h4
theorem CompOk.clos {sc : Scope} {x y : Str} (o : CompOk sc x y) {env : Env} {c : Addr} (hc : env.cells.lookup y = some c) : closureFor sc env = pure [(y, c)] := by
  unfold closureFor cellOf
  rw [o.names]
  simp [hc]
theorem CompOk.look {sc : Scope} {x y : Str} (o : CompOk sc x y) {env : Env} {C : Addr} {cl : List (Str × Addr)} (hk : env.scope.kind = .function) (hy : env.scope.names.lookup y = some .cell) :
    (compEnvC sc cl C env).scope.kind = .function ∧ (compEnvC sc cl C env).kindOf x = some .local ∧ (compEnvC sc cl C env).kindOf y = some .cell := by
  have hk' : (env.scope.kind == ScopeKind.function) = true := by rw [hk]; rfl
  have hy' : (env.kindOf y == some NameKind.cell) = true := by show (env.scope.names.lookup y == _) = true; rw [hy]; rfl
  have e : (relabel sc env).names = [((".0" : Str), NameKind.local), (x, .local), (y, .cell)] := by
    unfold relabel
    rw [o.names]
    simp only [List.map_cons, List.map_nil, hk', hy']
    simp
  refine ⟨o.kind, ?_, ?_⟩
  · show (relabel sc env).names.lookup x = _
    rw [e, List.lookup_cons, o.x0, List.lookup_cons, beq_self_eq_true]
  · show (relabel sc env).names.lookup y = _
    rw [e, List.lookup_cons, o.y0, List.lookup_cons, o.xy, List.lookup_cons, beq_self_eq_true]
theorem CompOk.env {sc : Scope} {x y : Str} (o : CompOk sc x y) : (∀ z ∈ sc.names, z.2 ≠ .cell) ∧ (∀ z ∈ sc.names, z.2 = .local → sc.names.lookup z.1 = some .local) ∧ sc.names.lookup x = some .local := by
  rw [o.names]
  have hx : List.lookup x [((".0" : Str), NameKind.local), (x, .local), (y, .free)] = some .local := by rw [List.lookup_cons, o.x0, List.lookup_cons, beq_self_eq_true]
  refine ⟨fun z hz => ?_, fun z hz hl => ?_, hx⟩
  · simp only [List.mem_cons, List.not_mem_nil, or_false] at hz
    rcases hz with rfl | rfl | rfl <;> exact nofun
  · simp only [List.mem_cons, List.not_mem_nil, or_false] at hz
    rcases hz with rfl | rfl | rfl
    · rw [List.lookup_cons, beq_self_eq_true]
    · exact hx
    · cases hl
theorem comp_items {m : Nat} {t : PT} {b : Int} {vs ys : List Value} (hl : vs.length = m) (hP : ∀ (j : Nat) v, vs[j]? = some v → j < m ∧ ∃ tk, v = Value.int ((j : Int)) tk) (hF : Paired (fun v y => ∃ a u, (∃ tk, v = Value.int a tk) ∧ y = Value.int (ptV t a b) u) vs ys) {n : Nat} {θ : Nat → Nat} {C : Cfg} {h : Heap} :
    All2 (Val C h n θ) ((List.range m).map fun (j : Nat) => .at (.int (ptV t j b))) ys := by
  have key : ∀ (vs ys : List Value) (k : Nat), (∀ (j : Nat) v, vs[j]? = some v → ∃ tk, v = Value.int (((k + j : Nat) : Int)) tk) → Paired (fun v y => ∃ a u, (∃ tk, v = Value.int a tk) ∧ y = Value.int (ptV t a b) u) vs ys →
      All2 (Val C h n θ) ((List.range' k vs.length).map fun (j : Nat) => .at (.int (ptV t j b))) ys := by
    intro vs ys k hP hF
    induction hF generalizing k with
    | nil => exact .nil
    | cons h1 h2 ih =>
      obtain ⟨a, u, ⟨tk, rfl⟩, rfl⟩ := h1
      obtain ⟨tk', e⟩ := hP 0 _ rfl
      cases e
      refine .cons ⟨u, rfl⟩ (ih (k + 1) fun j v e => ?_)
      obtain ⟨tk, rfl⟩ := hP (j + 1) v (by simpa using e)
      exact ⟨tk, by congr 2; lia⟩
  have := key vs ys 0 (fun j v e => by obtain ⟨_, tk, e'⟩ := hP j v e; exact ⟨tk, by rw [Nat.zero_add]; exact e'⟩) hF
  rw [hl, ← List.range_eq_range'] at this
  exact this
theorem comp_quiet (c : Around' C F A X S n) {elt : PySem.Expr} {x y : Str} {sc : Scope} {t : PT} {m : Nat} {cc : Addr} {b : Int} {ty : Nat} {I : Addr} {s₂ : Shared} (o : CompOk sc x y) (hk : F.env.scope.kind = .function) (hy : F.env.scope.names.lookup y = some .cell) (hc : F.env.cells.lookup y = some cc)
    (ok : okPT x y t elt = true) (po : ∀ j : Nat, j < m → ptOk t j b) (hcell : s₂.heap.IsCell cc (some (.int b ty))) (hI : cc ≠ I) :
    QuietOnC C.P C.w A F.env sc [(y, cc)] x [] elt [I] (fun i v => i < m ∧ ∃ tk, v = Value.int ((0 : Int) + (i : Nat) * 1) tk) (fun _ => true) (fun v y => ∃ a u, (∃ tk, v = Value.int a tk) ∧ y = Value.int (ptV t a b) u) s₂ where
  tests := fun D i v s₃ m₃ E' _ _ _ _ _ _ => by rw [List.forIn_nil]; exact wpAny_pure ⟨rfl, _, _, rfl, fun _ _ e => e⟩
  elt := fun D i v s₃ m₃ E' _ hP _ hn hm hkp _ => by
    obtain ⟨hi, tk, rfl⟩ := hP
    obtain ⟨k1, k2, k3⟩ := o.look (C := D) (cl := [(y, cc)]) hk hy
    obtain ⟨ob, e1, e2⟩ := hcell
    have hcell' : s₃.heap.IsCell cc (some (.int b ty)) := ⟨ob, hkp _ _ (by simpa using hI) e1, e2⟩
    have e0 : (0 : Int) + ((i : Nat) : Int) * 1 = (i : Int) := by lia
    rw [e0] at hm ⊢
    refine pt_sound (s₂ := s₃) (env := compEnvC sc [(y, cc)] D F.env) ⟨_, _, rfl⟩ k1 k2 k3 (by show List.lookup y [(y, cc)] = some cc; rw [List.lookup_cons, beq_self_eq_true]) o.dx o.dy t elt s₃.heap m₃ tk ty ok (po i hi) hn hm hcell' A E' s₃.toks _ fun u tk' => ?_
    exact ⟨⟨_, u, ⟨tk, rfl⟩, rfl⟩, _, _, rfl, fun _ _ e => e⟩
theorem cell_at {ρ : Loc} {σ : St} {θ δ : Nat → Nat} {s : Shared} (r : R C F ρ σ θ δ s) {i : Nat} {x : Str} {b : Int} (hx : F.ns[i]? = some x) (hl : F.env.scope.names.lookup x = some .cell) (hv : ρ[i]? = some (some (.at (.int b)))) : ∃ c ty, F.env.cells.lookup x = some c ∧ s.heap.IsCell c (some (.int b ty)) := by
  obtain ⟨val, e, V⟩ := r.loc i x _ hx hv
  obtain ⟨ty, rfl⟩ := V
  rcases e with ⟨l, _⟩ | ⟨_, c, e1, e2⟩
  · rw [hl] at l; cases l
  · exact ⟨c, ty, e1, e2⟩
theorem rng_walks (c : Around' C F A X S n) (I : Addr) (m : Nat) : Walks C.P C.w A I [I] [I] m (fun i v => i < m ∧ ∃ tk, v = Value.int ((0 : Int) + (i : Nat) * 1) tk) (fun i h => IsRangeIter h I (0 + (i : Nat) * 1) ((m : Int) - (i : Nat)) 1) := (Walks.range c.room.2.2 I 0 1 m).bound
theorem ok_comp (c : Around' C F A X S n) {elt : PySem.Expr} {x y rn : Str} {px np cp q pos : Pos} {kk m i : Nat} {sc : Scope} {t : PT} (hg : globX X rn = true) (ht : (rn, (true, "range")) ∈ X.T.bt) (hm : m < 2 ^ 24) (o : CompOk sc x y) (hy : F.ns[i]? = some y) (hl : F.env.scope.names.lookup y = some .cell) (ok : okPT x y t elt = true) :
    OkT C F A (.ListComp elt [⟨.Name x px, .Call (.Name rn np) [.Constant (.int m) kk q] [] cp, [], 0⟩] sc pos) (wpT C S (.comp i m t)) := fun ρ σ Q h s θ δ r Qc k => by
  obtain ⟨b, hv, po, hq⟩ := h
  obtain ⟨cc, ty, hc, hcell⟩ := cell_at r hy hl hv
  obtain ⟨e1, e2, e3⟩ := o.env
  refine wpAny_ListComp_free (cl := [(y, cc)]) (fun _ => true) (fun v y => ∃ a u, (∃ tk, v = Value.int a tk) ∧ y = Value.int (ptV t a b) u) (o.clos hc) e1 o.kind e2 e3 (range_src c hg ht hm r fun I h tk keep hI hlt hit => ?_) (fun _ => rfl)
  have cI : cc ≠ I := Nat.ne_of_lt (Nat.lt_of_lt_of_le hcell.lt hI)
  refine ⟨I, [I], [I], m, _, _, rfl, rng_walks c I m, by rw [sizeLine_eq]; lia, by simpa using hit, fun z hz => by simp at hz; rw [hz]; exact hlt, comp_quiet c o c.fo.kind hl hc ok po (hcell.keeps keep) cI, ?_⟩
  intro D h' tk' ys vs fD _ hp hvl hP hF hk
  have fr : ∀ {z}, h.get? z = none → s.heap.get? z = none := fun {z} e => by
    cases q : s.heap.get? z with
    | none => rfl
    | some o => rw [keep _ _ q] at e; cases e
  have hk' : ∀ z o, s.heap.get? z = some o → h'.get? z = some o := fun z o e => hk z o (fun q => absurd (List.mem_singleton.mp q) (Nat.ne_of_lt (Nat.lt_of_lt_of_le (Heap.lt_size e) hI))) (keep z o e)
  rw [show List.filter (fun _ => true) vs = vs from List.filter_eq_self.mpr fun _ _ => rfl] at hF
  have it := comp_items (C := C) (n := σ.length) (θ := θ) (h := s.heap) hvl (fun j v e => by obtain ⟨h1, tk, h2⟩ := hP j v e; exact ⟨h1, tk, by rw [h2]; congr 1; lia⟩) hF
  have b' := r.newListG (h' := h') (t := tk') (fr fD) hk' (by simpa using hp) it
  exact k _ _ _ _ _ _ hq b' ⟨by simp, by rw [ext1_new]⟩
theorem ok_acomp (c : Around' C F A X S n) {elt : PySem.Expr} {x y rn z : Str} {px pz np cp q pos spos : Pos} {kk m i j : Nat} {sc : Scope} {t : PT} (hz : F.ns[j]? = some z) (hzl : F.env.scope.names.lookup z = some .local) (hsw : swapsWith (.ListComp elt [⟨.Name x px, .Call (.Name rn np) [.Constant (.int m) kk q] [] cp, [], 0⟩] sc pos) (some (.Name z pz)) spos.line F.env = pure true)
    (hg : globX X rn = true) (ht : (rn, (true, "range")) ∈ X.T.bt) (hm : m < 2 ^ 24) (o : CompOk sc x y) (hy : F.ns[i]? = some y) (hl : F.env.scope.names.lookup y = some .cell) (ok : okPT x y t elt = true) :
    OkC C F A (.Assign [.Name z pz] (.ListComp elt [⟨.Name x px, .Call (.Name rn np) [.Constant (.int m) kk q] [] cp, [], 0⟩] sc pos) spos) (wpC C S (.asg j (.comp i m t))) := fun ρ σ Q h s θ δ r Qc k => by
  obtain ⟨b, hv, po, hq⟩ := h
  obtain ⟨cc, ty, hc, hcell⟩ := cell_at r hy hl hv
  obtain ⟨e1, e2, e3⟩ := o.env
  obtain ⟨mL, N⟩ := r.ns
  refine wpAny_Assign_ListComp_free (cl := [(y, cc)]) (fun _ => true) (fun v y => ∃ a u, (∃ tk, v = Value.int a tk) ∧ y = Value.int (ptV t a b) u) hsw (o.clos hc) e1 o.kind e2 e3 hzl (by rw [c.fo.kind]; rfl) (range_src c hg ht hm r fun I h tk keep hI hlt hit => ?_) (fun _ => rfl)
  have cI : cc ≠ I := Nat.ne_of_lt (Nat.lt_of_lt_of_le hcell.lt hI)
  have LI : F.L ≠ I := Nat.ne_of_lt (Nat.lt_of_lt_of_le r.size hI)
  refine ⟨I, [I], [I], m, _, _, mL, rfl, rng_walks c I m, by rw [sizeLine_eq]; lia, by simpa using hit, fun z hz => by simp at hz; rw [hz]; exact hlt, by rw [c.fo.loc]; simpa using LI, by rw [c.fo.loc]; exact N.keeps keep, comp_quiet c o c.fo.kind hl hc ok po (hcell.keeps keep) cI, ?_⟩
  intro D h' tk' ys vs fD _ hp hvl hP hF hN hk
  have fr : s.heap.get? D = none := by
    cases q : s.heap.get? D with
    | none => rfl
    | some o => have := keep _ _ q; rw [show h.get? D = none from fD] at this; cases this
  obtain ⟨oL, es, ep, eL, eD, eR⟩ := id N
  rw [c.fo.loc] at hN hk
  obtain ⟨oN, esN, epN, eLN, eDN, eRN⟩ := id hN
  have LD : F.L ≠ D := fun q => by rw [← q, eL] at fr; cases fr
  have sb : Heap.SameBut F.L h' (h'.update F.L fun _ => oL) := Heap.SameBut.update ..
  have gL : (h'.update F.L fun _ => oL).get? F.L = some oL := Heap.get?_update_self _ eLN (Obj.isFreed_of_dict eD)
  have kp : ∀ z o, s.heap.get? z = some o → (h'.update F.L fun _ => oL).get? z = some o := fun z o e => by
    by_cases q : z = F.L
    · rw [q] at e ⊢
      rw [gL]; rw [eL] at e; exact e
    · rw [sb.2 z q]
      exact hk z o q (fun q => absurd (List.mem_singleton.mp q) (Nat.ne_of_lt (Nat.lt_of_lt_of_le (Heap.lt_size e) hI))) (keep z o e)
  have hp' : (h'.update F.L fun _ => oL).PlainList D ys.toList.toArray := by obtain ⟨nn, e⟩ := hp; exact ⟨nn, by rw [sb.2 D (Ne.symm LD)]; simpa using e⟩
  rw [show List.filter (fun _ => true) vs = vs from List.filter_eq_self.mpr fun _ _ => rfl] at hF
  have it := comp_items (C := C) (n := σ.length) (θ := θ) (h := s.heap) hvl (fun j v e => by obtain ⟨h1, tk, h2⟩ := hP j v e; exact ⟨h1, tk, by rw [h2]; congr 1; lia⟩) hF
  have b₁ := r.newListG (t := tk') fr kp hp' it
  have b₂ := b₁.r.store (h' := h') (t := tk') (v := .lst σ.length) (val := .ref D) c.fo hz hzl (show _ ∧ _ from ⟨by simp, by rw [ext1_new]⟩) (fun m N' => ?_) ⟨sb.1.symm, fun z q => (sb.2 z q).symm⟩
  · exact k _ _ _ _ _ _ _ hq (b₁.trans b₂) rfl
  · have : m = mL := N'.eq_nsMap.trans (Heap.Ns.eq_nsMap (h := h'.update F.L fun _ => oL) ⟨oL, es, ep, gL, eD, eR⟩).symm
    rw [this]; exact hN
end
end Mine.Py
end
section
open PySem PySem.W PyProof.Rows PySem.Calls
namespace Mine.Py
open Mine.Dx
section
variable (X : Sx)
noncomputable def kwIs (k : Keyword) (x : Str) : Option PySem.Expr := match k with
  | ⟨some y, e, _⟩ => if y == x then some e else none
  | _ => none
theorem kwIs_eq {k : Keyword} {x : Str} {e : PySem.Expr} (h : kwIs k x = some e) : ∃ p, k = ⟨some x, e, p⟩ := by
  obtain ⟨a, e', p⟩ := k
  cases a with
  | none => cases h
  | some y =>
    have h : (if y == x then some e' else none) = some e := h
    by_cases q : (y == x) = true
    · rw [if_pos q] at h; cases h; rw [beq_iff_eq.mp q]; exact ⟨p, rfl⟩
    · rw [if_neg q] at h; cases h
noncomputable def okComp (i m : Nat) (t : PT) (e : PySem.Expr) : Bool := (exLc e).any fun z => (one z.2.1).any fun g => g.ifs.isEmpty && decide (0 = g.is_async) && (exN g.target).any fun x => (exCall g.iter).any fun w => (exN w.1).any (fun rn => globX X rn && memP rn (true, "range") X.T.bt) && (one w.2.1).any (fun k => isK k m) && w.2.2.1.isEmpty && Nat.blt m 16777216 &&
    (X.ns[i]?).any fun y => compScope z.2.2 x y && X.sc.names.lookup y == some .cell && okPT x y t z.1
mutual
noncomputable def okT : Tm → PySem.Expr → Bool
  | .c a, e => (exC e).any (constIs a)
  | .s x, e => (exC e).any fun c => (cS c).any (x == ·)
  | .v i, e => isLoc X i e
  | .fld i f, e => (exA e).any fun y => isLoc X i y.1 && isAt X.attrs f y.2.1
  | .cat i a r, e => (exA e).any fun y => isLoc X i y.1 && a == y.2.1 && memP a r X.T.ct
  | .bm i a f, e => (exA e).any fun y => isLoc X i y.1 && a == y.2.1 && memP a f X.T.mt
  | .bin op a b, e => (exBin e).any fun y => decide (op = y.1) && okT a y.2.1 && okT b y.2.2
  | .inv a, e => (exUn e).any fun y => decide (UnaryOp.Invert = y.1) && okT a y.2
  | .neg a, e => (exUn e).any fun y => decide (UnaryOp.USub = y.1) && okT a y.2
  | .cmp op a b, e => (exCmp e).any fun y => (one y.2.1).any (fun o => decide (op = o)) && (one y.2.2).any fun r => !behindInMarks op r && okT a y.1 && okT b r
  | .idx a b, e => (exSub e).any fun y => noSlice y.2 && okT a y.1 && okT b y.2
  | .mc i a f as, e => (exCall e).any fun y => (exA y.1).any (fun z => isLoc X i z.1 && a == z.2.1 && z.2.2.endLine == y.2.2.2.line) && memP a f X.T.mt && Nat.blt f 300 && y.2.1.all noStar && y.2.2.1.isEmpty && Nat.blt y.2.1.length 30 && okTs as y.2.1
  | .vc i as, e => (exCall e).any fun y => isLoc X i y.1 && y.2.1.all noStar && y.2.2.1.isEmpty && okTs as y.2.1
  | .tc t as, e => (exCall e).any fun y => subCallee y.1 && y.2.1.all noStar && y.2.2.1.isEmpty && okT t y.1 && okTs as y.2.1
  | .gc a f as, e => (exCall e).any fun y => (exN y.1).any (fun x => a == x && globX X x) && memP a f X.T.gt && Nat.blt f 300 && y.2.1.all noStar && y.2.2.1.isEmpty && okTs as y.2.1
  | .ite t a b, e => (exIf e).any fun y => okB t y.1 && okT a y.2.1 && okT b y.2.2
  | .and _ _, _ => false
  | .or a b, e => (exBo e).any fun y => decide (BoolOp.Or = y.1) && (two y.2).any fun z => okT a z.1 && okT b z.2
  | .tup as, e => (exTup e).any fun y => okTs as y.1
  | .lst as, e => (exLst e).any fun y => okTs as y
  | .cut a hi, e => (exSub e).any fun y => okT a y.1 && (exSl y.2).any fun z => z.1.isNone && z.2.2.isNone && (match hi with
    | none => z.2.1.isNone
    | some n => z.2.1.any fun u => isK u n)
  | .leq a b, e => (exCmp e).any fun y => (one y.2.1).any (fun o => decide (CmpOp.Eq = o)) && (one y.2.2).any fun r => !behindInMarks .Eq r && okT a y.1 && okT b r
  | .new a b, e => (exCall e).any fun y => (exN y.1).any (fun x => globX X x && memP x 300 X.T.gt) && y.2.1.isEmpty && (two y.2.2.1).any fun z => (kwIs z.1 "memory").any (fun u => okT a u) && (kwIs z.2 "pc").any fun u => okT b u
  | .len a, e => (exCall e).any fun y => (exN y.1).any (fun x => globX X x && memP x (false, "len") X.T.bt) && y.2.2.1.isEmpty && (one y.2.1).any fun u => noStar u && okT a u
  | .pop i, e => (exCall e).any fun y => (exA y.1).any (fun z => isLoc X i z.1 && ("pop" : Str) == z.2.1 && z.2.2.endLine == y.2.2.2.line) && y.2.1.isEmpty && y.2.2.1.isEmpty
  | .comp i m t, e => okComp X i m t e
  | .and3 a b c, e => (exBo e).any fun y => decide (BoolOp.And = y.1) && (three y.2).any fun z => okT a z.1 && okT b z.2.1 && okT c z.2.2
noncomputable def okTs : Ts → List PySem.Expr → Bool
  | .nil, [] => true
  | .cons t r, e :: es => noStar e && okT t e && okTs r es
  | _, _ => false
noncomputable def okB : Tm → PySem.Expr → Bool
  | .cmp op a b, e => (exCmp e).any fun y => (one y.2.1).any (fun o => decide (op = o)) && (one y.2.2).any fun r => !behindInMarks op r && okT a y.1 && okT b r
  | .v i, e => isLoc X i e
  | .fld i f, e => (exA e).any fun y => isLoc X i y.1 && isAt X.attrs f y.2.1
  | .bin op a b, e => (exBin e).any fun y => decide (op = y.1) && okT a y.2.1 && okT b y.2.2
  | .gc a f as, e => (exCall e).any fun y => (exN y.1).any (fun x => a == x && globX X x) && memP a f X.T.gt && Nat.blt f 300 && y.2.1.all noStar && y.2.2.1.isEmpty && okTs as y.2.1
  | _, _ => false
end
end
section
variable {C : Cfg} {F : Fm} {A : Around} {X : Sx} {S : Nat → Spec} {n : Nat}
theorem kw_el {k : Keyword} {x : Str} {M : Keyword → Prop} {p : PySem.Expr → Bool} (h : (kwIs k x).any p = true) (f : ∀ e z, p e = true → M ⟨some x, e, z⟩) : M k := elO h fun _ q r => (kwIs_eq q).elim fun z q => q ▸ f _ z r
theorem comp_el (c : Around' C F A X S n) {i m : Nat} {t : PT} {e : PySem.Expr} {M : PySem.Expr → Prop} (h : okComp X i m t e = true) (f : ∀ elt x y rn px np cp q pos kk sc, globX X rn = true → (rn, (true, "range")) ∈ X.T.bt → m < 2 ^ 24 → CompOk sc x y → F.ns[i]? = some y → F.env.scope.names.lookup y = some .cell → okPT x y t elt = true → M (.ListComp elt [⟨.Name x px, .Call (.Name rn np) [.Constant (.int m) kk q] [] cp, [], 0⟩] sc pos)) : M e :=
  elLc h fun elt gs sc pos h => one_el (M := fun gs => M (.ListComp elt gs sc pos)) h fun ⟨tg, it, ifs, as⟩ h =>
  emp_el (M := fun ifs => M (.ListComp elt [⟨tg, it, ifs, as⟩] sc pos)) (l2 (l2 h)) <| eqd (M := fun as => M (.ListComp elt [⟨tg, it, [], as⟩] sc pos)) (r2 (l2 h)) <|
  elN (M := fun tg => M (.ListComp elt [⟨tg, it, [], 0⟩] sc pos)) (r2 h) fun x px h => elCall (M := fun it => M (.ListComp elt [⟨.Name x px, it, [], 0⟩] sc pos)) h fun g es ks cp h =>
  elN (M := fun g => M (.ListComp elt [⟨.Name x px, .Call g es ks cp, [], 0⟩] sc pos)) (l2 (l2 (l2 (l2 h)))) fun rn np a => one_el (M := fun es => M (.ListComp elt [⟨.Name x px, .Call (.Name rn np) es ks cp, [], 0⟩] sc pos)) (r2 (l2 (l2 (l2 h)))) fun k b =>
  K_el (M := fun k => M (.ListComp elt [⟨.Name x px, .Call (.Name rn np) [k] ks cp, [], 0⟩] sc pos)) b fun kk q => emp_el (M := fun ks => M (.ListComp elt [⟨.Name x px, .Call (.Name rn np) [.Constant (.int m) kk q] ks cp, [], 0⟩] sc pos)) (r2 (l2 (l2 h))) <|
  elO (r2 h) fun y d e => f elt x y rn px np cp q pos kk sc (l2 a) (memP_mem (r2 a)) (Nat.blt_eq.mp (r2 (l2 h))) (compOk (l2 (l2 e))) (c.ns ▸ d) (c.sc ▸ eq_of_beq (r2 (l2 e))) (r2 e)
noncomputable def Gd (C : Cfg) (F : Fm) (A : Around) (S : Nat → Spec) (t : Tm) (e : PySem.Expr) : Prop := OkT C F A e (wpT C S t)
noncomputable def GT (C : Cfg) (F : Fm) (A : Around) (S : Nat → Spec) (X : Sx) (t : Tm) : Prop := (∀ e, okT X t e = true → Gd C F A S t e) ∧ ∀ e, okB X t e = true → OkB C F A e (wpB C S t)
noncomputable def GTs (C : Cfg) (F : Fm) (A : Around) (S : Nat → Spec) (X : Sx) (ts : Ts) : Prop := ∀ es, okTs X ts es = true → OkTs C F A es (wpTs C S ts)
theorem gn {t : Tm} (h : ∀ e, okT X t e = true → Gd C F A S t e) (k : ∀ e, okB X t e = false) : GT C F A S X t := ⟨h, fun e q => by rw [k e] at q; cases q⟩
section
variable (c : Around' C F A X S n)
include c
theorem g_s (x : Str) : GT C F A S X (.s x) := gn (fun e h => elC (M := Gd C F A S (.s x)) h fun k kk z q => elO q fun y r s => eqb (M := fun y => cS k = some y → Gd C F A S (.s x) (.Constant k kk z)) s (fun r => cS_eq r ▸ okc_str) r) fun _ => rfl
theorem g_v (i : Nat) : GT C F A S X (.v i) := ⟨fun e h => loc_el c (M := Gd C F A S (.v i)) h fun x p hx => ok_v c.fo hx, fun e h => loc_el c (M := fun e => OkB C F A e (wpB C S (.v i))) h fun x p hx ρ σ Q q => okb_of (ok_v (S := S) c.fo hx) rfl ρ σ Q q⟩
theorem a_fld {i f : Nat} {e : PySem.Expr} {M : PySem.Expr → Prop} (h : okT X (.fld i f) e = true) (k : ∀ x a z p, F.ns[i]? = some x → C.attrs[f]? = some a → M (.Attribute (.Name x z) a p)) : M e :=
  elA h fun e' a p q => loc_el c (M := fun e => M (.Attribute e a p)) (l2 q) fun x z hx => k x a z p hx (c.at' ▸ isAt_eq (r2 q))
theorem g_fld (i f : Nat) : GT C F A S X (.fld i f) := ⟨fun e h => a_fld c (M := Gd C F A S (.fld i f)) h fun _ _ _ _ hx ha => ok_fld c.fo c.co hx ha, fun e h => a_fld c (M := fun e => OkB C F A e (wpB C S (.fld i f))) h fun x a z p hx ha => okb_of (W := wpT C S (.fld i f)) (ok_fld c.fo c.co hx ha) rfl⟩
theorem g_cat (i : Nat) (a : Str) (r : AV) : GT C F A S X (.cat i a r) := gn (fun e h => elA (M := Gd C F A S (.cat i a r)) h fun e' a' p q => loc_el c (M := fun e => Gd C F A S (.cat i a r) (.Attribute e a' p)) (l2 (l2 q)) fun x z hx => eqb (M := fun a' => Gd C F A S (.cat i a r) (.Attribute (.Name x z) a' p)) (r2 (l2 q)) (ok_cat c.fo c.co hx (memP_mem (r2 q)))) fun _ => rfl
theorem g_bm (i : Nat) (a : Str) (f : Nat) : GT C F A S X (.bm i a f) := gn (fun e h => elA (M := Gd C F A S (.bm i a f)) h fun e' a' p q => loc_el c (M := fun e => Gd C F A S (.bm i a f) (.Attribute e a' p)) (l2 (l2 q)) fun x z hx => eqb (M := fun a' => Gd C F A S (.bm i a f) (.Attribute (.Name x z) a' p)) (r2 (l2 q)) (ok_bm c.fo c.co hx (memP_mem (r2 q)))) fun _ => rfl
omit c in
theorem a_bin {op : Operator} {a b : Tm} {e : PySem.Expr} {M : PySem.Expr → Prop} (h : okT X (.bin op a b) e = true) (k : ∀ l r p, okT X a l = true → okT X b r = true → M (.BinOp l op r p)) : M e :=
  elBin h fun op' l r p q => eqd (M := fun op' => M (.BinOp l op' r p)) (l2 (l2 q)) (k l r p (r2 (l2 q)) (r2 q))
omit c in
theorem g_bin (op : Operator) (a b : Tm) (ha : GT C F A S X a) (hb : GT C F A S X b) : GT C F A S X (.bin op a b) :=
  ⟨fun e h => a_bin (M := Gd C F A S (.bin op a b)) h fun l r p u w => ok_bin (ha.1 l u) (hb.1 r w), fun e h => a_bin (M := fun e => OkB C F A e (wpB C S (.bin op a b))) h fun l r p u w => okb_of (W := wpT C S (.bin op a b)) (ok_bin (ha.1 l u) (hb.1 r w)) rfl⟩
omit c in
theorem g_inv (a : Tm) (ha : GT C F A S X a) : GT C F A S X (.inv a) := gn (fun e h => elUn (M := Gd C F A S (.inv a)) h fun op l p q => eqd (M := fun op => Gd C F A S (.inv a) (.UnaryOp op l p)) (l2 q) (ok_inv (ha.1 l (r2 q)))) fun _ => rfl
omit c in
theorem g_neg (a : Tm) (ha : GT C F A S X a) : GT C F A S X (.neg a) := gn (fun e h => elUn (M := Gd C F A S (.neg a)) h fun op l p q => eqd (M := fun op => Gd C F A S (.neg a) (.UnaryOp op l p)) (l2 q) (ok_neg (ha.1 l (r2 q)))) fun _ => rfl
omit c in
theorem a_cmp {op : CmpOp} {a b : Tm} {e : PySem.Expr} {M : PySem.Expr → Prop} (h : (exCmp e).any (fun y => (one y.2.1).any (fun o => decide (op = o)) && (one y.2.2).any fun r => !behindInMarks op r && okT X a y.1 && okT X b r) = true) (k : ∀ l r p, behindInMarks op r = false → okT X a l = true → okT X b r = true → M (.Compare l [op] [r] p)) : M e :=
  elCmp h fun l ops rs p q => one_el (M := fun ops => M (.Compare l ops rs p)) (l2 q) fun o d => eqd (M := fun o => M (.Compare l [o] rs p)) d <| one_el (M := fun rs => M (.Compare l [op] rs p)) (r2 q) fun r w => k l r p (by simpa using l2 (l2 w)) (r2 (l2 w)) (r2 w)
theorem g_cmp (op : CmpOp) (a b : Tm) (ha : GT C F A S X a) (hb : GT C F A S X b) : GT C F A S X (.cmp op a b) :=
  ⟨fun e h => a_cmp (M := Gd C F A S (.cmp op a b)) h fun l r p m u w => ok_cmp c.low m (ha.1 l u) (hb.1 r w), fun e h => a_cmp (M := fun e => OkB C F A e (wpB C S (.cmp op a b))) h fun l r p m u w => okb_cmp c.low m (ha.1 l u) (hb.1 r w)⟩
theorem g_leq (a b : Tm) (ha : GT C F A S X a) (hb : GT C F A S X b) : GT C F A S X (.leq a b) := gn (fun e h => a_cmp (M := Gd C F A S (.leq a b)) h fun l r p m u w => ok_leq c.low m (ha.1 l u) (hb.1 r w)) fun _ => rfl
omit c in
theorem g_idx (a b : Tm) (ha : GT C F A S X a) (hb : GT C F A S X b) : GT C F A S X (.idx a b) := gn (fun e h => elSub (M := Gd C F A S (.idx a b)) h fun l r p q => ok_idx (l2 (l2 q)) (ha.1 l (r2 (l2 q))) (hb.1 r (r2 q))) fun _ => rfl
theorem a_att {i : Nat} {a : Str} {e : PySem.Expr} {u : Nat} {M : PySem.Expr → Prop} (h : (exA e).any (fun z => isLoc X i z.1 && a == z.2.1 && z.2.2.endLine == u) = true) (k : ∀ x z p, F.ns[i]? = some x → (p.endLine == u) = true → M (.Attribute (.Name x z) a p)) : M e :=
  elA h fun e' a' p q => loc_el c (M := fun e => M (.Attribute e a' p)) (l2 (l2 q)) fun x z hx => eqb (M := fun a' => M (.Attribute (.Name x z) a' p)) (r2 (l2 q)) (k x z p hx (r2 q))
theorem g_mc (i : Nat) (a : Str) (f : Nat) (as : Ts) (ha : GTs C F A S X as) : GT C F A S X (.mc i a f as) := gn (fun e h => elCall (M := Gd C F A S (.mc i a f as)) h fun g es ks p q =>
  a_att c (M := fun g => Gd C F A S (.mc i a f as) (.Call g es ks p)) (l2 (l2 (l2 (l2 (l2 (l2 q)))))) fun x z p' hx hl => emp_el (M := fun ks => Gd C F A S (.mc i a f as) (.Call (.Attribute (.Name x z) a p') es ks p)) (r2 (l2 (l2 q)))
  (ok_mc c.fo c.co c.so c.room (Nat.blt_eq.mp (r2 (l2 (l2 (l2 (l2 q)))))) hx (memP_mem (r2 (l2 (l2 (l2 (l2 (l2 q))))))) (r2 (l2 (l2 (l2 q)))) hl (Nat.blt_eq.mp (r2 (l2 q))) (ha es (r2 q)))) fun _ => rfl
theorem g_vc (i : Nat) (as : Ts) (ha : GTs C F A S X as) : GT C F A S X (.vc i as) := gn (fun e h => elCall (M := Gd C F A S (.vc i as)) h fun g es ks p q => loc_el c (M := fun g => Gd C F A S (.vc i as) (.Call g es ks p)) (l2 (l2 (l2 q))) fun x z hx => emp_el (M := fun ks => Gd C F A S (.vc i as) (.Call (.Name x z) es ks p)) (r2 (l2 q)) (ok_vc c.fo c.so c.room hx (r2 (l2 (l2 q))) (ha es (r2 q)))) fun _ => rfl
theorem g_tc (t : Tm) (as : Ts) (ht : GT C F A S X t) (ha : GTs C F A S X as) : GT C F A S X (.tc t as) := gn (fun e h => elCall (M := Gd C F A S (.tc t as)) h fun g es ks p q => emp_el (M := fun ks => Gd C F A S (.tc t as) (.Call g es ks p)) (r2 (l2 (l2 q))) (ok_tc c.so c.room (l2 (l2 (l2 (l2 q)))) (r2 (l2 (l2 (l2 q)))) (ht.1 g (r2 (l2 q))) (ha es (r2 q)))) fun _ => rfl
theorem a_gc {a : Str} {f : Nat} {as : Ts} {e : PySem.Expr} {M : PySem.Expr → Prop} (h : okT X (.gc a f as) e = true) (k : ∀ z es p, glob F a = true → (a, f) ∈ X.T.gt → f < 300 → es.all noStar = true → okTs X as es = true → M (.Call (.Name a z) es [] p)) : M e :=
  elCall h fun g es ks p q => elN (M := fun g => M (.Call g es ks p)) (l2 (l2 (l2 (l2 (l2 q))))) fun x z r => eqb (M := fun x => M (.Call (.Name x z) es ks p)) (l2 r) <| emp_el (M := fun ks => M (.Call (.Name a z) es ks p)) (r2 (l2 q)) <|
  k z es p (eqb (M := fun x => globX X x = true → glob F a = true) (l2 r) (glob_eq c) (r2 r)) (memP_mem (r2 (l2 (l2 (l2 (l2 q)))))) (Nat.blt_eq.mp (r2 (l2 (l2 (l2 q))))) (r2 (l2 (l2 q))) (r2 q)
theorem g_gc (a : Str) (f : Nat) (as : Ts) (ha : GTs C F A S X as) : GT C F A S X (.gc a f as) :=
  ⟨fun e h => a_gc c (M := Gd C F A S (.gc a f as)) h fun z es p hx hm hf hs ho => ok_gc c.fo c.co c.so c.room hf hx hm hs (ha es ho), fun e h => a_gc c (M := fun e => OkB C F A e (wpB C S (.gc a f as))) h fun z es p hx hm hf hs ho => okb_of (W := wpT C S (.gc a f as)) (ok_gc c.fo c.co c.so c.room hf hx hm hs (ha es ho)) rfl⟩
omit c in
theorem g_ite (t a b : Tm) (ht : GT C F A S X t) (ha : GT C F A S X a) (hb : GT C F A S X b) : GT C F A S X (.ite t a b) := gn (fun e h => elIf (M := Gd C F A S (.ite t a b)) h fun e l r p q => ok_ite (ht.2 e (l2 (l2 q))) (ha.1 l (r2 (l2 q))) (hb.1 r (r2 q))) fun _ => rfl
omit c in
theorem g_or (a b : Tm) (ha : GT C F A S X a) (hb : GT C F A S X b) : GT C F A S X (.or a b) := gn (fun e h => elBo (M := Gd C F A S (.or a b)) h fun op es p q => eqd (M := fun op => Gd C F A S (.or a b) (.BoolOp op es p)) (l2 q) <| two_el (M := fun es => Gd C F A S (.or a b) (.BoolOp .Or es p)) (r2 q) fun l r q => ok_or (ha.1 l (l2 q)) (hb.1 r (r2 q))) fun _ => rfl
omit c in
theorem g_and3 (a b d : Tm) (ha : GT C F A S X a) (hb : GT C F A S X b) (hd : GT C F A S X d) : GT C F A S X (.and3 a b d) := gn (fun e h => elBo (M := Gd C F A S (.and3 a b d)) h fun op es p q => eqd (M := fun op => Gd C F A S (.and3 a b d) (.BoolOp op es p)) (l2 q) <| three_el (M := fun es => Gd C F A S (.and3 a b d) (.BoolOp .And es p)) (r2 q) fun l r z q => ok_and3 (ha.1 l (l2 (l2 q))) (hb.1 r (r2 (l2 q))) (hd.1 z (r2 q))) fun _ => rfl
omit c in
theorem g_tup (as : Ts) (ha : GTs C F A S X as) : GT C F A S X (.tup as) := gn (fun e h => elTup (M := Gd C F A S (.tup as)) h fun es k p q => ok_tup (ha es q)) fun _ => rfl
omit c in
theorem g_lst (as : Ts) (ha : GTs C F A S X as) : GT C F A S X (.lst as) := gn (fun e h => elLst (M := Gd C F A S (.lst as)) h fun es p q => ok_lst (ha es q)) fun _ => rfl
omit c in
theorem g_cut (a : Tm) (hi : Option Nat) (ha : GT C F A S X a) : GT C F A S X (.cut a hi) := gn (fun e h => elSub (M := Gd C F A S (.cut a hi)) h fun v sl p q => elSl (M := fun sl => Gd C F A S (.cut a hi) (.Subscript v sl p)) (r2 q) fun lo up st p' r =>
  non_el (M := fun lo => Gd C F A S (.cut a hi) (.Subscript v (.Slice lo up st p') p)) (l2 (l2 r)) <| non_el (M := fun st => Gd C F A S (.cut a hi) (.Subscript v (.Slice none up st p') p)) (r2 (l2 r)) <| ok_cut (by
    have h6 := r2 r
    cases hi with
    | none => exact Option.isNone_iff_eq_none.mp h6
    | some n => exact some_el (M := fun up => ∃ k q, up = some (.Constant (.int n) k q)) h6 fun u h => K_el (M := fun u => ∃ k q, some u = some (.Constant (.int n) k q)) h fun k q => ⟨k, q, rfl⟩) (ha.1 v (l2 q))) fun _ => rfl
theorem g_new (a b : Tm) (ha : GT C F A S X a) (hb : GT C F A S X b) : GT C F A S X (.new a b) := gn (fun e h => elCall (M := Gd C F A S (.new a b)) h fun g es ks p q => elN (M := fun g => Gd C F A S (.new a b) (.Call g es ks p)) (l2 (l2 q)) fun x z r => emp_el (M := fun es => Gd C F A S (.new a b) (.Call (.Name x z) es ks p)) (r2 (l2 q)) <|
  two_el (M := fun ks => Gd C F A S (.new a b) (.Call (.Name x z) [] ks p)) (r2 q) fun k1 k2 s => kw_el (M := fun k1 => Gd C F A S (.new a b) (.Call (.Name x z) [] [k1, k2] p)) (l2 s) fun u z1 h1 => kw_el (M := fun k2 => Gd C F A S (.new a b) (.Call (.Name x z) [] [_, k2] p)) (r2 s) fun w z2 h2 =>
  ok_new c.fo c.co c.so c.room (glob_eq c (l2 r)) (memP_mem (r2 r)) (ha.1 u h1) (hb.1 w h2)) fun _ => rfl
theorem g_len (a : Tm) (ha : GT C F A S X a) : GT C F A S X (.len a) := gn (fun e h => elCall (M := Gd C F A S (.len a)) h fun g es ks p q => elN (M := fun g => Gd C F A S (.len a) (.Call g es ks p)) (l2 (l2 q)) fun x z s => emp_el (M := fun ks => Gd C F A S (.len a) (.Call (.Name x z) es ks p)) (r2 (l2 q)) <|
  one_el (M := fun es => Gd C F A S (.len a) (.Call (.Name x z) es [] p)) (r2 q) fun u w => ok_len c.fo c.co (by rw [starEach_cons (l2 w), arm_starEach_nil]) (fun r q => ld_blt c.fo c.co r (glob_eq c (l2 s)) (memP_mem (r2 s)) q) (ha.1 u (r2 w))) fun _ => rfl
theorem g_pop (i : Nat) : GT C F A S X (.pop i) := gn (fun e h => elCall (M := Gd C F A S (.pop i)) h fun g es ks p q => a_att c (M := fun g => Gd C F A S (.pop i) (.Call g es ks p)) (l2 (l2 q)) fun x z p' hx hl => emp_el (M := fun es => Gd C F A S (.pop i) (.Call _ es ks p)) (r2 (l2 q)) <| emp_el (M := fun ks => Gd C F A S (.pop i) (.Call _ [] ks p)) (r2 q) (ok_pop c.fo hx hl)) fun _ => rfl
theorem g_comp (i m : Nat) (t : PT) : GT C F A S X (.comp i m t) := gn (fun e h => comp_el c (M := Gd C F A S (.comp i m t)) h fun _ _ _ _ _ _ _ _ _ _ _ a1 a2 a3 a4 a5 a6 a7 => ok_comp c a1 a2 a3 a4 a5 a6 a7) fun _ => rfl
omit c in
theorem gs_nil : GTs C F A S X .nil := fun es h => match es, h with
  | [], _ => ok_nil
omit c in
theorem gs_cons (t : Tm) (r : Ts) (ht : GT C F A S X t) (hr : GTs C F A S X r) : GTs C F A S X (.cons t r) := fun es h => match es, h with
  | e :: es, h => ok_cons (l2 (l2 h)) (ht.1 e (r2 (l2 h))) (hr es (r2 h))
theorem sound (t : Tm) : GT C F A S X t := Tm.rec (motive_1 := GT C F A S X) (motive_2 := GTs C F A S X) (fun a => gn (fun _ => const_ok) fun _ => rfl) (g_s c) (g_v c) (g_fld c) (g_cat c) (g_bm c) g_bin g_inv g_neg (g_cmp c) g_idx (g_mc c) (g_vc c) (g_tc c) (g_gc c) g_ite (fun a b _ _ => gn (fun _ h => nomatch h) fun _ => rfl) g_or g_tup g_lst g_cut (g_leq c) (g_new c) (g_len c) (g_pop c) (g_comp c) g_and3 gs_nil gs_cons t
theorem okT_sound (t : Tm) (e : PySem.Expr) (h : okT X t e = true) : OkT C F A e (wpT C S t) := (sound c t).1 e h
theorem okB_sound (t : Tm) (e : PySem.Expr) (h : okB X t e = true) : OkB C F A e (wpB C S t) := (sound c t).2 e h
end
end
end Mine.Py
end
section
open PySem PySem.W PyProof.Rows PySem.Calls
namespace Mine.Py
open Mine.Dx
section
variable {C : Cfg} {F : Fm} {A : Around} {X : Sx} {S : Nat → Spec} {n : Nat}
noncomputable def BindsL (C : Cfg) (F : Fm) (A : Around) (t : Value → Sem Unit) (i : Nat) : Prop :=
  ∀ ρ σ θ δ s v val, R C F ρ σ θ δ s → Val C s.heap σ.length θ v val → ∀ Q : Unit → Shared → Prop, (∀ s', Back C F (ρ.set i (some v)) σ θ δ s σ θ δ s' → Q () s') → wpAny (model C.P C.w) A (t val) Q E0 s
theorem binds_name (fo : FmOk F) {i : Nat} {x : Str} (hx : F.ns[i]? = some x) (hs : F.env.scope.names.lookup x = some .local) : BindsL C F A (fun v => bindName F.env x v) i := fun ρ σ θ δ s v val r V Q q => wpAny_bindName (st_loc fo r hx hs V q)
theorem binds_assign (fo : FmOk F) {i : Nat} {x : Str} {p : Pos} (hx : F.ns[i]? = some x) (hs : F.env.scope.names.lookup x = some .local) : BindsL C F A (PySem.assign (.Name x p) F.env) i := fun ρ σ θ δ s v val r V Q q => by
  show wpAny (model C.P C.w) A (do standAt p; bindName F.env x val) Q E0 s
  exact wpAny_bind (wpAny_standAt (wpAny_bindName (st_loc fo r hx hs V q)))
theorem in_order : ∀ {ts : List (Value → Sem Unit)} {is : List Nat} {l : List At} {vals : List Value} {ρ : Loc} {σ : St} {θ δ : Nat → Nat} {s : Shared}, All2 (BindsL C F A) ts is → All2 (AtV σ.length θ) l vals → l.length = is.length → R C F ρ σ θ δ s → ∀ Q : Unit → Shared → Prop, (∀ s', Back C F (setAll ρ is l) σ θ δ s σ θ δ s' → Q () s') →
    wpAny (model C.P C.w) A (assignInOrder ts vals) Q E0 s := by
  intro ts
  induction ts with
  | nil =>
    intro is l vals ρ σ θ δ s B V hl r Q q
    cases B
    cases V with
    | nil => exact wpAny_pure (q _ (.refl r))
    | cons _ _ => simp at hl
  | cons t ts ih =>
    intro is l vals ρ σ θ δ s B V hl r Q q
    cases B with
    | cons b B =>
      cases V with
      | nil => simp at hl
      | cons v V =>
        rename_i i is a x l xs
        show wpAny (model C.P C.w) A (do holding xs (t x); assignInOrder ts xs) Q E0 s
        refine wpAny_bind (wpAny_holding (b ρ σ θ δ s (.at a) x r v _ fun s' b' => ?_))
        exact ih B V (by simpa using hl) b'.r Q fun s'' b'' => q _ (b'.trans b'')
theorem tupIs {h : Heap} {t : Addr} {vs : List Value} (e : h.get? t = some (tupObj vs)) : IsTup h t vs.toArray := ⟨_, e, rfl, _, rfl⟩
theorem All2.rev {α β : Type} {P : α → β → Prop} {l : List α} {r : List β} (h : All2 P l r) : All2 P l.reverse r.reverse := by
  induction h with
  | nil => exact .nil
  | cons x _ ih => rw [List.reverse_cons, List.reverse_cons]; exact ih.app (.cons x .nil)
theorem after_iter {ρ : Loc} {σ : St} {θ δ : Nat → Nat} {s : Shared} {h' : Heap} (r : R C F ρ σ θ δ s) (x : Heap.ExtBut s.heap.objs.size s.heap h') : Back C F ρ σ θ δ s σ θ δ { s with heap := h' } :=
  r.grown (t := s.toks) fun b o e => x b o (Nat.ne_of_lt (Heap.lt_size e)) e
noncomputable def namesAre (X : Sx) : List PySem.Expr → List Nat → Bool
  | [], [] => true
  | e :: es, i :: is => isSto X i e && namesAre X es is
  | _, _ => false
theorem names_binds (c : Around' C F A X S n) : ∀ {es : List PySem.Expr} {is : List Nat}, namesAre X es is = true → All2 (BindsL C F A) ((assignEach es F.env).map (·.2)) is ∧ (assignEach es F.env).length = is.length ∧ (assignEach es F.env).findIdx? (·.1) = none
  | [], [], _ => ⟨.nil, rfl, rfl⟩
  | e :: es, i :: is, h => by
    have h : (isSto X i e && namesAre X es is) = true := h
    obtain ⟨x, p, rfl, hx, hs⟩ := isSto_eq c (l2 h)
    have ih := names_binds c (r2 h)
    rw [show assignEach (.Name x p :: es) F.env = (false, PySem.assign (.Name x p) F.env) :: assignEach es F.env from rfl]
    refine ⟨.cons (binds_assign c.fo hx hs) ih.1, congrArg (· + 1) ih.2.1, ?_⟩
    rw [List.findIdx?_cons, if_neg Bool.false_ne_true, ih.2.2]
    rfl
  | [], _ :: _, h => by cases h
  | _ :: _, [], h => by cases h
theorem ok_tas (c : Around' C F A X S n) {es : List PySem.Expr} {kk : Nat} {tp p : Pos} {e : PySem.Expr} {t : Tm} {is : List Nat} (hn : namesAre X es is = true) (hc : noComp e = true) (hw : swappedStores [.Tuple es kk tp] e F.env = pure none) (h₁ : OkT C F A e (wpT C S t)) :
    OkC C F A (.Assign [.Tuple es kk tp] e p) (wpC C S (.tas is t)) := fun ρ σ Q h s θ δ r Qc k => by
  refine Assign_Tuple (h₁ ρ σ _ h s θ δ r _ fun v σ₁ θ₁ δ₁ s₁ val hq b V => ?_) (by unfold swapsWithSole; exact swaps_plain hc) hw
  obtain ⟨l, rfl, hl, hq⟩ := hq
  obtain ⟨ta, vs, rfl, e1, AV⟩ := V
  obtain ⟨B, len, fi⟩ := names_binds c hn
  refine assign_Tuple_tuple c.room.2.2 (tupIs e1) (by rw [len, List.size_toArray, ← AV.length, hl]) fi fun h' x => ?_
  have b' := after_iter b.r x
  have b₂ := b.trans b'
  exact in_order B (by simpa using AV) hl b₂.r _ fun s' b'' => k _ _ _ _ _ _ _ hq (b₂.trans b'') rfl
noncomputable def strsAre (X : Sx) : List Str → List Nat → Bool
  | [], [] => true
  | x :: xs, i :: is => isAt X.ns i x && X.sc.names.lookup x == some .local && strsAre X xs is
  | _, _ => false
theorem strs_binds (c : Around' C F A X S n) : ∀ {xs : List Str} {is : List Nat}, strsAre X xs is = true → All2 (BindsL C F A) (xs.map fun nm => fun v => bindName F.env nm v) is ∧ xs.length = is.length
  | [], [], _ => ⟨.nil, rfl⟩
  | x :: xs, i :: is, h => by
    have h : (isAt X.ns i x && X.sc.names.lookup x == some .local && strsAre X xs is) = true := h
    have ih := strs_binds c (r2 h)
    exact ⟨.cons (binds_name c.fo (by rw [c.ns]; exact isAt_eq (l2 (l2 h))) (by rw [c.sc]; exact beq_iff_eq.mp (r2 (l2 h)))) ih.1, congrArg (· + 1) ih.2⟩
  | [], _ :: _, h => by cases h
  | _ :: _, [], h => by cases h
theorem ok_tar (c : Around' C F A X S n) {es : List PySem.Expr} {kk : Nat} {tp p : Pos} {e : PySem.Expr} {t : Tm} {is : List Nat} {xs : List Str} (hn : strsAre X xs is = true) (hc : noComp e = true) (hw : swappedStores [.Tuple es kk tp] e F.env = pure (some xs)) (h₁ : OkT C F A e (wpT C S t)) :
    OkC C F A (.Assign [.Tuple es kk tp] e p) (wpC C S (.tar is t)) := fun ρ σ Q h s θ δ r Qc k => by
  obtain ⟨B, len⟩ := strs_binds c hn
  refine Assign_Tuple_swapped (h₁ ρ σ _ h s θ δ r _ fun v σ₁ θ₁ δ₁ s₁ val hq b V => ?_) (by unfold swapsWithSole; exact swaps_plain hc) hw
  obtain ⟨l, rfl, hl, hq⟩ := hq
  obtain ⟨ta, vs, rfl, e1, AV⟩ := V
  have hsz : xs.length = vs.toArray.size := by rw [List.size_toArray, ← AV.length, hl, len]
  rw [hsz]
  refine unpackItems_tuple c.room.2.2 (tupIs e1) fun h' x => ?_
  have b' := after_iter b.r x
  have b₂ := b.trans b'
  have B' := B.rev
  rw [← List.map_reverse] at B'
  exact in_order B' (AV.rev) (by simp [hl]) b₂.r _ fun s' b'' => k _ _ _ _ _ _ _ hq (b₂.trans b'') rfl
noncomputable def OffFp (fp : Nat → Prop) (σ : St) (θ δ : Nat → Nat) : Prop := ∀ b, fp b → ∀ k, k < σ.length → θ k ≠ b ∧ δ k ≠ b
theorem R.off {fp : Nat → Prop} {ρ : Loc} {σ : St} {θ δ : Nat → Nat} {s : Shared} {h' : Heap} {t : Nat} (r : R C F ρ σ θ δ s) (hk : ∀ b o, s.heap.get? b = some o → ¬ fp b → h'.get? b = some o) (lo : ∀ b, fp b → ¬ C.Old b ∧ b ∉ F.own C) (off : OffFp fp σ θ δ)
    (ni : ∀ b o, fp b → s.heap.get? b = some o → ¬ Un o) : R C F ρ σ θ δ { s with heap := h', toks := t } :=
  r.beside (r.H.besides hk (fun b h => (lo b h).1) (fun k q => ⟨fun z => (off _ z k q).1 rfl, fun z => (off _ z k q).2 rfl⟩) fun b o h e i => ni b o h e i.un) (fun o e => hk _ _ e fun z => (lo _ z).2 (.tail _ (.head _))) fun b o e i => hk b o e fun z => ni b o z e i
structure Step (C : Cfg) (F : Fm) (fp : Nat → Prop) (ρ' : Loc) (σ : St) (θ δ : Nat → Nat) (s s' : Shared) : Prop where
  r : R C F ρ' σ θ δ s'
  kept : ∀ b o, s.heap.get? b = some o → ¬ fp b → b ∉ F.own C → (∀ k, k < σ.length → b ≠ θ k ∧ b ≠ δ k) → s'.heap.get? b = some o
theorem Step.back {fp : Nat → Prop} {ρ₁ ρ' : Loc} {σ₀ σ : St} {θ₀ δ₀ θ δ : Nat → Nat} {s₀ s s' : Shared} (b : Back C F ρ₁ σ₀ θ₀ δ₀ s₀ σ θ δ s) (st : Step C F fp ρ' σ θ δ s s') (nf : ∀ b, fp b → s₀.heap.get? b = none) : Back C F ρ' σ₀ θ₀ δ₀ s₀ σ θ δ s' := by
  refine ⟨st.r, fun a o e n1 n2 => st.kept a o (b.kept a o e n1 n2) (fun z => by rw [nf _ z] at e; cases e) n1 fun k hk => ?_, b.ext⟩
  by_cases q : k < σ₀.length
  · rw [(b.ext.2.1 k q).1, (b.ext.2.1 k q).2]; exact n2 k q
  · have := b.ext.2.2 k (Nat.not_lt.mp q) hk
    refine ⟨fun z => ?_, fun z => ?_⟩
    · rw [z, this.1] at e; cases e
    · rw [z, this.2] at e; cases e
structure ItOk (C : Cfg) (F : Fm) (A : Around) (target : PySem.Expr) (g : Tgt) (it : Addr) (fp : Nat → Prop) (Src : St → (Nat → Nat) → Heap → Prop) (xs : List AV) (St' : Nat → Heap → Prop) : Prop where
  keep : ∀ n h h', St' n h → (∀ b o, fp b → h.get? b = some o → h'.get? b = some o) → St' n h'
  there : ∀ n h b, St' n h → fp b → ∃ o, h.get? b = some o
  lo : ∀ b, fp b → ¬ C.Old b ∧ b ∉ F.own C
  item : ∀ n x ρ σ θ δ s Y, R C F ρ σ θ δ s → Src σ θ s.heap → St' n s.heap → OffFp fp σ θ δ → xs[n]? = some x → bindW g n x ρ Y → ∀ Q : Shared → Prop, (∀ ρ₂ s', Y ρ₂ → Step C F fp ρ₂ σ θ δ s s' → St' (n + 1) s'.heap → Q s') →
    wpAny (model C.P C.w) A (pyNext (.ref it)) (fun r s₁ => ∃ val, r = some val ∧ wpAny (model C.P C.w) A (letOwnedTupleGo target (.ref it) val) (fun _ s₂ => wpAny (model C.P C.w) A (PySem.assign target F.env val) (fun _ s₃ => Q s₃) E0 s₂) E0 s₁) E0 s
  done : ∀ n ρ σ θ δ s, R C F ρ σ θ δ s → Src σ θ s.heap → St' n s.heap → OffFp fp σ θ δ → xs[n]? = none → ∀ Q : Shared → Prop, (∀ s', Step C F fp ρ σ θ δ s s' → Q s') → wpAny (model C.P C.w) A (pyNext (.ref it)) (fun r s₁ => r = none ∧ Q s₁) E0 s
theorem loop_rule {target : PySem.Expr} {body : List Stmt} {cs : Cs} {g : Tgt} {it : Addr} {fp : Nat → Prop} {Src : St → (Nat → Nat) → Heap → Prop} {xs : List AV} {St' : Nat → Heap → Prop} (I : ItOk C F A target g it fp Src xs St') (hb : OkCs C F A body (wpCs C S cs))
    {ρ : Loc} {σ : St} {θ δ : Nat → Nat} {s₀ s : Shared} {Inv : Nat → Loc → St → Prop} {Q : Fl → Loc → St → Prop} (b : Back C F ρ σ θ δ s₀ σ θ δ s) (r₀ : R C F ρ σ θ δ s₀) (nf : ∀ b, fp b → s₀.heap.get? b = none) (off : OffFp fp σ θ δ) (hs : St' 0 s.heap) (i0 : Inv 0 ρ σ) (src : ∀ n ρ' σ' θ' δ' s', Inv n ρ' σ' → Back C F ρ' σ θ δ s₀ σ' θ' δ' s' → Src σ' θ' s'.heap)
    (inv : ∀ n ρ' σ', Inv n ρ' σ' → n ≤ xs.length →
      (∀ a, xs[n]? = some a → bindW g n a ρ' fun ρ₂ => wpCs C S cs ρ₂ σ' fun fl ρ₃ σ₃ => match fl with | .next => Inv (n + 1) ρ₃ σ₃ | .cont => Inv (n + 1) ρ₃ σ₃ | .brk => Q .next ρ₃ σ₃ | .ret v => Q (.ret v) ρ₃ σ₃) ∧ (n = xs.length → Q .next ρ' σ'))
    {Qc : Flow → Shared → Prop} (k : ∀ fl ρ' σ' θ' δ' s' f, Q fl ρ' σ' → Back C F ρ' σ θ δ s₀ σ' θ' δ' s' → FlV C s'.heap σ'.length θ' fl f → Qc f s') {EE : Value → Shared → Prop} :
    codeAny (model C.P C.w) A (.forLoop target (.ref it) body [] F.env) (fun r s' => match r with | .ok f => Qc f s' | .error e => EE e s') s := by
  let J : Nat → Shared → Prop := fun m s' => ∃ n ρ' σ' θ' δ', Inv n ρ' σ' ∧ Back C F ρ' σ θ δ s₀ σ' θ' δ' s' ∧ St' n s'.heap ∧ OffFp fp σ' θ' δ' ∧ n ≤ xs.length ∧ m = xs.length + 1 - n
  let G : Nat → Flow → Shared → Prop := fun n f s₃ => match f with
    | .next => ∃ m, m < xs.length + 1 - n ∧ J m s₃
    | .cont => ∃ m, m < xs.length + 1 - n ∧ J m s₃
    | .brk => Qc .next s₃
    | .ret v => Qc (.ret v) s₃
  refine codeAny_forLoop_any J ?_ (xs.length + 1) ⟨0, ρ, σ, θ, δ, i0, b, hs, off, Nat.zero_le _, rfl⟩
  rintro m s' ⟨n, ρ', σ', θ', δ', hi, b', st, off', hn, rfl⟩
  obtain ⟨turn, fin⟩ := inv n ρ' σ' hi hn
  have V' := src n ρ' σ' θ' δ' s' hi b'
  cases hx : xs[n]? with
  | none =>
    have hn' : n = xs.length := Nat.le_antisymm hn (by simpa using hx)
    refine wpAny_mono (I.done n ρ' σ' θ' δ' s' b'.r V' st off' hx (fun s₁ => Qc .next s₁) fun s₁ stp => k _ _ _ _ _ _ _ (fin hn') (stp.back b' nf) rfl) (fun r s₁ h => ?_) fun _ _ x => x.elim
    obtain ⟨rfl, h⟩ := h
    exact wpAny_execs_nil h
  | some x =>
    have hlt : n < xs.length := (List.getElem?_eq_some_iff.mp hx).1
    refine wpAny_mono (I.item n x ρ' σ' θ' δ' s' _ b'.r V' st off' hx (turn x hx) (fun s₂ => wpAny (model C.P C.w) A (execs body F.env) (G n) E0 s₂) fun ρ₂ s₂ hy stp st₂ => hb ρ₂ σ' _ hy s₂ θ' δ' stp.r _ fun fl ρ₃ σ₃ θ₃ δ₃ s₃ f hq b₃ Fv => ?_) (fun r s₁ h => ?_) fun _ _ x => x.elim
    · have bb := (stp.back b' nf).trans b₃
      have nx : Inv (n + 1) ρ₃ σ₃ → ∃ m, m < xs.length + 1 - n ∧ J m s₃ := fun hi => by
        refine ⟨xs.length + 1 - (n + 1), by omega, n + 1, ρ₃, σ₃, θ₃, δ₃, hi, bb, I.keep _ _ _ st₂ fun b o hf e => b₃.kept b o e (I.lo b hf).2 fun q hq => ⟨Ne.symm (off' b hf q hq).1, Ne.symm (off' b hf q hq).2⟩, fun b hf q hq => ?_, hlt, rfl⟩
        by_cases z : q < σ'.length
        · rw [(b₃.ext.2.1 q z).1, (b₃.ext.2.1 q z).2]; exact off' b hf q z
        · have w := b₃.ext.2.2 q (Nat.not_lt.mp z) hq
          obtain ⟨o, e⟩ := I.there _ _ b st₂ hf
          refine ⟨fun y => ?_, fun y => ?_⟩
          · rw [y, e] at w; cases w.1
          · rw [y, e] at w; cases w.2
      cases fl with
      | next => cases Fv; exact nx hq
      | cont => cases Fv; exact nx hq
      | brk => cases Fv; exact k _ _ _ _ _ _ _ hq bb rfl
      | ret v => obtain ⟨val, rfl, Vv⟩ := Fv; exact k _ _ _ _ _ _ _ hq bb ⟨val, rfl, Vv⟩
    · obtain ⟨val, rfl, h⟩ := h
      refine wpAny_mono h (fun _ s₂ h => wpAny_mono h (fun _ s₃ h => wpAny_mono h (fun f s₄ h => ?_) fun _ _ x => x.elim) fun _ _ x => x.elim) fun _ _ x => x.elim
      cases f <;> exact h
theorem listIter_imm {h : Heap} {it a n : Nat} (st : h.IsListIter it a n) : ∀ o, h.get? it = some o → ¬ Un o := by
  obtain ⟨o', e, hc, hd⟩ := st
  intro o e'
  rw [e] at e'; cases e'
  exact not_un (by unfold immB; rw [hc, hd]; with_unfolding_all rfl) (by rw [hd]; rfl)
theorem iter_off {it a n : Nat} {ρ : Loc} {σ : St} {θ δ : Nat → Nat} {s : Shared} {h' : Heap} {t : Nat} (r : R C F ρ σ θ δ s) (lo : ¬ C.Old it ∧ it ∉ F.own C) (off : OffFp (· = it) σ θ δ) (st : s.heap.IsListIter it a n) (hk : ∀ b o, s.heap.get? b = some o → b ≠ it → h'.get? b = some o) : R C F ρ σ θ δ { s with heap := h', toks := t } :=
  r.off (fp := (· = it)) hk (fun b e => e ▸ lo) off fun b o e e' => listIter_imm st o (e ▸ e')
theorem val_off {σ : St} {θ : Nat → Nat} {s : Shared} {h' : Heap} {fp : Nat → Prop} {v : AV} {x : Value} (V : Val C s.heap σ.length θ v x) (hk : ∀ b o, s.heap.get? b = some o → ¬ fp b → h'.get? b = some o) (ni : ∀ b o, fp b → s.heap.get? b = some o → ¬ Un o) : Val C h' σ.length θ v x :=
  V.mono (Nat.le_refl _) (fun _ _ => rfl) fun b o e i => hk b o e fun z => ni b o z e i.un
theorem it_one (c : Around' C F A X S n) {i : Nat} {x : Str} {px : Pos} (hx : F.ns[i]? = some x) (hsl : F.env.scope.names.lookup x = some .local) {it a : Addr} {v : AV} {xs : List AV} (lo : ¬ C.Old it ∧ it ∉ F.own C) : ItOk C F A (.Name x px) (.one i) it (· = it) (fun σ θ h => Val C h σ.length θ v (.ref a) ∧ listAt C σ v = some xs) xs (fun n h => h.IsListIter it a n) where
  keep n h h' st hk := st.at fun o e => hk _ o rfl e
  there n h b st e := by obtain ⟨o, e', _⟩ := st; exact ⟨o, e ▸ e'⟩
  lo b e := e ▸ lo
  item n y ρ σ θ δ s Y r VV st off hy hb Q q := by
    obtain ⟨V, hl⟩ := VV
    obtain ⟨a', vs, e, IL, AV'⟩ := list_rule r.H V hl
    cases e
    obtain ⟨val, e4, Vx⟩ := AV'.get hy
    refine wpAny_pyNext_list_item st IL (x := val) (by simpa using e4) fun h' st' hs => ⟨val, rfl, ?_⟩
    have hk : ∀ b o, s.heap.get? b = some o → b ≠ it → h'.get? b = some o := fun b o e n => (hs.2 b n).trans e
    have r' := iter_off (t := s.toks) r lo off st hk
    have Vx' := val_off (fp := (· = it)) Vx hk fun b o e e' => listIter_imm st o (e ▸ e')
    refine wpAny_pure (binds_assign c.fo hx hsl ρ σ θ δ _ y val r' Vx' _ fun s' b => q _ s' hb ⟨b.r, fun d o e nf nL nt => b.kept d o (hk d o e nf) nL nt⟩ ?_)
    exact st'.at fun o e => b.kept it o e lo.2 fun k hk => ⟨Ne.symm (off it rfl k hk).1, Ne.symm (off it rfl k hk).2⟩
  done n ρ σ θ δ s r VV st off hy Q q := by
    obtain ⟨V, hl⟩ := VV
    obtain ⟨a', vs, e, IL, AV'⟩ := list_rule r.H V hl
    cases e
    have hv : vs.toArray[n]? = none := by
      have : xs.length ≤ n := by simpa using hy
      simp; rw [← AV'.length]; exact this
    exact wpAny_pyNext_list_end c.room.2.2 st IL hv fun h' x => ⟨rfl, q _ ⟨iter_off (t := s.toks) r lo off st fun b o e nf => x b o nf e, fun d o e nf _ _ => x d o nf e⟩⟩
theorem it_range (c : Around' C F A X S n) {i : Nat} {x : Str} {px : Pos} (hx : F.ns[i]? = some x) (hs : F.env.scope.names.lookup x = some .local) {it : Addr} {m : Nat} (lo : ¬ C.Old it ∧ it ∉ F.own C) : ItOk C F A (.Name x px) (.one i) it (· = it) (fun _ _ _ => True) ((List.range m).map fun (j : Nat) => .at (.int j)) (fun n h => IsRangeIter h it n ((m : Int) - n) 1) where
  keep n h h' st hk := hk it _ rfl st
  there n h b st e := ⟨_, e ▸ st⟩
  lo b e := e ▸ lo
  item n y ρ σ θ δ s Y r _ st off hy hb Q q := by
    have hlt : n < m := by have := (List.getElem?_eq_some_iff.mp hy).1; simpa using this
    have ye : y = .at (.int n) := by rw [List.getElem?_map, List.getElem?_range hlt] at hy; exact (Option.some.inj hy).symm
    subst ye
    have ni : ∀ b o, b = it → s.heap.get? b = some o → ¬ Un o := fun b o e e' => by rw [e, st] at e'; cases e'; exact not_un (by with_unfolding_all rfl) rfl
    refine wpAny_pyNext_range_item st (by omega) fun h' st' hs' => ⟨_, rfl, ?_⟩
    have hk : ∀ b o, s.heap.get? b = some o → b ≠ it → h'.get? b = some o := fun b o e n => (hs'.2 b n).trans e
    have r' : R C F ρ σ θ δ { s with heap := h', toks := s.toks + 1 } := r.off (fp := (· = it)) hk (fun b e => e ▸ lo) off ni
    refine wpAny_pure (binds_assign c.fo hx hs ρ σ θ δ _ (.at (.int n)) _ r' ⟨_, rfl⟩ _ fun s' b => q _ s' hb ⟨b.r, fun d o e nf nL nt => b.kept d o (hk d o e nf) nL nt⟩ ?_)
    have e2 : (m : Int) - ((n + 1 : Nat) : Int) = (m : Int) - n - 1 := by omega
    rw [e2, show ((n + 1 : Nat) : Int) = (n : Int) + 1 from rfl]
    exact b.kept it _ st' lo.2 fun k hk => ⟨Ne.symm (off it rfl k hk).1, Ne.symm (off it rfl k hk).2⟩
  done n ρ σ θ δ s r _ st off hy Q q := by
    have hle : m ≤ n := by simpa using hy
    have ni : ∀ b o, b = it → s.heap.get? b = some o → ¬ Un o := fun b o e e' => by rw [e, st] at e'; cases e'; exact not_un (by with_unfolding_all rfl) rfl
    exact wpAny_pyNext_range_end c.room.2.2 st (by omega) fun h' x => ⟨rfl, q _ ⟨r.off (t := s.toks) (fp := (· = it)) (fun b o e nf => x b o nf e) (fun b e => e ▸ lo) off ni, fun d o e nf _ _ => x d o nf e⟩⟩
noncomputable def EnumSt (e it a : Nat) (n : Nat) (h : Heap) : Prop := (∃ old, IsEnum h e it (n : Int) old) ∧ h.IsListIter it a n
theorem enum_imm {h : Heap} {e it a n : Nat} (st : EnumSt e it a n h) : ∀ b o, (b = e ∨ b = it) → h.get? b = some o → ¬ Un o := by
  obtain ⟨⟨old, E⟩, I⟩ := st
  rintro b o (rfl | rfl) e'
  · have E' : h.get? b = _ := E
    rw [E'] at e'; cases e'
    exact not_un (by with_unfolding_all rfl) rfl
  · exact listIter_imm I o e'
theorem it_enum (c : Around' C F A X S n) {xi xj : Str} {p₁ p₂ : Pos} {i j : Nat} {kk : Nat} {tp : Pos} (hi : F.ns[i]? = some xi) (hj : F.ns[j]? = some xj) (hsi : F.env.scope.names.lookup xi = some .local) (hsj : F.env.scope.names.lookup xj = some .local) {e it a : Addr} {v : AV} {xs : List AV} (hne : e ≠ it) (loe : ¬ C.Old e ∧ e ∉ F.own C) (loi : ¬ C.Old it ∧ it ∉ F.own C) :
    ItOk C F A (.Tuple [.Name xi p₁, .Name xj p₂] kk tp) (.enum i j) e (fun b => b = e ∨ b = it) (fun σ θ h => Val C h σ.length θ v (.ref a) ∧ listAt C σ v = some xs) xs (EnumSt e it a) where
  keep n h h' st hk := ⟨let ⟨old, E⟩ := st.1; ⟨old, hk _ _ (.inl rfl) E⟩, st.2.at fun o e => hk _ o (.inr rfl) e⟩
  there n h b st e := by
    rcases e with rfl | rfl
    · obtain ⟨⟨old, E⟩, _⟩ := st; exact ⟨_, E⟩
    · obtain ⟨_, ⟨o, e', _⟩⟩ := st; exact ⟨o, e'⟩
  lo b h := by rcases h with rfl | rfl; exact loe; exact loi
  item n y ρ σ θ δ s Y r VV st off hy hb Q q := by
    obtain ⟨V, hl⟩ := VV
    have im := enum_imm st
    obtain ⟨⟨old, E⟩, I⟩ := st
    obtain ⟨a', vs, e, IL, AV'⟩ := list_rule r.H V hl
    cases e
    obtain ⟨val, e4, Vx⟩ := AV'.get hy
    refine wpAny_pyNext_enum_item E I IL (x := val) (by simpa using e4) hne fun h₁ heo hit₁ ht₁ hz₁ hk₁ => ⟨_, rfl, ?_⟩
    refine wpAny_letOwnedTupleGo_enum heo fun h₂ he₂ hs₂ => ?_
    replace hs₂ : Heap.SameBut e h₁ h₂ := hs₂
    have heH : e < s.heap.objs.size := Heap.lt_size E
    have hk : ∀ b o, s.heap.get? b = some o → ¬ (b = e ∨ b = it) → h₂.get? b = some o := fun b o x nf => (hs₂.2 b fun z => nf (.inl z)).trans (hk₁ b o (fun z => nf (.inl z)) (fun z => nf (.inr z)) x)
    have r' : R C F ρ σ θ δ { s with heap := h₂, toks := s.toks + 1 } := r.off hk (fun b h => by rcases h with rfl | rfl; exact loe; exact loi) off im
    have Vx' := val_off Vx hk im
    have ht₂ : IsTup h₂ s.heap.objs.size #[.int n s.toks, val] := ⟨_, (hs₂.2 _ (Nat.ne_of_gt heH)).trans ht₁, rfl, _, rfl⟩
    refine assign_Tuple_tuple c.room.2.2 ht₂ rfl rfl fun h₃ x => ?_
    have b' := after_iter r' x
    show wpAny _ A (do holding [val] (PySem.assign (.Name xi p₁) F.env (.int n s.toks)); do holding [] (PySem.assign (.Name xj p₂) F.env val); pure ()) _ _ _
    refine wpAny_bind (wpAny_holding (binds_assign c.fo hi hsi ρ σ θ δ _ (.at (.int n)) _ b'.r ⟨_, rfl⟩ _ fun s₄ b₄ => ?_))
    refine wpAny_bind (wpAny_holding (binds_assign c.fo hj hsj _ σ θ δ _ y val b₄.r ((b'.trans b₄).val r' Vx') _ fun s₅ b₅ => wpAny_pure ?_))
    have b := (b'.trans b₄).trans b₅
    refine q _ s₅ hb ⟨b.r, fun d o x nf nL nt => b.kept d o (hk d o x nf) nL nt⟩ ⟨⟨val, ?_⟩, ?_⟩
    · have : ((n + 1 : Nat) : Int) = (n : Int) + 1 := by push_cast; rfl
      rw [this]
      exact b.kept e _ he₂ loe.2 fun k hk => ⟨Ne.symm (off e (.inl rfl) k hk).1, Ne.symm (off e (.inl rfl) k hk).2⟩
    · exact (hit₁.extBut hs₂.extBut (Ne.symm hne)).at fun o x => b.kept it o x loi.2 fun k hk => ⟨Ne.symm (off it (.inr rfl) k hk).1, Ne.symm (off it (.inr rfl) k hk).2⟩
  done n ρ σ θ δ s r VV st off hy Q q := by
    obtain ⟨V, hl⟩ := VV
    have im := enum_imm st
    obtain ⟨⟨old, E⟩, I⟩ := st
    obtain ⟨a', vs, e, IL, AV'⟩ := list_rule r.H V hl
    cases e
    have hv : vs.toArray[n]? = none := by
      have : xs.length ≤ n := by simpa using hy
      simp; rw [← AV'.length]; exact this
    refine wpAny_pyNext_enum_end c.room.2.2 E I IL hv fun h' x => ⟨rfl, q _ ⟨r.off (t := s.toks) (fun b o e nf => x b o (fun z => nf (.inr z)) e) (fun b h => by rcases h with rfl | rfl; exact loe; exact loi) off im, fun d o e nf _ _ => x d o (fun z => nf (.inr z)) e⟩⟩
noncomputable def noSet : PySem.Expr → Bool
  | .Set .. => false
  | _ => true
theorem folded_plain {iter : PySem.Expr} {env : Env} (h : noSet iter = true) : ∀ x, foldedSetIterable iter env x = pure x := by
  intro x
  cases iter <;> first | rfl | cases h
theorem R.offNew {ρ : Loc} {σ : St} {θ δ : Nat → Nat} {s : Shared} (r : R C F ρ σ θ δ s) {b : Nat} (hb : s.heap.objs.size ≤ b) : (∀ k, k < σ.length → θ k ≠ b ∧ δ k ≠ b) ∧ ¬ C.Old b ∧ b ∉ F.own C := by
  have e := get_size hb
  refine ⟨fun k hk => ?_, r.H.new e, fun h => ?_⟩
  · obtain ⟨⟨o1, e1⟩, ⟨o2, e2⟩⟩ := r.H.there hk
    refine ⟨fun z => ?_, fun z => ?_⟩
    · rw [z, e] at e1; cases e1
    · rw [z, e] at e2; cases e2
  · rcases List.mem_cons.mp h with h | h
    · obtain ⟨o, e', _⟩ := r.H.wrap.notUn
      rw [← h, e] at e'; cases e'
    · rcases List.mem_cons.mp h with h | h
      · obtain ⟨m, ⟨o, _, _, e', _⟩⟩ := r.ns
        rw [← h, e] at e'; cases e'
      · obtain ⟨_, o, v, e', _⟩ := r.cel b h
        rw [e] at e'; cases e'
theorem ok_for (c : Around' C F A X S n) {target iter : PySem.Expr} {body : List Stmt} {g : Tgt} {t : Tm} {cs : Cs} {p : Pos} (hn : noSet iter = true) (h₁ : OkT C F A iter (wpT C S t)) (hb : OkCs C F A body (wpCs C S cs))
    (mk : ∀ {it a : Addr} {v : AV} {xs : List AV}, ¬ C.Old it ∧ it ∉ F.own C → ItOk C F A target g it (· = it) (fun σ θ h => Val C h σ.length θ v (.ref a) ∧ listAt C σ v = some xs) xs (fun n h => h.IsListIter it a n)) : OkC C F A (.For target iter body [] p) (wpC C S (.forc g t cs)) := fun ρ σ Q h s θ δ r Qc k => by
  refine wpAny_For (h₁ ρ σ _ h s θ δ r _ fun v σ₁ θ₁ δ₁ s₁ val hq b V => ?_) (folded_plain hn)
  obtain ⟨xs, hl, Inv, i0, inv⟩ := hq
  obtain ⟨a, vs, rfl, IL, X'⟩ := list_rule b.r.H V hl
  refine wpAny_pyIter_list IL ?_
  have fr := b.r.offNew (Nat.le_refl _)
  refine loop_rule (mk (v := v) (xs := xs) fr.2) hb (b.r.push _ s₁.toks) b.r (fun _ e => e ▸ get_size (Nat.le_refl _)) (fun d e => by subst e; exact fr.1) ⟨_, Heap.get?_push_size _ rfl, rfl, rfl⟩ i0 (fun n ρ' σ' θ' δ' s' hi b' => ⟨b'.val b.r V, (inv n ρ' σ' hi).1⟩) (fun n ρ' σ' hi _ => (inv n ρ' σ' hi).2) fun fl ρ' σ' θ' δ' s' f hq b' Fv => k _ _ _ _ _ _ _ hq (b.trans b') Fv
theorem ok_forE (c : Around' C F A X S n) {xi xj ne : Str} {p₁ p₂ np cp : Pos} {i j kk : Nat} {tp : Pos} {e : PySem.Expr} {body : List Stmt} {t : Tm} {cs : Cs} {p : Pos} (hi : F.ns[i]? = some xi) (hj : F.ns[j]? = some xj) (hsi : F.env.scope.names.lookup xi = some .local) (hsj : F.env.scope.names.lookup xj = some .local) (hg : glob F ne = true) (ht : (ne, (true, "enumerate")) ∈ X.T.bt) (hs : noStar e = true)
    (h₁ : OkT C F A e (wpT C S t)) (hb : OkCs C F A body (wpCs C S cs)) : OkC C F A (.For (.Tuple [.Name xi p₁, .Name xj p₂] kk tp) (.Call (.Name ne np) [e] [] cp) body [] p) (wpC C S (.forc (.enum i j) t cs)) := fun ρ σ Q h s θ δ r Qc k => by
  refine wpAny_For (Call_ (ld_blt c.fo c.co r hg ht ?_) rfl) (folded_plain rfl)
  refine Pv.callWith_type1 ?_ (starEach_cons hs) (by rw [arm_starEach_nil]; rfl)
  refine args_cons (h₁ ρ σ _ h s θ δ r _ fun v σ₁ θ₁ δ₁ s₁ val hq b V => args_nil ?_) (starEach_cons hs)
  obtain ⟨xs, hl, Inv, i0, inv⟩ := hq
  obtain ⟨a, vs, rfl, IL, X'⟩ := list_rule b.r.H V hl
  refine call_enumerate_list IL fun h' hE hI hsz keep => wpAny_pyIter_enum hE ?_
  have f1 := b.r.offNew (Nat.le_refl s₁.heap.objs.size)
  have f2 := b.r.offNew (Nat.le_succ s₁.heap.objs.size)
  refine loop_rule (it_enum (v := v) (xs := xs) c hi hj hsi hsj (Nat.succ_ne_self _) f2.2 f1.2) hb (b.r.grown (t := s₁.toks) keep) b.r (fun d e => ?_) (fun d e => ?_) ⟨⟨_, hE⟩, hI⟩ i0 (fun n ρ' σ' θ' δ' s' hi b' => ⟨b'.val b.r V, (inv n ρ' σ' hi).1⟩) (fun n ρ' σ' hi _ => (inv n ρ' σ' hi).2) fun fl ρ' σ' θ' δ' s' f hq b' Fv => k _ _ _ _ _ _ _ hq (b.trans b') Fv
  · rcases e with rfl | rfl
    · exact get_size (Nat.le_succ _)
    · exact get_size (Nat.le_refl _)
  · rcases e with rfl | rfl
    · exact f2.1
    · exact f1.1
theorem ok_forr (c : Around' C F A X S n) {x rn : Str} {px np cp q p : Pos} {i m kk : Nat} {body : List Stmt} {cs : Cs} (hx : F.ns[i]? = some x) (hs : F.env.scope.names.lookup x = some .local) (hg : globX X rn = true) (ht : (rn, (true, "range")) ∈ X.T.bt) (hm : m < 2 ^ 24) (hb : OkCs C F A body (wpCs C S cs)) :
    OkC C F A (.For (.Name x px) (.Call (.Name rn np) [.Constant (.int m) kk q] [] cp) body [] p) (wpC C S (.forr i m cs)) := fun ρ σ Q h s θ δ r Qc k => by
  obtain ⟨Inv, i0, inv⟩ := h
  refine wpAny_For (wpAny_mono (range_src c hg ht hm r (Q := fun it s' => codeAny (model C.P C.w) A (.forLoop (.Name x px) it body [] F.env) (fun r s' => match r with | .ok f => Qc f s' | .error e => cameBackBy (model C.P C.w) A F.env E0 e s') s') fun I h t keep hI hlt hit => ?_) (fun xv s₁ h => h) fun _ _ z => z) (folded_plain rfl)
  have fr := r.offNew hI
  have len : ((List.range m).map fun (j : Nat) => (AV.at (.int j))).length = m := by simp
  refine loop_rule (it_range (m := m) c hx hs fr.2) hb (r.grown (t := t) keep) r (fun _ e => e ▸ get_size hI) (fun d e => by subst e; exact fr.1) (by simpa using hit) i0 (fun _ _ _ _ _ _ _ _ => trivial) (fun m' ρ' σ' hi hle => ⟨fun a ha => ?_, fun he => (inv m' ρ' σ' hi).2 (by rw [← len]; exact he)⟩) fun fl ρ' σ' θ' δ' s' f hq b' Fv => k _ _ _ _ _ _ _ hq b' Fv
  have hlt : m' < m := by have := (List.getElem?_eq_some_iff.mp ha).1; simpa using this
  have : a = .at (.int m') := by rw [List.getElem?_map, List.getElem?_range hlt] at ha; exact (Option.some.inj ha).symm
  subst this
  exact (inv m' ρ' σ' hi).1 hlt
theorem draw_list {prog : Program} {w : World} {E : Value → Shared → Prop} {it l : Addr} {vs : List Value} (hne : l ≠ it) : ∀ (n i : Nat) (s : Shared) (Q : List Value → Shared → Prop), s.heap.IsListIter it l i → s.heap.IsList l vs.toArray → i + n ≤ vs.length →
    (∀ h', h'.IsListIter it l (i + n) → Heap.SameBut it s.heap h' → Q ((vs.drop i).take n) { s with heap := h' }) → wpAny (model prog w) A (draw (.ref it) n) Q E s
  | 0, i, s, Q, st, _, _, q => wpAny_pure (by simpa using q s.heap st (Heap.SameBut.refl ..))
  | n + 1, i, s, Q, st, hl, hle, q => by
    have hlt : i < vs.length := by omega
    show wpAny _ _ (pyNext (.ref it) >>= _) Q E s
    refine wpAny_bind (wpAny_pyNext_list_item st hl (x := vs[i]) (by simp [hlt]) fun h₁ st₁ hs₁ => ?_)
    refine wpAny_bind (wpAny_holding (draw_list hne n (i + 1) _ _ st₁ (hl.extBut hs₁.extBut hne) (by omega) fun h₂ st₂ hs₂ => wpAny_pure ?_))
    have := q h₂ (by rw [show i + (n + 1) = i + 1 + n by omega]; exact st₂) (hs₁.trans hs₂)
    rw [List.drop_eq_getElem_cons hlt, List.take_succ_cons] at this
    exact this
theorem unpack_list {prog : Program} {w : World} {E : Value → Shared → Prop} {s : Shared} {l : Addr} {vs : List Value} {targets : List (Bool × (Value → Sem Unit))} {Q : Unit → Shared → Prop} (hh : A.handled = none) (hl : s.heap.IsList l vs.toArray) (hn : targets.length = vs.length) (hstar : targets.findIdx? (·.1) = none)
    (h : ∀ h', Heap.ExtBut s.heap.objs.size s.heap h' → wpAny (model prog w) A (assignInOrder (targets.map (·.2)) vs) Q E { s with heap := h' }) : wpAny (model prog w) A (unpack (.ref l) targets) Q E s := by
  have hlt : l ≠ s.heap.objs.size := by obtain ⟨o, ho, _⟩ := hl; exact Nat.ne_of_lt (Heap.lt_size ho)
  unfold unpack
  rw [hn, hstar]
  refine wpAny_bind (wpAny_holding ?_)
  unfold unpackItems notIterableAtAll
  refine wpAny_bind (wpAny_bind (wpAny_specialOf hl.typeIs PySem.F.slot_list_iter.lookup ?_))
  refine wpAny_pure ?_
  simp only [Bool.false_eq_true, if_false]
  refine wpAny_bind (wpAny_holding (wpAny_pyIter_list hl ?_))
  refine wpAny_bind (wpAny_holding (draw_list hlt vs.length 0 _ _ ⟨_, Heap.get?_push_size _ rfl, rfl, rfl⟩ (hl.push _) (by omega) fun h₁ st₁ hs₁ => ?_))
  rw [List.drop_zero, List.take_of_length_le (Nat.le_refl _), if_neg (by simp)]
  have hl₁ : h₁.IsList l vs.toArray := (hl.push _).extBut hs₁.extBut hlt
  refine wpAny_bind (wpAny_holding (wpAny_pyNext_list_end hh st₁ hl₁ (by simp) fun h₂ he₂ => ?_))
  simp only [Option.isSome_none, Bool.false_eq_true, if_false]
  exact wpAny_pure (h h₂ fun b o hb e => he₂ b o hb (hs₁.extBut b o hb (Heap.get?_push_of_some _ e)))
theorem ok_tal (c : Around' C F A X S n) {es : List PySem.Expr} {kk : Nat} {tp p : Pos} {e : PySem.Expr} {t : Tm} {is : List Nat} (hn : namesAre X es is = true) (hc : noComp e = true) (hw : swappedStores [.Tuple es kk tp] e F.env = pure none) (h₁ : OkT C F A e (wpT C S t)) :
    OkC C F A (.Assign [.Tuple es kk tp] e p) (wpC C S (.tal is t)) := fun ρ σ Q h s θ δ r Qc k => by
  refine Assign_Tuple (h₁ ρ σ _ h s θ δ r _ fun v σ₁ θ₁ δ₁ s₁ val hq b V => ?_) (by unfold swapsWithSole; exact swaps_plain hc) hw
  obtain ⟨kx, l, rfl, e1, hl, hq⟩ := hq
  obtain ⟨_, rfl⟩ := V
  obtain ⟨_, vs, P, AV⟩ := b.r.H.obj _ _ e1
  obtain ⟨B, len, fi⟩ := names_binds c hn
  have AV' := all2_at AV
  rw [arm_assign_Tuple]
  refine wpAny_bind (wpAny_standAt (unpack_list c.room.2.2 P.isList (by rw [len, ← AV'.length, hl]) fi fun h' x => ?_))
  have b' := after_iter b.r x
  have b₂ := b.trans b'
  exact in_order B AV' hl b₂.r _ fun s' b'' => k _ _ _ _ _ _ _ hq (b₂.trans b'') rfl
end
end Mine.Py
end
section
open PySem PySem.W PyProof.Rows PySem.Calls
namespace Mine.Py
open Mine.Dx
section
variable {C : Cfg} {F : Fm} {A : Around} {X : Sx} {S : Nat → Spec} {n : Nat}
theorem six_one (fo : FmOk F) {i a : Nat} {x : Str} {xp cp sp : Pos} {kk : Nat} {ρ : Loc} {σ : St} {θ δ : Nat → Nat} {s : Shared} {k : Nat} {xs : List AV} {v : AV} {val : Value} (hx : F.ns[i]? = some x) (r : R C F ρ σ θ δ s) (hv : ρ[i]? = some (some (.lst k))) (hk : σ[k]? = some (.list xs)) (ha : a < xs.length) (hl : xs.length ≤ 2 ^ 24) (V : Val C s.heap σ.length θ v val)
    {Q : Unit → Shared → Prop} (q : ∀ s', Back C F ρ σ θ δ s (σ.set k (.list (xs.set a v))) θ δ s' → Q () s') : wpAny (model C.P C.w) A (PySem.assign (.Subscript (.Name x xp) (.Constant (.int a) kk cp) sp) F.env val) Q E0 s := by
  rw [assign_Subscript]
  refine wpAny_bind (wpAny_holding (ld_loc fo r hx hv fun o O => ?_))
  refine wpAny_bind (wpAny_holding (wpAny_Constant_int (wpAny_bind (wpAny_standAt ?_))))
  obtain ⟨_, rfl⟩ := O
  have b := r.tok (s.toks + 1)
  obtain ⟨_, vs, P, X⟩ := b.r.H.obj _ _ hk
  refine wpAny_bind (wpAny_holding (setItem_plain P (by lia) (by lia) (by rw [List.size_toArray, ← X.length]; lia) fun h' hl hs => ?_))
  refine wpAny_release ?_
  have b₂ := b.r.setList (vs' := vs.set a val) (xs' := xs.set a v) (t := s.toks + 1) hk hs (by simpa using hl) (X.set (b.val r V))
  exact q _ (b.trans b₂)
theorem ok_tsx (c : Around' C F A X S n) {i a b : Nat} {x : Str} {xp cp sp xp' cp' sp' tp p : Pos} {kk k1 k2 : Nat} {e : PySem.Expr} {t : Tm} (hx : F.ns[i]? = some x) (hc : noComp e = true) (hw : swappedStores [.Tuple [.Subscript (.Name x xp) (.Constant (.int a) k1 cp) sp, .Subscript (.Name x xp') (.Constant (.int b) k2 cp') sp'] kk tp] e F.env = pure none) (h₁ : OkT C F A e (wpT C S t)) :
    OkC C F A (.Assign [.Tuple [.Subscript (.Name x xp) (.Constant (.int a) k1 cp) sp, .Subscript (.Name x xp') (.Constant (.int b) k2 cp') sp'] kk tp] e p) (wpC C S (.tsx i a b t)) := fun ρ σ Q h s θ δ r Qc k => by
  refine Assign_Tuple (h₁ ρ σ _ h s θ δ r _ fun v σ₁ θ₁ δ₁ s₁ val hq b₁ V => ?_) (by unfold swapsWithSole; exact swaps_plain hc) hw
  obtain ⟨a1, a2, kx, xs, rfl, hv, hk, l1, l2, l3, hq⟩ := hq
  obtain ⟨ta, vs, rfl, e1, AV⟩ := V
  cases AV with
  | cons v1 AV =>
    cases AV with
    | cons v2 AV =>
      cases AV
      refine assign_Tuple_tuple c.room.2.2 (tupIs e1) rfl rfl fun h' y => ?_
      have b' := after_iter b₁.r y
      have b₂ := b₁.trans b'
      show wpAny _ A (do holding [_] (PySem.assign _ F.env _); do holding [] (PySem.assign _ F.env _); pure ()) _ _ _
      refine wpAny_bind (wpAny_holding (six_one (v := .at a1) c.fo hx b₂.r hv hk l1 l3 v1 fun s₃ b₃ => ?_))
      refine wpAny_bind (wpAny_holding (six_one (v := .at a2) c.fo hx b₃.r hv (by rw [List.getElem?_set_self (List.getElem?_eq_some_iff.mp hk).1]) (by rw [List.length_set]; exact l2) (by rw [List.length_set]; exact l3) (b₃.val b₂.r v2) fun s₄ b₄ => wpAny_pure ?_))
      refine k .next _ _ _ _ _ .next ?_ ((b₂.trans b₃).trans b₄) rfl
      rw [List.set_set]; exact hq
end
noncomputable def semVal {α : Type} : Sem α → Option α
  | .pure x => some x
  | _ => none
theorem semVal_eq {α : Type} {t : Sem α} {x : α} (h : semVal t = some x) : t = pure x := by cases t with | pure y => cases h; rfl | _ => exact Mine.Dx.no_some h
theorem and3 {a b c : Bool} (h : (a && b && c) = true) : a = true ∧ b = true ∧ c = true := ⟨l2 (l2 h), r2 (l2 h), r2 h⟩
noncomputable def swapOf (es : List PySem.Expr) (kk : Nat) (tp : Pos) (e : PySem.Expr) (sc : Scope) : Option (Option (List Str)) := semVal (swappedStores [.Tuple es kk tp] e { scope := sc, locals := 0, globals := 0, cells := [] })
theorem swapOf_eq {es : List PySem.Expr} {kk : Nat} {tp : Pos} {e : PySem.Expr} {sc : Scope} {x : Option (List Str)} {env : Env} (h : swapOf es kk tp e sc = some x) (hs : env.scope = sc) : swappedStores [.Tuple es kk tp] e env = pure x := by
  have : swappedStores [.Tuple es kk tp] e env = swappedStores [.Tuple es kk tp] e { scope := sc, locals := 0, globals := 0, cells := [] } := by
    subst hs
    rfl
  rw [this]
  exact semVal_eq h
theorem slAsgN {e : Stmt} {M : Stmt → Prop} {p : FS 0 → Bool} (h : (atS 0 e).any p = true) (f : ∀ (ts : List PySem.Expr) (e : PySem.Expr) (z : Pos), p (ts, e, z) = true → M (.Assign ts e z)) : M e := atS_el h fun x q r => (show e = .Assign x.1 x.2.1 x.2.2 from q) ▸ f _ _ _ r
theorem slAug {e : Stmt} {M : Stmt → Prop} {p : FS 1 → Bool} (h : (atS 1 e).any p = true) (f : ∀ (l : PySem.Expr) (op : Operator) (r : PySem.Expr) (z : Pos), p (l, op, r, z) = true → M (.AugAssign l op r z)) : M e := atS_el h fun x q r => (show e = .AugAssign x.1 x.2.1 x.2.2.1 x.2.2.2 from q) ▸ f _ _ _ _ r
theorem slIf {e : Stmt} {M : Stmt → Prop} {p : FS 2 → Bool} (h : (atS 2 e).any p = true) (f : ∀ (t : PySem.Expr) (a b : List Stmt) (z : Pos), p (t, a, b, z) = true → M (.If t a b z)) : M e := atS_el h fun x q r => (show e = .If x.1 x.2.1 x.2.2.1 x.2.2.2 from q) ▸ f _ _ _ _ r
theorem slRet {e : Stmt} {M : Stmt → Prop} {p : FS 3 → Bool} (h : (atS 3 e).any p = true) (f : ∀ (e : Option PySem.Expr) (z : Pos), p (e, z) = true → M (.Return e z)) : M e := atS_el h fun x q r => (show e = .Return x.1 x.2 from q) ▸ f _ _ r
theorem slEx {e : Stmt} {M : Stmt → Prop} {p : FS 4 → Bool} (h : (atS 4 e).any p = true) (f : ∀ (e : PySem.Expr) (z : Pos), p (e, z) = true → M (.Expr e z)) : M e := atS_el h fun x q r => (show e = .Expr x.1 x.2 from q) ▸ f _ _ r
theorem slFor {e : Stmt} {M : Stmt → Prop} {p : FS 5 → Bool} (h : (atS 5 e).any p = true) (f : ∀ (t i : PySem.Expr) (b o : List Stmt) (z : Pos), p (t, i, b, o, z) = true → M (.For t i b o z)) : M e := atS_el h fun x q r => (show e = .For x.1 x.2.1 x.2.2.1 x.2.2.2.1 x.2.2.2.2 from q) ▸ f _ _ _ _ _ r
theorem slWhl {e : Stmt} {M : Stmt → Prop} {p : FS 6 → Bool} (h : (atS 6 e).any p = true) (f : ∀ (t : PySem.Expr) (b o : List Stmt) (z : Pos), p (t, b, o, z) = true → M (.While t b o z)) : M e := atS_el h fun x q r => (show e = .While x.1 x.2.1 x.2.2.1 x.2.2.2 from q) ▸ f _ _ _ _ r
theorem slPass {e : Stmt} {M : Stmt → Prop} {p : FS 7 → Bool} (h : (atS 7 e).any p = true) (f : ∀ (z : Pos), p z = true → M (.Pass z)) : M e := atS_el h fun x q r => (show e = .Pass x from q) ▸ f _ r
theorem slBrk {e : Stmt} {M : Stmt → Prop} {p : FS 8 → Bool} (h : (atS 8 e).any p = true) (f : ∀ (z : Pos), p z = true → M (.Break z)) : M e := atS_el h fun x q r => (show e = .Break x from q) ▸ f _ r
section
variable (X : Sx)
noncomputable def asg1 (st : Stmt) (f : PySem.Expr → PySem.Expr → Pos → Bool) : Bool := (atS 0 st).any fun (y : List PySem.Expr × PySem.Expr × Pos) => (one y.1).any fun t => f t y.2.1 y.2.2
theorem asg_el {st : Stmt} {f : PySem.Expr → PySem.Expr → Pos → Bool} {M : Stmt → Prop} (h : asg1 st f = true) (k : ∀ t e z, f t e z = true → M (.Assign [t] e z)) : M st :=
  slAsgN h fun ts e z q => one_el (M := fun ts => M (.Assign ts e z)) q fun t r => k t e z r
noncomputable def isComp : Tm → Option (Nat × Nat × PT)
  | .comp j m t => some (j, m, t)
  | _ => none
theorem isComp_el {t : Tm} {M : Tm → Prop} {p : Nat × Nat × PT → Bool} (h : (isComp t).any p = true) (f : ∀ j m q, p (j, m, q) = true → M (.comp j m q)) : M t := elO h fun a q r => (show t = .comp a.1 a.2.1 a.2.2 by cases t with | comp => cases q; rfl | _ => exact Mine.Dx.no_some q) ▸ f _ _ _ r
noncomputable def subK (i a : Nat) (e : PySem.Expr) : Bool := (exSub e).any fun y => isLoc X i y.1 && isK y.2 a
noncomputable def kComp (i j m : Nat) (t : PT) (l e : PySem.Expr) (p : Pos) : Bool := isSto X i l && okComp X j m t e && (semVal (swapsWith e (some l) p.line { scope := X.sc, locals := 0, globals := 0, cells := [] })).any id
noncomputable def kAsg (i : Nat) (t : Tm) (l e : PySem.Expr) (p : Pos) : Bool := (isComp t).any (fun y => kComp X i y.1 y.2.1 y.2.2 l e p) || (isSto X i l && noComp e && okT X t e)
noncomputable def kCasg (i : Nat) (t : Tm) (l e : PySem.Expr) (p : Pos) : Bool := (exN l).any (fun x => isAt X.ns i x && X.sc.names.lookup x == some .cell && X.cst.contains x) && noComp e && okT X t e
noncomputable def kSat (i f : Nat) (t : Tm) (l e : PySem.Expr) (p : Pos) : Bool := (exA l).any (fun z => isLoc X i z.1 && isAt X.attrs f z.2.1) && noComp e && okT X t e
noncomputable def kSix (a b t : Tm) (l e : PySem.Expr) (p : Pos) : Bool := (exSub l).any (fun z => okT X a z.1 && okT X b z.2) && noComp e && okT X t e
noncomputable def kSls (i : Nat) (lo hi t : Tm) (l e : PySem.Expr) (p : Pos) : Bool := (exSub l).any (fun z => isLoc X i z.1 && (exSl z.2).any fun u => u.1.any (fun a => okT X lo a) && u.2.1.any (fun b => okT X hi b) && u.2.2.isNone) && noComp e && okT X t e
noncomputable def kTsx (i a b : Nat) (t : Tm) (l e : PySem.Expr) (p : Pos) : Bool := (exTup l).any (fun z => (two z.1).any (fun u => subK X i a u.1 && subK X i b u.2) && (swapOf z.1 z.2.1 z.2.2 e X.sc).any (·.isNone)) && noComp e && okT X t e
noncomputable def kTas (is : List Nat) (t : Tm) (l e : PySem.Expr) (p : Pos) : Bool := (exTup l).any (fun z => namesAre X z.1 is && (swapOf z.1 z.2.1 z.2.2 e X.sc).any (·.isNone)) && noComp e && okT X t e
noncomputable def kTar (is : List Nat) (t : Tm) (l e : PySem.Expr) (p : Pos) : Bool := (exTup l).any (fun z => (swapOf z.1 z.2.1 z.2.2 e X.sc).any fun u => u.any fun xs => strsAre X xs is) && noComp e && okT X t e
mutual
noncomputable def okC : Cmd → Stmt → Bool
  | .asg i t, st => asg1 st (kAsg X i t)
  | .casg i t, st => asg1 st (kCasg X i t)
  | .aug i op t, st => (atS 1 st).any fun (y : PySem.Expr × Operator × PySem.Expr × Pos) => isSto X i y.1 && decide (op = y.2.1) && okT X t y.2.2.1
  | .ladd i t, st => (atS 1 st).any fun (y : PySem.Expr × Operator × PySem.Expr × Pos) => isSto X i y.1 && decide (.Add = y.2.1) && okT X t y.2.2.1
  | .sat i f t, st => asg1 st (kSat X i f t)
  | .aat i f op t, st => (atS 1 st).any fun (y : PySem.Expr × Operator × PySem.Expr × Pos) => okT X (.fld i f) y.1 && decide (op = y.2.1) && okT X t y.2.2.1
  | .six a b t, st => asg1 st (kSix X a b t)
  | .sls i lo hi t, st => asg1 st (kSls X i lo hi t)
  | .tsx i a b t, st => asg1 st (kTsx X i a b t)
  | .ifc t a b, st => (atS 2 st).any fun (y : PySem.Expr × List Stmt × List Stmt × Pos) => okB X t y.1 && okCs a y.2.1 && okCs b y.2.2.1
  | .whl t b, st => (atS 6 st).any fun (y : PySem.Expr × List Stmt × List Stmt × Pos) => okB X t y.1 && okCs b y.2.1 && y.2.2.1.isEmpty
  | .ret t, st => (atS 3 st).any fun (y : Option PySem.Expr × Pos) => y.1.any fun e => okT X t e
  | .retn, st => (atS 3 st).any fun (y : Option PySem.Expr × Pos) => y.1.isNone
  | .ex t, st => (atS 4 st).any fun (y : PySem.Expr × Pos) => noComp y.1 && okT X t y.1
  | .pass, st => (atS 7 st).any fun (_ : Pos) => true
  | .brk, st => (atS 8 st).any fun (_ : Pos) => true
  | .tas is t, st => asg1 st (kTas X is t)
  | .tal is t, st => asg1 st (kTas X is t)
  | .tar is t, st => asg1 st (kTar X is t)
  | .app i t, st => (atS 4 st).any fun (y : PySem.Expr × Pos) => (exCall y.1).any fun y => (exA y.1).any (fun z => isLoc X i z.1 && ("append" : Str) == z.2.1 && z.2.2.endLine == y.2.2.2.line) && y.2.2.1.isEmpty && (one y.2.1).any fun e' => noStar e' && okT X t e'
  | .forc (.one i) t b, st => (atS 5 st).any fun (y : PySem.Expr × PySem.Expr × List Stmt × List Stmt × Pos) => isSto X i y.1 && noSet y.2.1 && okT X t y.2.1 && okCs b y.2.2.1 && y.2.2.2.1.isEmpty
  | .forc (.enum i j) t b, st => (atS 5 st).any fun (y : PySem.Expr × PySem.Expr × List Stmt × List Stmt × Pos) => (exTup y.1).any (fun z => (two z.1).any fun u => isSto X i u.1 && isSto X j u.2) && (exCall y.2.1).any (fun z => (exN z.1).any (fun x => globX X x && memP x (true, "enumerate") X.T.bt) && z.2.2.1.isEmpty && (one z.2.1).any fun u => noStar u && okT X t u) && okCs b y.2.2.1 && y.2.2.2.1.isEmpty
  | .forr i m b, st => (atS 5 st).any fun (y : PySem.Expr × PySem.Expr × List Stmt × List Stmt × Pos) => isSto X i y.1 && (exCall y.2.1).any (fun z => (exN z.1).any (fun x => globX X x && memP x (true, "range") X.T.bt) && z.2.2.1.isEmpty && (one z.2.1).any fun u => isK u m) && Nat.blt m 16777216 && okCs b y.2.2.1 && y.2.2.2.1.isEmpty
  | .lam _ _, _ => false
noncomputable def okCs : Cs → List Stmt → Bool
  | .nil, [] => true
  | .cons c r, st :: rest => okC c st && okCs r rest
  | _, _ => false
end
end
section
variable {C : Cfg} {F : Fm} {A : Around} {X : Sx} {S : Nat → Spec} {n : Nat} (c : Around' C F A X S n)
theorem swaps_scope {value : PySem.Expr} {t : Option PySem.Expr} {line : Nat} {env : Env} {b : Bool} (h : swapsWith value t line { scope := env.scope, locals := 0, globals := 0, cells := [] } = pure b) : swapsWith value t line env = pure b := h
noncomputable def Gc (C : Cfg) (F : Fm) (A : Around) (S : Nat → Spec) (t : Cmd) (st : Stmt) : Prop := OkC C F A st (wpC C S t)
noncomputable def GC (C : Cfg) (F : Fm) (A : Around) (S : Nat → Spec) (X : Sx) (t : Cmd) : Prop := ∀ st, okC X t st = true → Gc C F A S t st
noncomputable def GCs (C : Cfg) (F : Fm) (A : Around) (S : Nat → Spec) (X : Sx) (ts : Cs) : Prop := ∀ es, okCs X ts es = true → OkCs C F A es (wpCs C S ts)
include c
theorem sub_el {i a : Nat} {e : PySem.Expr} {M : PySem.Expr → Prop} (h : subK X i a e = true) (k : ∀ x xp kk cp sp, F.ns[i]? = some x → M (.Subscript (.Name x xp) (.Constant (.int a) kk cp) sp)) : M e :=
  elSub h fun l r sp q => loc_el c (M := fun l => M (.Subscript l r sp)) (l2 q) fun x xp hx => K_el (M := fun r => M (.Subscript (.Name x xp) r sp)) (r2 q) fun kk cp => k x xp kk cp sp hx
theorem c_asg (i : Nat) (t : Tm) : GC C F A S X (.asg i t) := fun st h => asg_el (M := Gc C F A S (.asg i t)) h fun l e z q => (Bool.or_eq_true_iff.mp q).elim
  (fun q => isComp_el (M := fun t => Gc C F A S (.asg i t) (.Assign [l] e z)) q fun j m t q => sto_el c (M := fun l => (semVal (swapsWith e (some l) z.line { scope := X.sc, locals := 0, globals := 0, cells := [] })).any id = true → Gc C F A S (.asg i (.comp j m t)) (.Assign [l] e z)) (l2 (l2 q)) (fun x xp hx hs =>
    comp_el c (M := fun e => (semVal (swapsWith e (some (.Name x xp)) z.line { scope := X.sc, locals := 0, globals := 0, cells := [] })).any id = true → Gc C F A S (.asg i (.comp j m t)) (.Assign [.Name x xp] e z)) (r2 (l2 q)) fun elt x' y rn px np cp q pos kk sc a1 a2 a3 a4 a5 a6 a7 h => elO h fun b h4 h5 => ok_acomp c hx hs (swaps_scope (c.sc ▸ (semVal_eq h4).trans (congrArg pure h5))) a1 a2 a3 a4 a5 a6 a7) (r2 q))
  fun q => sto_el c (M := fun l => Gc C F A S (.asg i t) (.Assign [l] e z)) (l2 (l2 q)) fun x xp hx hs => ok_asg c.fo hx hs (r2 (l2 q)) (okT_sound c t e (r2 q))
theorem c_casg (i : Nat) (t : Tm) : GC C F A S X (.casg i t) := fun st h => asg_el (M := Gc C F A S (.casg i t)) h fun l e z q => elN (M := fun l => Gc C F A S (.casg i t) (.Assign [l] e z)) (l2 (l2 q)) fun x xp r => (c.cst x (List.contains_iff_mem.mp (r2 r))).elim fun cc w =>
  ok_casg c.fo (c.ns ▸ isAt_eq (l2 (l2 r))) (c.sc ▸ eq_of_beq (r2 (l2 r))) w.1 w.2 (r2 (l2 q)) (okT_sound c t e (r2 q))
theorem c_aug (i : Nat) (op : Operator) (t : Tm) : GC C F A S X (.aug i op t) := fun st h => slAug (M := Gc C F A S (.aug i op t)) h fun l op' r z q => sto_el c (M := fun l => Gc C F A S (.aug i op t) (.AugAssign l op' r z)) (l2 (l2 q)) fun x xp hx hs => eqd (M := fun op' => Gc C F A S (.aug i op t) (.AugAssign (.Name x xp) op' r z)) (r2 (l2 q)) (ok_aug c.fo hx hs (okT_sound c t r (r2 q)))
theorem c_ladd (i : Nat) (t : Tm) : GC C F A S X (.ladd i t) := fun st h => slAug (M := Gc C F A S (.ladd i t)) h fun l op' r z q => sto_el c (M := fun l => Gc C F A S (.ladd i t) (.AugAssign l op' r z)) (l2 (l2 q)) fun x xp hx hs => eqd (M := fun op' => Gc C F A S (.ladd i t) (.AugAssign (.Name x xp) op' r z)) (r2 (l2 q)) (ok_ladd c.fo hx hs (okT_sound c t r (r2 q)))
theorem c_aat (i f : Nat) (op : Operator) (t : Tm) : GC C F A S X (.aat i f op t) := fun st h => slAug (M := Gc C F A S (.aat i f op t)) h fun l op' r z q => a_fld c (M := fun l => Gc C F A S (.aat i f op t) (.AugAssign l op' r z)) (l2 (l2 q)) fun x a xp p hx ha => eqd (M := fun op' => Gc C F A S (.aat i f op t) (.AugAssign (.Attribute (.Name x xp) a p) op' r z)) (r2 (l2 q)) (ok_aat c.fo c.co hx ha (okT_sound c t r (r2 q)))
theorem c_sat (i f : Nat) (t : Tm) : GC C F A S X (.sat i f t) := fun st h => asg_el (M := Gc C F A S (.sat i f t)) h fun l e z q => a_fld c (M := fun l => Gc C F A S (.sat i f t) (.Assign [l] e z)) (l2 (l2 q)) fun x a xp p hx ha => ok_sat c.fo c.co hx ha (r2 (l2 q)) (okT_sound c t e (r2 q))
theorem c_six (a b t : Tm) : GC C F A S X (.six a b t) := fun st h => asg_el (M := Gc C F A S (.six a b t)) h fun l e z q => elSub (M := fun l => Gc C F A S (.six a b t) (.Assign [l] e z)) (l2 (l2 q)) fun o i p r => ok_six (r2 (l2 q)) (okT_sound c t e (r2 q)) (okT_sound c a o (l2 r)) (okT_sound c b i (r2 r))
theorem c_sls (i : Nat) (lo hi t : Tm) : GC C F A S X (.sls i lo hi t) := fun st h => asg_el (M := Gc C F A S (.sls i lo hi t)) h fun l e z q => elSub (M := fun l => Gc C F A S (.sls i lo hi t) (.Assign [l] e z)) (l2 (l2 q)) fun o sl p r => loc_el c (M := fun o => Gc C F A S (.sls i lo hi t) (.Assign [.Subscript o sl p] e z)) (l2 r) fun x xp hx =>
  elSl (M := fun sl => Gc C F A S (.sls i lo hi t) (.Assign [.Subscript (.Name x xp) sl p] e z)) (r2 r) fun a b s p' r => some_el (M := fun a => Gc C F A S (.sls i lo hi t) (.Assign [.Subscript (.Name x xp) (.Slice a b s p') p] e z)) (l2 (l2 r)) fun ea h1 => some_el (M := fun b => Gc C F A S (.sls i lo hi t) (.Assign [.Subscript (.Name x xp) (.Slice _ b s p') p] e z)) (r2 (l2 r)) fun eb h2 =>
  non_el (M := fun s => Gc C F A S (.sls i lo hi t) (.Assign [.Subscript (.Name x xp) (.Slice _ _ s p') p] e z)) (r2 r) (ok_sls c.fo hx (r2 (l2 q)) (okT_sound c t e (r2 q)) (okT_sound c lo ea h1) (okT_sound c hi eb h2))
theorem c_tsx (i a b : Nat) (t : Tm) : GC C F A S X (.tsx i a b t) := fun st h => asg_el (M := Gc C F A S (.tsx i a b t)) h fun l e z q => elTup (M := fun l => Gc C F A S (.tsx i a b t) (.Assign [l] e z)) (l2 (l2 q)) fun es kk tp r =>
  two_el (M := fun es => (swapOf es kk tp e X.sc).any (·.isNone) = true → Gc C F A S (.tsx i a b t) (.Assign [.Tuple es kk tp] e z)) (l2 r) (fun l1 l2' s => sub_el c (M := fun l1 => (swapOf [l1, l2'] kk tp e X.sc).any (·.isNone) = true → Gc C F A S (.tsx i a b t) (.Assign [.Tuple [l1, l2'] kk tp] e z)) (l2 s) fun x xp k1 cp sp hx =>
    sub_el c (M := fun l2' => (swapOf [_, l2'] kk tp e X.sc).any (·.isNone) = true → Gc C F A S (.tsx i a b t) (.Assign [.Tuple [_, l2'] kk tp] e z)) (r2 s) fun x' xp' k2 cp' sp' hx' w => elO w fun u hu hn => by
      obtain rfl : x' = x := Option.some.inj (hx'.symm.trans hx)
      obtain rfl := Option.isNone_iff_eq_none.mp hn
      exact ok_tsx c hx (r2 (l2 q)) (swapOf_eq hu c.sc) (okT_sound c t e (r2 q))) (r2 r)
theorem tas_el {is : List Nat} {t : Tm} {st : Stmt} {M : Stmt → Prop} (h : asg1 st (kTas X is t) = true) (k : ∀ es kk tp e z, namesAre X es is = true → noComp e = true → swappedStores [.Tuple es kk tp] e F.env = pure none → OkT C F A e (wpT C S t) → M (.Assign [.Tuple es kk tp] e z)) : M st :=
  asg_el h fun l e z q => elTup (M := fun l => M (.Assign [l] e z)) (l2 (l2 q)) fun es kk tp r => elO (r2 r) fun u hu hn => k es kk tp e z (l2 r) (r2 (l2 q)) (swapOf_eq (hu.trans (congrArg some (Option.isNone_iff_eq_none.mp hn))) c.sc) (okT_sound c t e (r2 q))
theorem c_tas (is : List Nat) (t : Tm) : GC C F A S X (.tas is t) := fun st h => tas_el c (M := Gc C F A S (.tas is t)) h fun _ _ _ _ _ a b d e => ok_tas c a b d e
theorem c_tal (is : List Nat) (t : Tm) : GC C F A S X (.tal is t) := fun st h => tas_el c (M := Gc C F A S (.tal is t)) h fun _ _ _ _ _ a b d e => ok_tal c a b d e
theorem c_tar (is : List Nat) (t : Tm) : GC C F A S X (.tar is t) := fun st h => asg_el (M := Gc C F A S (.tar is t)) h fun l e z q => elTup (M := fun l => Gc C F A S (.tar is t) (.Assign [l] e z)) (l2 (l2 q)) fun es kk tp r => elO r fun u hu hs => elO hs fun xs hx hy =>
  ok_tar c hy (r2 (l2 q)) (swapOf_eq (hu.trans (congrArg some hx)) c.sc) (okT_sound c t e (r2 q))
theorem c_ifc (t : Tm) (a b : Cs) (ha : GCs C F A S X a) (hb : GCs C F A S X b) : GC C F A S X (.ifc t a b) := fun st h => slIf (M := Gc C F A S (.ifc t a b)) h fun e l r z q => ok_ifc (okB_sound c t e (l2 (l2 q))) (ha l (r2 (l2 q))) (hb r (r2 q))
theorem c_whl (t : Tm) (b : Cs) (hb : GCs C F A S X b) : GC C F A S X (.whl t b) := fun st h => slWhl (M := Gc C F A S (.whl t b)) h fun e l r z q => emp_el (M := fun r => Gc C F A S (.whl t b) (.While e l r z)) (r2 q) (ok_whl (okB_sound c t e (l2 (l2 q))) (hb l (r2 (l2 q))))
theorem c_ret (t : Tm) : GC C F A S X (.ret t) := fun st h => slRet (M := Gc C F A S (.ret t)) h fun e z q => some_el (M := fun e => Gc C F A S (.ret t) (.Return e z)) q fun e q => ok_ret (okT_sound c t e q)
omit c in
theorem c_retn : GC C F A S X .retn := fun st h => slRet (M := Gc C F A S .retn) h fun e z q => non_el (M := fun e => Gc C F A S .retn (.Return e z)) q ok_retn
theorem c_ex (t : Tm) : GC C F A S X (.ex t) := fun st h => slEx (M := Gc C F A S (.ex t)) h fun e z q => ok_ex c.fo (l2 q) (okT_sound c t e (r2 q))
omit c in
theorem c_pass : GC C F A S X .pass := fun st h => slPass (M := Gc C F A S .pass) h fun z q => ok_pass
omit c in
theorem c_brk : GC C F A S X .brk := fun st h => slBrk (M := Gc C F A S .brk) h fun z q => ok_brk
theorem c_app (i : Nat) (t : Tm) : GC C F A S X (.app i t) := fun st h => slEx (M := Gc C F A S (.app i t)) h fun e z q => elCall (M := fun e => Gc C F A S (.app i t) (.Expr e z)) q fun g es ks p q => a_att c (M := fun g => Gc C F A S (.app i t) (.Expr (.Call g es ks p) z)) (l2 (l2 q)) fun x xp ap hx hl =>
  emp_el (M := fun ks => Gc C F A S (.app i t) (.Expr (.Call (.Attribute (.Name x xp) "append" ap) es ks p) z)) (r2 (l2 q)) <| one_el (M := fun es => Gc C F A S (.app i t) (.Expr (.Call (.Attribute (.Name x xp) "append" ap) es [] p) z)) (r2 q) fun u w => ok_app c.fo hx (l2 w) hl (okT_sound c t u (r2 w))
theorem b_el {nm : String} {b : Bool} {e : PySem.Expr} {p : PySem.Expr → Bool} {M : PySem.Expr → Prop} (h : (exCall e).any (fun z => (exN z.1).any (fun x => globX X x && memP x (b, nm) X.T.bt) && z.2.2.1.isEmpty && (one z.2.1).any p) = true) (k : ∀ x np u cp, globX X x = true → (x, (b, nm)) ∈ X.T.bt → p u = true → M (.Call (.Name x np) [u] [] cp)) : M e :=
  elCall h fun g es ks cp q => elN (M := fun g => M (.Call g es ks cp)) (l2 (l2 q)) fun x np r => emp_el (M := fun ks => M (.Call (.Name x np) es ks cp)) (r2 (l2 q)) <| one_el (M := fun es => M (.Call (.Name x np) es [] cp)) (r2 q) fun u w => k x np u cp (l2 r) (memP_mem (r2 r)) w
theorem c_forc (g : Tgt) (t : Tm) (b : Cs) (hb : GCs C F A S X b) : GC C F A S X (.forc g t b) := fun st h => match g, h with
  | .one i, h => slFor (M := Gc C F A S (.forc (.one i) t b)) h fun tg it body oe z q => emp_el (M := fun oe => Gc C F A S (.forc (.one i) t b) (.For tg it body oe z)) (r2 q) <| sto_el c (M := fun tg => Gc C F A S (.forc (.one i) t b) (.For tg it body [] z)) (l2 (l2 (l2 (l2 q)))) fun x xp hx hs =>
    ok_for c (r2 (l2 (l2 (l2 q)))) (okT_sound c t it (r2 (l2 (l2 q)))) (hb body (r2 (l2 q))) (it_one c hx hs)
  | .enum i j, h => slFor (M := Gc C F A S (.forc (.enum i j) t b)) h fun tg it body oe z q => emp_el (M := fun oe => Gc C F A S (.forc (.enum i j) t b) (.For tg it body oe z)) (r2 q) <| elTup (M := fun tg => Gc C F A S (.forc (.enum i j) t b) (.For tg it body [] z)) (l2 (l2 (l2 q))) fun es kk tp r =>
    two_el (M := fun es => Gc C F A S (.forc (.enum i j) t b) (.For (.Tuple es kk tp) it body [] z)) r fun l1 l2' r => sto_el c (M := fun l1 => Gc C F A S (.forc (.enum i j) t b) (.For (.Tuple [l1, l2'] kk tp) it body [] z)) (l2 r) fun xi p1 hi hsi => sto_el c (M := fun l2' => Gc C F A S (.forc (.enum i j) t b) (.For (.Tuple [_, l2'] kk tp) it body [] z)) (r2 r) fun xj p2 hj hsj =>
    b_el c (M := fun it => Gc C F A S (.forc (.enum i j) t b) (.For _ it body [] z)) (r2 (l2 (l2 q))) fun ne np u cp g1 g2 w => ok_forE c hi hj hsi hsj (glob_eq c g1) g2 (l2 w) (okT_sound c t u (r2 w)) (hb body (r2 (l2 q)))
theorem c_forr (i m : Nat) (b : Cs) (hb : GCs C F A S X b) : GC C F A S X (.forr i m b) := fun st h => slFor (M := Gc C F A S (.forr i m b)) h fun tg it body oe z q => emp_el (M := fun oe => Gc C F A S (.forr i m b) (.For tg it body oe z)) (r2 q) <| sto_el c (M := fun tg => Gc C F A S (.forr i m b) (.For tg it body [] z)) (l2 (l2 (l2 (l2 q)))) fun x xp hx hs =>
  b_el c (M := fun it => Gc C F A S (.forr i m b) (.For (.Name x xp) it body [] z)) (r2 (l2 (l2 (l2 q)))) fun ne np u cp g1 g2 w => K_el (M := fun u => Gc C F A S (.forr i m b) (.For (.Name x xp) (.Call (.Name ne np) [u] [] cp) body [] z)) w fun kk kp => ok_forr c hx hs g1 g2 (Nat.blt_eq.mp (r2 (l2 (l2 q)))) (hb body (r2 (l2 q)))
theorem okC_all (ts : Cs) : GCs C F A S X ts := Cs.rec (motive_1 := GC C F A S X) (motive_2 := GCs C F A S X) (c_asg c) (c_aug c) (c_sat c) (c_aat c) (c_six c) (c_ifc c) (c_ret c) c_retn (c_ex c) c_pass c_brk (c_tas c) (c_tar c) (c_app c) (c_forc c) (c_casg c) (c_sls c) (c_ladd c) (c_tsx c) (c_tal c) (c_whl c) (c_forr c) (fun _ _ _ h => nomatch h)
  (fun es h => match es, h with | [], _ => oks_nil) (fun t r ht hr es h => match es, h with | e :: es, h => oks_cons (ht e (l2 h)) (hr es (r2 h))) ts
theorem okCs_sound (ts : Cs) (es : List Stmt) (h : okCs X ts es = true) : OkCs C F A es (wpCs C S ts) := okC_all c ts es h
end
end Mine.Py
end
section
open PySem PySem.W PyProof.Rows PySem.Calls
namespace Mine.Py
open Mine.Dx
theorem lookup_uniq {x : Str} {v : Value} : ∀ {l : List (Str × Value)}, (x, v) ∈ l → (∀ w, (x, w) ∈ l → w = v) → l.lookup x = some v
  | [], h, _ => by cases h
  | (y, w) :: r, h, u => by
    rw [List.lookup_cons]
    cases q : x == y with
    | true =>
      obtain rfl := beq_iff_eq.mp q
      rw [u w (.head _)]
    | false =>
      rcases List.mem_cons.mp h with h | h
      · cases h; simp at q
      · exact lookup_uniq h fun w hw => u w (.tail _ hw)
theorem zip_mem {α β : Type} : ∀ {l : List α} {r : List β} {a : α} {b : β}, (a, b) ∈ l.zip r → ∃ i : Nat, l[i]? = some a ∧ r[i]? = some b
  | x :: l, y :: r, a, b, h => by
    rcases List.mem_cons.mp h with h | h
    · cases h; exact ⟨0, rfl, rfl⟩
    · obtain ⟨i, h1, h2⟩ := zip_mem h; exact ⟨i + 1, h1, h2⟩
  | [], _, _, _, h => by cases h
  | _ :: _, [], _, _, h => by cases h
theorem mem_zip {α β : Type} : ∀ {l : List α} {r : List β} {a : α} {b : β} {i : Nat}, l[i]? = some a → r[i]? = some b → (a, b) ∈ l.zip r
  | x :: l, y :: r, a, b, 0, h1, h2 => by cases h1; cases h2; exact .head _
  | x :: l, y :: r, a, b, i + 1, h1, h2 => .tail _ (mem_zip (i := i) (by simpa using h1) (by simpa using h2))
  | [], _, _, _, _, h1, _ => by simp at h1
  | _ :: _, [], _, _, _, _, h2 => by simp at h2
noncomputable def retPost (Q : AV → St → Prop) : Fl → Loc → St → Prop
  | .ret v, _, σ => Q v σ
  | .next, _, σ => Q (.at .none) σ
  | _, _, _ => False
noncomputable def args0 (args : List AV) (m : Nat) : Loc := args.map some ++ List.replicate m none
section
variable {C : Cfg} {F : Fm} {X : Sx} {S : Nat → Spec} {n : Nat}
theorem enter {ρ : Loc} {σ : St} {θ δ : Nat → Nat} {s : Shared} {h₀ : Heap} {t : Nat} (H : RelH C σ θ δ s.heap) (keep : ∀ b o, s.heap.get? b = some o → h₀.get? b = some o) (fL : s.heap.get? F.L = none) (hns : ∃ m, h₀.Ns F.L m)
    (loc : ∀ (i : Nat) x v, F.ns[i]? = some x → ρ[i]? = some (some v) → ∃ val, F.At h₀ x val ∧ Val C s.heap σ.length θ v val) (cel : ∀ c, c ∈ F.oc → s.heap.get? c = none ∧ ∃ o v, h₀.get? c = some o ∧ o.data = .cell v ∧ immB o = false)
    (len : ρ.length = F.ns.length) (hg : s.gens = C.gens) (hos : s.os = C.os) : R C F ρ σ θ δ { s with heap := h₀, toks := t } := by
  refine ⟨H.keepAll keep, hns, fun i x v hx hv => let ⟨val, a, V⟩ := loc i x v hx hv; ⟨val, a, V.mono (Nat.le_refl _) (fun _ _ => rfl) fun b o e _ => keep b o e⟩, fun c hc => ⟨H.new (cel c hc).1, (cel c hc).2⟩, len, fun q hq => ?_, H.new fL, hg, hos⟩
  obtain ⟨⟨o1, q1⟩, ⟨o2, q2⟩⟩ := H.there hq
  refine ⟨fun z => ?_, fun z => ?_⟩
  · rw [z, fL] at q1; cases q1
  · rw [z, fL] at q2; cases q2
theorem leave {ρ' : Loc} {σ σ' : St} {θ δ θ' δ' : Nat → Nat} {s s' : Shared} {h₀ : Heap} {t : Nat} (b : Back C F ρ' σ θ δ { s with heap := h₀, toks := t } σ' θ' δ' s') (keep : ∀ b o, s.heap.get? b = some o → h₀.get? b = some o) (fL : s.heap.get? F.L = none) (fo : ∀ c, c ∈ F.oc → s.heap.get? c = none) : Done C σ θ δ s σ' θ' δ' s' := by
  refine ⟨b.r.H, fun q o e nw nt => b.kept q o (keep q o e) (fun z => ?_) nt, ⟨b.ext.1, b.ext.2.1, fun q h1 h2 => ?_⟩, b.r.gens, b.r.os⟩
  · rcases List.mem_cons.mp z with z | z
    · exact nw z
    · rcases List.mem_cons.mp z with z | z
      · rw [z, fL] at e; cases e
      · rw [fo q z] at e; cases e
  · have := b.ext.2.2 q h1 h2
    have tr : ∀ a, h₀.get? a = none → s.heap.get? a = none := fun a ea => by
      cases ee : s.heap.get? a with
      | none => rfl
      | some o => rw [keep a o ee] at ea; cases ea
    exact ⟨tr _ this.1, tr _ this.2⟩
structure FnIs (C : Cfg) (X : Sx) (f : Nat) (pn : List Str) (m : Nat) (body : List Stmt) : Prop where
  fn : ∃ o fd, C.K.lookup (C.fa f) = some o ∧ o.data = .func fd ∧ codeIn C.K fd.code fd.qualname = true ∧ fd.body = .stmts body ∧ fd.globals = mainGlobals ∧ fd.builtins = builtinsNs ∧ fd.closure = [] ∧ fd.scope = X.sc
  kind : X.sc.kind = .function
  gen : X.sc.isGenerator = false ∧ X.sc.isCoroutine = false
  ns : X.ns.take pn.length = pn ∧ X.ns.length = pn.length + m
  nodup : ∀ (i j : Nat) x, X.ns[i]? = some x → X.ns[j]? = some x → i = j
  dbg : ∀ (i : Nat) x, X.ns[i]? = some x → (x == ("__debug__" : Str)) = false
  more : (X.sc.more.any fun (k, _) => k == ("interactive" : Str)) = false
structure AllLoc (X : Sx) : Prop where
  cell : ∀ x ∈ X.sc.names, x.2 ≠ .cell
  loc : ∀ (i : Nat) x, X.ns[i]? = some x → X.sc.names.lookup x = some .local
  cst : X.cst = []
theorem pn_at {f m : Nat} {pn : List Str} {body : List Stmt} (fi : FnIs C X f pn m body) {i : Nat} {x : Str} (hx : pn[i]? = some x) : X.ns[i]? = some x := by
  have : (X.ns.take pn.length)[i]? = some x := by rw [fi.ns.1]; exact hx
  rw [List.getElem?_take] at this
  split at this
  · exact this
  · cases this
theorem args_at {args : List AV} {m i : Nat} {v : AV} (hv : (args0 args m)[i]? = some (some v)) : i < args.length ∧ args[i]? = some v := by
  unfold args0 at hv
  have hi : i < args.length := by
    rcases Nat.lt_or_ge i args.length with q | q
    · exact q
    · rw [List.getElem?_append_right (by simpa using q), List.getElem?_replicate] at hv
      split at hv <;> cases hv
  rw [List.getElem?_append_left (by simpa using hi), List.getElem?_map] at hv
  obtain ⟨v', hv', e⟩ := Option.map_eq_some_iff.mp hv
  cases e
  exact ⟨hi, hv'⟩
theorem body_call {f m : Nat} {pn : List Str} {body : List Stmt} {cs : Cs} {ag : Args} (fi : FnIs C X f pn m body) (al : AllLoc X) (co : CfgOk C X.T) (ha : C.attrs = X.attrs) (so : SpecsOk C n S) (ok : okCs X cs body = true)
    {args : List AV} {σ : St} {Q : AV → St → Prop} (hlen : args.length = pn.length) (hw : wpCs C S cs (args0 args m) σ (retPost Q)) {A : Around} (hA : Room1 A n) {s : Shared} {θ δ : Nat → Nat} (H : RelH C σ θ δ s.heap) (hg : s.gens = C.gens) (hos : s.os = C.os) {vals : List Value} (V : All2 (Val C s.heap σ.length θ) args vals)
    (hbind : ∀ fd o, C.K.lookup (C.fa f) = some o → o.data = .func fd → BindsTo s fd ag (pn.zip vals)) {Rc : Result → Shared → Prop}
    (k : ∀ v σ' θ' δ' s' val, Q v σ' → Done C σ θ δ s σ' θ' δ' s' → Val C s'.heap σ'.length θ' v val → Rc (.ok (.ret val)) s') : codeAny (model C.P C.w) A (.call (.ref (C.fa f)) ag) Rc s := by
  obtain ⟨o, fd, e1, e2, e3, e4, e5, e6, e7, e8⟩ := fi.fn
  have hvl : vals.length = pn.length := by rw [← V.length, hlen]
  refine codeAny_call_def (body := body) (binds := pn.zip vals) (by have := hA.1; show A.depth < 1000; lia) (H.kin _ _ e1) e2 H.lim (codeRec_of H.kin e3) e4 (hbind fd o e1 e2) (by rw [e8]; exact al.cell) (fun x hx => ?_) (fun h₀ hns keep => ?_) (by rw [e8]; exact fi.gen.2) (by rw [e8]; exact fi.gen.1) (by rw [e8]; exact fi.kind)
  · rw [e8]
    obtain ⟨i, h1, _⟩ := zip_mem (a := x.1) (b := x.2) hx
    exact al.loc i x.1 (pn_at fi h1)
  let F : Fm := ⟨callEnv fd s.heap.objs.size (C.fa f), X.ns, s.heap.objs.size, []⟩
  have none : s.heap.get? s.heap.objs.size = none := get_size (Nat.le_refl _)
  have sc : F.env.scope = X.sc := e8
  have fo : FmOk F := ⟨by rw [sc]; exact fi.kind, rfl, e5, e6, fun i x hx => ⟨.inl (by rw [sc]; exact al.loc i x hx), fi.dbg i x hx⟩, fi.nodup, (fun x y c h => by
    rw [show F.env.cells = [] from e7] at h; cases h), by
    show (fd.scope.kind == .module && _) = false
    rw [e8, fi.kind]; rfl⟩
  have room : Room (A.deeper (callEnv fd s.heap.objs.size (C.fa f))) n := ⟨hA.1, hA.2.1, hA.2.2⟩
  have c : Around' C F (A.deeper (callEnv fd s.heap.objs.size (C.fa f))) X S n := ⟨fo, co, so, room, rfl, ha, sc, fun x hx => by rw [al.cst] at hx; cases hx⟩
  have r : R C F (args0 args m) σ θ δ { s with heap := h₀, toks := s.toks + (pn.zip vals).length } := by
    refine enter H keep none ⟨_, hns⟩ (fun i x v hx hv => ?_) (fun c hc => by cases hc) ?_ hg hos
    · obtain ⟨hi, hv'⟩ := args_at hv
      obtain ⟨val, h1, h2⟩ := V.get hv'
      have hp : pn[i]? = some x := by
        have : (X.ns.take pn.length)[i]? = some x := by rw [List.getElem?_take, if_pos (by lia)]; exact hx
        rw [fi.ns.1] at this; exact this
      refine ⟨val, .inl ⟨by rw [sc]; exact al.loc i x hx, _, hns, lookup_uniq (by rw [List.mem_reverse]; exact mem_zip hp h1) fun w hw => ?_⟩, h2⟩
      rw [List.mem_reverse] at hw
      obtain ⟨j, h3, h4⟩ := zip_mem hw
      have : j = i := fi.nodup j i x (pn_at fi h3) hx
      subst this
      rw [h1] at h4; cases h4; rfl
    · show (args0 args m).length = X.ns.length
      unfold args0
      simp [hlen, fi.ns.2]
  refine wpAny_mono (okCs_sound c cs body ok (args0 args m) σ _ hw _ θ δ r (fun f s' => Rc (.ok (.ret (match f with | .ret v => v | _ => .none))) s') fun fl ρ' σ' θ' δ' s' fl' hq b Fv => ?_) (fun _ _ x => x) (fun _ _ x => x.elim)
  have d : Done C σ θ δ s σ' θ' δ' s' := leave b keep none fun c hc => by cases hc
  cases fl with
  | next => cases Fv; exact k _ _ _ _ _ _ hq d rfl
  | brk => exact hq.elim
  | cont => exact hq.elim
  | ret v => obtain ⟨val, rfl, V'⟩ := Fv; exact k _ _ _ _ _ _ hq d V'
theorem spec_of_body {f m : Nat} {pn : List Str} {body : List Stmt} {cs : Cs} {W : Spec} (fi : FnIs C X f pn m body) (al : AllLoc X) (fb : ∀ fd o, C.K.lookup (C.fa f) = some o → o.data = .func fd → ∀ vals : List Value, vals.length = pn.length → bindArgs fd ⟨vals, []⟩ = pure (pn.zip vals)) (co : CfgOk C X.T) (ha : C.attrs = X.attrs) (so : SpecsOk C n S) (ok : okCs X cs body = true)
    (hW : ∀ args σ Q, W args σ Q → args.length = pn.length ∧ wpCs C S cs (args0 args m) σ (retPost Q)) : SpecOk C (n + 1) f W := by
  intro args σ Q h A hA s θ δ H hg hos vals V Rc k
  obtain ⟨hlen, hw⟩ := hW args σ Q h
  exact body_call fi al co ha so ok hlen hw hA.one H hg hos V (fun fd o e1 e2 => .of_eq (fb fd o e1 e2 vals (by rw [← V.length, hlen]))) k
theorem under_room {A : Around} {n : Nat} {args : List Value} {kw : List (Str × Value)} {a : Addr} (h : Room A (n + 1)) : Room1 (A.under (.builtin "type.__call__" ⟨.ref a :: args, kw⟩)) n := by
  have e1 : (A.under (.builtin "type.__call__" ⟨.ref a :: args, kw⟩)).depth = A.depth + 1 := rfl
  have e2 : (A.under (.builtin "type.__call__" ⟨.ref a :: args, kw⟩)).units = A.units + 1 := rfl
  exact ⟨by rw [e1]; have := h.1; lia, by rw [e2]; have := h.2.1; lia, h.2.2⟩
theorem new_of_body {m : Nat} {pn : List Str} {body : List Stmt} {cs : Cs} {W : Spec} (fi : FnIs C X 200 pn m body) (al : AllLoc X) (hp : pn.length = 3) (co : CfgOk C X.T) (ha : C.attrs = X.attrs) (so : SpecsOk C n S) (ok : okCs X cs body = true)
    (hm : makesIn C.K C.C = true) (hi : findIn C.K (.ref C.C) "__init__" = some (some (.ref (C.fa 200)))) (hf : typeIn C.K (.ref (C.fa 200)) = some (.type "function"))
    (fb : ∀ fd o, C.K.lookup (C.fa 200) = some o → o.data = .func fd → ∀ x va vb : Value, ∀ s : Shared, C.K.In s.heap → BindsTo s fd ⟨[x], [("memory", va), ("pc", vb)]⟩ (pn.zip [x, va, vb]))
    (hW : ∀ a b σ Q, W [a, b] σ Q → wpCs C S cs (args0 [.ins σ.length, a, b] m) (σ ++ [.inst []]) (retPost fun v σ' => v = .at .none ∧ Q (.ins σ.length) σ')) : NewOk C (n + 1) W := by
  intro a b σ Q h A hA s θ δ H hg hos va vb Va Vb Rc k
  obtain ⟨hh, g, d, t, os⟩ := s
  refine make_core (makes_of H.kin hm) (looks_findIn H.kin hi) (fun self => bind_fn H.kin self hf) (.inl rfl) ?_
  have keep : ∀ b o, hh.get? b = some o → ((hh.push emptyDict).push (instObj C.C hh.objs.size)).get? b = some o := fun b o e => Heap.get?_push_of_some _ (Heap.get?_push_of_some _ e)
  have eD : ((hh.push emptyDict).push (instObj C.C hh.objs.size)).get? hh.objs.size = some (dictOf [] 0) := Heap.get?_push_of_some _ (Heap.get?_push_size _ rfl)
  have eX : ((hh.push emptyDict).push (instObj C.C hh.objs.size)).get? (hh.objs.size + 1) = some (instObj C.C hh.objs.size) := by
    have := Heap.get?_push_size (hh.push emptyDict) (o := instObj C.C hh.objs.size) rfl
    rwa [Heap.size_push] at this
  have nX : hh.get? (hh.objs.size + 1) = none := get_size (Nat.le_succ _)
  have nD : hh.get? hh.objs.size = none := get_size (Nat.le_refl _)
  have H' : RelH C (σ ++ [.inst []]) (ext1 θ σ.length (hh.objs.size + 1)) (ext1 δ σ.length hh.objs.size) ((hh.push emptyDict).push (instObj C.C hh.objs.size)) :=
    H.grow keep nX nD ⟨[], 0, by rw [ext1_new, ext1_new]; exact eX, by rw [ext1_new]; exact eD, by cases C.attrs <;> trivial⟩
  have imm : ∀ b o, hh.get? b = some o → Imm o → ((hh.push emptyDict).push (instObj C.C hh.objs.size)).get? b = some o := fun b o e _ => keep b o e
  have vm : ∀ {v x}, Val C hh σ.length θ v x → Val C ((hh.push emptyDict).push (instObj C.C hh.objs.size)) (σ ++ [AO.inst []]).length (ext1 θ σ.length (hh.objs.size + 1)) v x := fun V => V.mono (by simp) (fun k q => ext1_old q) imm
  have len : (σ ++ [AO.inst []]).length = σ.length + 1 := by simp
  refine body_call (s := ⟨(hh.push emptyDict).push (instObj C.C hh.objs.size), g, d, t, os⟩) (θ := ext1 θ σ.length (hh.objs.size + 1)) (δ := ext1 δ σ.length hh.objs.size) (args := [.ins σ.length, a, b]) fi al co ha so ok (by rw [hp]; rfl) (hW a b σ Q h) (under_room hA) H' hg hos (vals := [.ref (hh.objs.size + 1), va, vb])
    (.cons ⟨by rw [len]; lia, by rw [ext1_new]⟩ (.cons (vm Va) (.cons (vm Vb) .nil))) (fun fd o e1 e2 => fb fd o e1 e2 _ _ _ _ H'.kin) fun v σ' θ' δ' s' val hq dn V => ?_
  obtain ⟨rfl, hq⟩ := hq
  have ex : θ' σ.length = hh.objs.size + 1 := by rw [(dn.ext.2.1 σ.length (by rw [len]; lia)).1, ext1_new]
  have lt : σ.length < σ'.length := by have := dn.ext.1; rw [len] at this; lia
  refine ⟨V, k _ _ _ _ _ _ hq ⟨dn.H, fun c o e nw nt => dn.kept c o (keep c o e) nw fun q hq => ?_, ⟨by lia, fun q hq => ?_, fun q h1 h2 => ?_⟩, dn.gens, dn.os⟩ ⟨lt, by rw [ex]⟩⟩
  · rw [len] at hq
    by_cases z : q < σ.length
    · rw [ext1_old z, ext1_old z]; exact nt q z
    · obtain rfl : q = σ.length := by lia
      rw [ext1_new, ext1_new]
      have : c < hh.objs.size := Heap.lt_size (h := hh) e
      exact ⟨Nat.ne_of_lt (Nat.lt_succ_of_lt this), Nat.ne_of_lt this⟩
  · have := dn.ext.2.1 q (by rw [len]; lia)
    rw [ext1_old hq, ext1_old hq] at this
    exact this
  · by_cases z : q = σ.length
    · subst z
      have := dn.ext.2.1 σ.length (by rw [len]; lia)
      rw [ext1_new, ext1_new] at this
      rw [this.1, this.2]
      exact ⟨nX, nD⟩
    · have := dn.ext.2.2 q (by rw [len]; lia) h2
      have tr : ∀ c, ((hh.push emptyDict).push (instObj C.C hh.objs.size)).get? c = none → hh.get? c = none := fun c e => by
        cases q' : hh.get? c with
        | none => rfl
        | some o => rw [keep c o q'] at e; cases e
      exact ⟨tr _ this.1, tr _ this.2⟩
end
end Mine.Py
end
section
open PySem PySem.W PyProof.Rows PySem.Calls
namespace Mine.Py
open Mine.Dx
theorem bindL_at {k : Str → Option NameKind} {x : Str} {v : Value} (hk : k x = some .local) : ∀ (l : List (Str × Value)) (m : Str → Option Value), (∀ w, (x, w) ∈ l → w = v) → (∃ w, (x, w) ∈ l) ∨ m x = some v → bindL k l m x = some v
  | [], m, _, h => by
    rcases h with ⟨w, h⟩ | h
    · cases h
    · exact h
  | (y, w) :: r, m, u, h => by
    unfold bindL
    refine bindL_at hk r _ (fun w' h' => u w' (.tail _ h')) ?_
    by_cases q : x = y
    · subst q
      right
      rw [if_pos hk, if_pos rfl, u w (.head _)]
    · rcases h with ⟨w', h⟩ | h
      · rcases List.mem_cons.mp h with h | h
        · cases h; exact absurd rfl q
        · exact .inl ⟨w', h⟩
      · right
        split
        · show (if x = y then some w else m x) = _; rw [if_neg q]; exact h
        · exact h
theorem bindC_at {k : Str → Option NameKind} {x : Str} {v : Value} (hk : k x ≠ some .local) : ∀ (l : List (Str × Value)) (m : Str → Option Value), (∀ w, (x, w) ∈ l → w = v) → (∃ w, (x, w) ∈ l) ∨ m x = some v → bindC k l m x = some v
  | [], m, _, h => by
    rcases h with ⟨w, h⟩ | h
    · cases h
    · exact h
  | (y, w) :: r, m, u, h => by
    unfold bindC
    refine bindC_at hk r _ (fun w' h' => u w' (.tail _ h')) ?_
    by_cases q : x = y
    · subst q
      right
      rw [if_neg hk, if_pos rfl, u w (.head _)]
    · rcases h with ⟨w', h⟩ | h
      · rcases List.mem_cons.mp h with h | h
        · cases h; exact absurd rfl q
        · exact .inl ⟨w', h⟩
      · right
        split
        · exact h
        · show (if x = y then some w else m x) = _; rw [if_neg q]; exact h
theorem bindC_none {k : Str → Option NameKind} {x : Str} : ∀ (l : List (Str × Value)) (m : Str → Option Value), (∀ w, (x, w) ∉ l) → m x = none → bindC k l m x = none
  | [], m, _, h => h
  | (y, w) :: r, m, u, h => by
    unfold bindC
    refine bindC_none r _ (fun w' h' => u w' (.tail _ h')) ?_
    split
    · exact h
    · by_cases q : x = y
      · subst q; exact absurd (.head _) (u w)
      · show (if x = y then some w else m x) = _; rw [if_neg q]; exact h
noncomputable def isCellK (x : Str × NameKind) : Bool := x.2 == .cell
theorem cells_none : ∀ (l : List (Str × NameKind)) (n : Nat) (acc : List (Str × Addr)), l.filter isCellK = [] → cellsFrom n l acc = acc
  | [], n, acc, _ => rfl
  | (x, k) :: r, n, acc, h => by
    unfold cellsFrom
    by_cases q : (k == NameKind.cell) = true
    · rw [List.filter_cons_of_pos (show isCellK (x, k) = true from q)] at h; cases h
    · rw [if_neg q]
      rw [List.filter_cons_of_neg (show ¬ isCellK (x, k) = true from q)] at h
      exact cells_none r n acc h
theorem cells_one : ∀ (l : List (Str × NameKind)) (n : Nat) (acc : List (Str × Addr)) (y : Str), l.filter isCellK = [(y, .cell)] → cellsFrom n l acc = (y, n) :: acc
  | [], n, acc, y, h => by cases h
  | (x, k) :: r, n, acc, y, h => by
    unfold cellsFrom
    by_cases q : (k == NameKind.cell) = true
    · rw [if_pos q]
      rw [List.filter_cons_of_pos (show isCellK (x, k) = true from q)] at h
      injection h with h1 h2
      injection h1 with h3 h4
      subst h3
      exact cells_none r _ _ h2
    · rw [if_neg q]
      rw [List.filter_cons_of_neg (show ¬ isCellK (x, k) = true from q)] at h
      exact cells_one r n acc y h
structure OneCell (X : Sx) (y : Str) : Prop where
  cells : X.sc.names.filter isCellK = [(y, .cell)]
  look : X.sc.names.lookup y = some .cell
  loc : ∀ (i : Nat) x, X.ns[i]? = some x → x = y ∨ X.sc.names.lookup x = some .local
section
variable {C : Cfg} {F : Fm} {X : Sx} {S : Nat → Spec} {n : Nat}
theorem body_callC {f m : Nat} {pn : List Str} {body : List Stmt} {y : Str} {W : Loc → St → (Fl → Loc → St → Prop) → Prop} (fi : FnIs C X f pn m body) (oc : OneCell X y) (hcst : X.cst = [] ∨ (X.cst = [y] ∧ y ∉ pn)) (co : CfgOk C X.T) (ha : C.attrs = X.attrs) (so : SpecsOk C n S)
    (ok : ∀ (F : Fm) (A : Around), Around' C F A X S n → (∃ fd o, C.K.lookup (C.fa f) = some o ∧ o.data = .func fd ∧ F.env.code = fd.code ∧ F.env.qual = fd.qualname ++ ".<locals>.") → OkCs C F A body W)
    {args : List AV} {σ : St} {Q : AV → St → Prop} (hlen : args.length = pn.length) (hw : W (args0 args m) σ (retPost Q)) {A : Around} (hA : Room1 A n) {s : Shared} {θ δ : Nat → Nat} (H : RelH C σ θ δ s.heap) (hg : s.gens = C.gens) (hos : s.os = C.os) {vals : List Value} (V : All2 (Val C s.heap σ.length θ) args vals)
    (hbind : ∀ fd o, C.K.lookup (C.fa f) = some o → o.data = .func fd → bindArgs fd ⟨vals, []⟩ = pure (pn.zip vals)) {Rc : Result → Shared → Prop}
    (k : ∀ v σ' θ' δ' s' val, Q v σ' → Done C σ θ δ s σ' θ' δ' s' → Val C s'.heap σ'.length θ' v val → Rc (.ok (.ret val)) s') : codeAny (model C.P C.w) A (.call (.ref (C.fa f)) ⟨vals, []⟩) Rc s := by
  obtain ⟨o, fd, e1, e2, e3, e4, e5, e6, e7, e8⟩ := fi.fn
  have hvl : vals.length = pn.length := by rw [← V.length, hlen]
  have cel : cellsFrom (s.heap.objs.size + 1) fd.scope.names [] = [(y, s.heap.objs.size + 1)] := by rw [e8]; exact cells_one _ _ _ _ oc.cells
  have cl : (callEnvC fd s.heap.objs.size (C.fa f)).cells = [(y, s.heap.objs.size + 1)] := cel
  have kd : ∀ x, (callEnvC fd s.heap.objs.size (C.fa f)).kindOf x = X.sc.names.lookup x := fun x => by
    show (callEnvC fd s.heap.objs.size (C.fa f)).scope.names.lookup x = _
    rw [show (callEnvC fd s.heap.objs.size (C.fa f)).scope = X.sc from e8]
  refine codeAny_call_cells (body := body) (binds := pn.zip vals) (by have := hA.1; show A.depth < 1000; lia) (H.kin _ _ e1) e2 H.lim (codeRec_of H.kin e3) e4 (hbind fd o e1 e2) e7 (fun x hx => ?_) (fun s₁ hin => ?_) (by rw [e8]; exact fi.gen.2) (by rw [e8]; exact fi.gen.1) (by rw [e8]; exact fi.kind)
  · obtain ⟨i, h1, _⟩ := zip_mem (a := x.1) (b := x.2) hx
    rw [e8]
    rcases oc.loc i x.1 (pn_at fi h1) with q | q
    · right
      rw [q, ← e8, cel]
      exact ⟨by rw [e8]; exact oc.look, by rw [List.lookup_cons, beq_self_eq_true]; rfl⟩
    · exact .inl q
  obtain ⟨⟨h₀, tk, rfl⟩, hns, keep, hfr⟩ := hin.toInCall
  have hcell := hin.cell
  let F : Fm := ⟨callEnvC fd s.heap.objs.size (C.fa f), X.ns, s.heap.objs.size, X.cst.map fun _ => s.heap.objs.size + 1⟩
  have none : s.heap.get? s.heap.objs.size = Option.none := get_size (Nat.le_refl _)
  have none1 : s.heap.get? (s.heap.objs.size + 1) = Option.none := get_size (Nat.le_succ _)
  have sc : F.env.scope = X.sc := e8
  have Fcl : F.env.cells = [(y, s.heap.objs.size + 1)] := cl
  have lk : F.env.cells.lookup y = some (s.heap.objs.size + 1) := by rw [Fcl, List.lookup_cons, beq_self_eq_true]
  have fo : FmOk F := ⟨by rw [sc]; exact fi.kind, rfl, e5, e6, fun i x hx => ⟨by
      unfold Fm.Kind
      rw [sc]
      rcases oc.loc i x hx with q | q
      · rw [q]; exact .inr (.inl oc.look)
      · exact .inl q, fi.dbg i x hx⟩, fi.nodup, (fun a b c h1 h2 => by
      rw [Fcl] at h1 h2
      have one : ∀ {z}, List.lookup z [(y, s.heap.objs.size + 1)] = some c → z = y := fun {z} h => by
        rw [List.lookup_cons] at h
        cases q : z == y with
        | true => exact beq_iff_eq.mp q
        | false => rw [q] at h; cases h
      rw [one h1, one h2]), by
    show (fd.scope.kind == .module && _) = false
    rw [e8, fi.kind]; rfl⟩
  have room : Room (A.deeper (callEnvC fd s.heap.objs.size (C.fa f))) n := ⟨hA.1, hA.2.1, hA.2.2⟩
  have c : Around' C F (A.deeper (callEnvC fd s.heap.objs.size (C.fa f))) X S n := ⟨fo, co, so, room, rfl, ha, sc, fun x hx => by
    rcases hcst with q | ⟨q, _⟩
    · rw [q] at hx; cases hx
    · rw [q] at hx
      obtain rfl := List.mem_singleton.mp hx
      exact ⟨_, lk, by show _ ∈ X.cst.map _; rw [q]; exact .head _⟩⟩
  have ocm : ∀ c, c ∈ F.oc → c = s.heap.objs.size + 1 ∧ y ∉ pn := fun c hc => by
    rcases hcst with q | ⟨q, q'⟩
    · have hc : c ∈ X.cst.map (fun _ => s.heap.objs.size + 1) := hc
      rw [q] at hc; cases hc
    · have hc : c ∈ X.cst.map (fun _ => s.heap.objs.size + 1) := hc
      rw [q] at hc
      exact ⟨List.mem_singleton.mp hc, q'⟩
  have r : R C F (args0 args m) σ θ δ { s with heap := h₀, toks := tk } := by
    refine enter H keep none ⟨_, hns⟩ (fun i x v hx hv => ?_) (fun c hc => ?_) ?_ hg hos
    · obtain ⟨hi, hv'⟩ := args_at hv
      obtain ⟨val, h1, h2⟩ := V.get hv'
      have hp : pn[i]? = some x := by
        have : (X.ns.take pn.length)[i]? = some x := by rw [List.getElem?_take, if_pos (by lia)]; exact hx
        rw [fi.ns.1] at this; exact this
      have uq : ∀ w, (x, w) ∈ pn.zip vals → w = val := fun w hw => by
        obtain ⟨j, h3, h4⟩ := zip_mem hw
        have : j = i := fi.nodup j i x (pn_at fi h3) hx
        subst this
        rw [h1] at h4; cases h4; rfl
      refine ⟨val, ?_, h2⟩
      rcases oc.loc i x hx with q | q
      · subst q
        refine .inr ⟨by rw [sc, oc.look]; decide, _, lk, ?_⟩
        have := hcell x _ (show (callEnvC fd s.heap.objs.size (C.fa f)).cells.lookup x = some _ from lk)
        rwa [bindC_at (by rw [kd, oc.look]; decide) _ _ uq (.inl ⟨val, mem_zip hp h1⟩)] at this
      · exact .inl ⟨by rw [sc]; exact q, _, hns, bindL_at (by rw [kd]; exact q) _ _ uq (.inl ⟨val, mem_zip hp h1⟩)⟩
    · obtain ⟨rfl, hy⟩ := ocm c hc
      refine ⟨none1, ?_⟩
      have := hcell y _ (show (callEnvC fd s.heap.objs.size (C.fa f)).cells.lookup y = some _ from lk)
      rw [bindC_none _ _ (fun w hw => by obtain ⟨j, h3, _⟩ := zip_mem hw; exact hy (List.mem_of_getElem? h3)) rfl] at this
      obtain ⟨o, g, d⟩ := this
      exact ⟨o, _, g, d, by unfold immB; rw [d]; rfl⟩
    · show (args0 args m).length = X.ns.length
      unfold args0
      simp [hlen, fi.ns.2]
  refine wpAny_mono (ok F _ c ⟨fd, o, e1, e2, rfl, rfl⟩ (args0 args m) σ _ hw _ θ δ r (fun f s' => Rc (.ok (.ret (match f with | .ret v => v | _ => .none))) s') fun fl ρ' σ' θ' δ' s' fl' hq b Fv => ?_) (fun _ _ x => x) (fun _ _ x => x.elim)
  have d : Done C σ θ δ s σ' θ' δ' s' := leave b keep none fun c hc => by obtain ⟨rfl, _⟩ := ocm c hc; exact none1
  cases fl with
  | next => cases Fv; exact k _ _ _ _ _ _ hq d rfl
  | brk => exact hq.elim
  | cont => exact hq.elim
  | ret v => obtain ⟨val, rfl, V'⟩ := Fv; exact k _ _ _ _ _ _ hq d V'
structure LamIs (C : Cfg) (x y : Str) (ps : Arguments) (b : PySem.Expr) (sc : Scope) (wc : Addr) : Prop where
  main : ∃ mg, (∀ h : Heap, C.K.In h → h.Ns mainGlobals mg ∧ h.BuiltinsAt mg C.wx) ∧ ∀ cell c' ctv, C.lam cell c' ctv = kla_obj "<lambda>" C.lamQ ps b sc [(y, cell)] ((mg "__name__").getD .none) c' ctv
  hd : ∀ h : Heap, C.K.In h → CodeHd h wc C.wx
  gw : mainGlobals ≠ C.wx
  clos : ∀ (env : Env) (c : Addr), env.cells.lookup y = some c → closureFor sc env = pure [(y, c)]
  dflt : ∀ env, defaultsOf ps env = ([], [])
  bind : ∀ pm c' cell ctv v, bindArgs (kla_fn "<lambda>" C.lamQ ps b sc [(y, cell)] pm (.ref c') ctv) ⟨[v], []⟩ = pure [(x, v)]
  kind : sc.kind = .function
  gen : sc.isGenerator = false ∧ sc.isCoroutine = false
  cell : ∀ z ∈ sc.names, z.2 ≠ .cell
  lx : sc.names.lookup x = some .local
  ly : sc.names.lookup y = some .free
  xy : x ≠ y
  dbg : (x == ("__debug__" : Str)) = false ∧ (y == ("__debug__" : Str)) = false ∧ (y == ("__classdict__" : Str)) = false
theorem RelH.wrapped {σ : St} {θ δ : Nat → Nat} {h h' : Heap} (H : RelH C σ θ δ h) (hk : ∀ b o, h.get? b = some o → b ≠ C.wx → h'.get? b = some o) (W' : WrapOk C h') : RelH C σ θ δ h' := by
  have un : ∀ b o, h.get? b = some o → Un o → h'.get? b = some o := fun b o e i => hk b o e (H.nwx e i)
  have imm : ∀ b o, h.get? b = some o → Imm o → h'.get? b = some o := fun b o e i => un b o e i.un
  obtain ⟨ow, ew, nw⟩ := H.wrap.notUn
  obtain ⟨psw, ew', _⟩ := H.wrap
  have ne : ∀ {b o}, h.get? b = some o → (∀ ps, o ≠ tabObj ps) → b ≠ C.wx := fun e n q => by rw [q, ew'] at e; cases e; exact n _ rfl
  refine ⟨fun a o e => hk _ _ (H.kin a o e) (fun q => by rw [q, C.kwx] at e; cases e), ?_, fun j => ?_, H.klow, fun k o ho => ?_, H.inj, H.dinj, H.apart, H.low, H.klim, H.stat, fun a q => ?_, W'⟩
  · obtain ⟨mc, ⟨o, es, ep, e1, e2, e2'⟩, e3⟩ := H.lim
    exact ⟨mc, ⟨o, es, ep, hk _ _ e1 (ne e1 fun ps q => by rw [q] at e2; cases e2), e2, e2'⟩, e3⟩
  · obtain ⟨vs, ⟨o, e1, e2, e2'⟩, e3⟩ := H.kl j
    exact ⟨vs, ⟨o, hk _ _ e1 (ne e1 fun ps q => by rw [q] at e2; cases e2), e2, e2'⟩, e3.mono fun a b V => V.mono (Nat.le_refl _) (fun _ _ => rfl) imm⟩
  · have hkl : k < σ.length := (List.getElem?_eq_some_iff.mp ho).1
    have O := H.obj k o ho
    have nx := H.notwx hkl
    cases o with
    | list xs =>
      obtain ⟨e0, vs, ⟨nl, e1⟩, e2⟩ := O
      exact ⟨e0, vs, ⟨nl, hk _ _ e1 nx.1⟩, e2.mono fun a b V => V.mono (Nat.le_refl _) (fun _ _ => rfl) imm⟩
    | inst fs =>
      obtain ⟨es, m, e1, e2, e3⟩ := O
      exact ⟨es, m, hk _ _ e1 nx.1, hk _ _ e2 nx.2, e3.mono (Nat.le_refl _) (fun _ _ => rfl) imm⟩
  · obtain ⟨o, e⟩ := H.old a q
    by_cases z : a = C.wx
    · obtain ⟨ps, e', _⟩ := W'
      exact ⟨_, z ▸ e'⟩
    · exact ⟨o, hk _ _ e z⟩
theorem R.wrapped {ρ : Loc} {σ : St} {θ δ : Nat → Nat} {s : Shared} {h' : Heap} {t : Nat} (r : R C F ρ σ θ δ s) (hk : ∀ b o, s.heap.get? b = some o → b ≠ C.wx → h'.get? b = some o) (W' : WrapOk C h') : Back C F ρ σ θ δ s σ θ δ { s with heap := h', toks := t } :=
  ⟨r.beside (r.H.wrapped hk W') (fun o e => hk _ _ e r.wxL) fun b o e i => hk b o e (r.H.nwx e i), fun b o e n _ => hk b o e fun q => n (by rw [q]; exact .head _), .refl ..⟩
theorem ok_lam {A : Around} {x y z : Str} {ps : Arguments} {b : PySem.Expr} {sc : Scope} {wc : Addr} {lp zp p : Pos} {i j : Nat} (L : LamIs C x y ps b sc wc) (fo : FmOk F) (hz : F.ns[i]? = some z) (hs : F.env.scope.names.lookup z = some .local) (hy : F.ns[j]? = some y) (hl : F.env.scope.names.lookup y = some .cell)
    (hcode : F.env.code = .ref wc) (hq : F.env.qual ++ "<lambda>" = C.lamQ) (hp : lp.line = C.lamL ∧ lp.col = C.lamC) :
    OkC C F A (.Assign [.Name z zp] (.Lambda ps b sc lp) p) (wpC C S (.lam i j)) := fun ρ σ Q h s θ δ r Qc k => by
  obtain ⟨kk, hv, hq'⟩ := h
  obtain ⟨val, e, V⟩ := r.loc j y _ hy hv
  obtain ⟨hkk, rfl⟩ := V
  rcases e with ⟨l, _⟩ | ⟨_, c, e1, e2⟩
  · rw [hl] at l; cases l
  obtain ⟨mg, N, lam⟩ := L.main
  obtain ⟨Nm, Bm⟩ := N _ r.H.kin
  have CH := L.hd _ r.H.kin
  refine wpAny_Assign_Name (kla_eval (L.dflt _) ?_) (swaps_plain rfl)
  rw [hq]
  have fin : ∀ (H : Heap) (tk : Nat) (q c' : Addr) (ctv : Value), (∀ b o, s.heap.get? b = some o → b ≠ C.wx → H.get? b = some o) → WrapOk C H → H.get? q = some (C.lam c c' ctv) → H.CodeRec (.ref c') C.lamQ → wpAny (model C.P C.w) A (storeName F.env z (.ref q)) (fun _ s' => Qc .next s') E0 { s with heap := H, toks := tk } := fun H tk q c' ctv hk W' hl' hr => by
    have b := r.wrapped (t := tk) hk W'
    obtain ⟨oc, g, d⟩ := e2
    refine st_loc (v := .clo kk) fo b.r hz hs ⟨hkk, q, c, c', ctv, rfl, hl', hr, oc, hk _ _ g (r.H.nwx g (.cell d)), d⟩ fun s' b' => ?_
    exact k _ _ _ _ _ _ _ hq' (b.trans b') rfl
  obtain ⟨pw, ew, rw_⟩ := r.H.wrap
  rcases rw_ with rfl | ⟨c₀, rfl, rec⟩
  · refine kla_makeFunction (L.clos _ _ e1) fo.glob Nm hcode CH ew trivial rfl L.gw Bm fun c' ctv h' tk hx hge hlt hrec hP => ?_
    refine fin _ tk _ c' ctv (fun b o e n => Heap.get?_push_of_some _ (hx b o n e)) ⟨_, Heap.get?_push_of_some _ hP, .inr ⟨c', by rw [hp.1, hp.2]; simp, hrec.push _⟩⟩ (by rw [lam]; exact Heap.get?_push_size _ rfl) (hrec.push _)
  · refine kla_makeFunctionHit (cv := .ref c₀) (L.clos _ _ e1) fo.glob Nm hcode CH ew trivial (by
      show codeAmong lp [.int C.lamL 0, .int C.lamC 0, .ref c₀] = _
      unfold codeAmong
      rw [hp.1, hp.2]; simp) Bm fun ctv h' tk hk hsz => ?_
    refine fin _ tk _ c₀ ctv (fun b o e n => Heap.get?_push_of_some _ (hk b o e)) ⟨_, Heap.get?_push_of_some _ (hk _ _ ew), .inr ⟨c₀, rfl, (rec.keeps hk).push _⟩⟩ (by rw [lam]; exact Heap.get?_push_size _ rfl) ((rec.keeps hk).push _)
theorem lam_call {x y : Str} {ps : Arguments} {b : PySem.Expr} {sc : Scope} {wc : Addr} {t : Tm} {W : Spec} (L : LamIs C x y ps b sc wc) (hX : X.ns = [x, y] ∧ X.sc = sc ∧ X.cst = []) (co : CfgOk C X.T) (ha : C.attrs = X.attrs) (so : SpecsOk C n S) (ok : okT X t b = true) (inter : (sc.more.any fun (k, _) => k == ("interactive" : Str)) = false)
    (hW : ∀ k args σ Q, W (.ins k :: args) σ Q → ∃ v, args = [v] ∧ wpT C S t [some v, some (.ins k)] σ Q) : LamOk C (n + 1) W := by
  intro k args σ Q h A hA s θ δ H hg hos q Vq vals V Rc kk
  obtain ⟨v, rfl, hw⟩ := hW k args σ Q h
  cases V with
  | cons V1 V2 =>
    rename_i val _
    cases V2
    obtain ⟨hk, q', cell, c', ctv, eq, eo, er, ec⟩ := Vq
    cases eq
    obtain ⟨mg, N, lam⟩ := L.main
    rw [lam] at eo
    have hA' := hA.one
    refine kla_callFunE (by have := hA'.1; show A.depth < 1000; lia) eo rfl L.gen.2 L.gen.1 rfl er ?_
    rw [L.bind]
    refine wpAny_pure (wpAny_newFunctionEnv L.cell (fun z hz => ?_) (fun h₁ hns hsb => ⟨H.lim.fresh _ hsb, ?_⟩) L.kind)
    · obtain rfl := List.mem_singleton.mp hz; exact L.lx
    have keep : ∀ b o, s.heap.get? b = some o → h₁.get? b = some o := fun b o e => hsb.extBut b o (Nat.ne_of_lt (Heap.lt_size e)) (Heap.get?_push_of_some _ e)
    let F : Fm := ⟨envX C.lamQ sc s.heap.objs.size q (.ref c') [(y, cell)], [x, y], s.heap.objs.size, []⟩
    have none : s.heap.get? s.heap.objs.size = Option.none := get_size (Nat.le_refl _)
    have lk : F.env.cells.lookup y = some cell := by show List.lookup y [(y, cell)] = _; rw [List.lookup_cons, beq_self_eq_true]
    have fo : FmOk F := ⟨L.kind, rfl, rfl, rfl, fun i z hz => ?_, fun i j z h1 h2 => ?_, fun a b c h1 h2 => ?_, ?_⟩
    · have c : Around' C F (A.deeper F.env) X S n := ⟨fo, co, so, ⟨hA'.1, hA'.2.1, hA'.2.2⟩, hX.1.symm, ha, hX.2.1.symm, fun z hz => by rw [hX.2.2] at hz; cases hz⟩
      have r : R C F [some v, some (.ins k)] σ θ δ { s with heap := h₁, toks := s.toks + 1 } := by
        refine enter H keep none ⟨_, hns⟩ (fun i z u hz hu => ?_) (fun c hc => by cases hc) rfl hg hos
        match i, hz, hu with
        | 0, hz, hu =>
          cases hz; cases hu
          exact ⟨val, .inl ⟨L.lx, _, hns, by simp⟩, V1⟩
        | 1, hz, hu =>
          cases hz; cases hu
          refine ⟨.ref (θ k), .inr ⟨by show sc.names.lookup y ≠ _; rw [L.ly]; decide, cell, lk, ?_⟩, hk, rfl⟩
          exact ec.keeps keep
        | i + 2, hz, _ => have hz : ([x, y] : List Str)[i + 2]? = some z := hz; simp at hz
      refine kla_codeExpr (wpAny_mono (okT_sound c t b ok _ σ _ hw _ θ δ r (fun v s' => Rc (.ok (.ret v)) s') fun u σ' θ' δ' s' val hq b V => kk _ _ _ _ _ _ hq (leave b keep none fun c hc => by cases hc) V) (fun _ _ x => x) fun _ _ x => x.elim)
    · match i, hz with
      | 0, hz => cases hz; exact ⟨.inl L.lx, L.dbg.1⟩
      | 1, hz => cases hz; exact ⟨.inr (.inr ⟨L.ly, L.dbg.2.2⟩), L.dbg.2.1⟩
      | i + 2, hz => have hz : ([x, y] : List Str)[i + 2]? = some z := hz; simp at hz
    · match i, j, h1, h2 with
      | 0, 0, _, _ => rfl
      | 1, 1, _, _ => rfl
      | 0, 1, h1, h2 => cases h1; cases h2; exact absurd rfl L.xy
      | 1, 0, h1, h2 => cases h1; cases h2; exact absurd rfl L.xy
      | i + 2, _, h1, _ => have h1 : ([x, y] : List Str)[i + 2]? = some z := h1; simp at h1
      | 0, j + 2, _, h2 => have h2 : ([x, y] : List Str)[j + 2]? = some z := h2; simp at h2
      | 1, j + 2, _, h2 => have h2 : ([x, y] : List Str)[j + 2]? = some z := h2; simp at h2
    · have one : ∀ {z}, List.lookup z [(y, cell)] = some c → z = y := fun {z} h => by
        rw [List.lookup_cons] at h
        cases q : z == y with
        | true => exact beq_iff_eq.mp q
        | false => rw [q] at h; cases h
      rw [one h1, one h2]
    · show (sc.kind == .module && _) = false
      rw [L.kind]; rfl
end
end Mine.Py
end
section
open PySem PySem.W PyProof.Rows
namespace Mine.Mp
open Mine.Hd Mine.Py
open Mine.Go (fnO codeO fName fArgs fBody fScope fPos toksOf locs texts intsAt tupO ovs defOv memN codeN hs recO)
section
noncomputable def dAt (k : Nat) : Stmt := (defs.drop k).headD (.Pass default)
noncomputable def mF (k : Nat) : Obj := fnO (37 + 7 * k) (fName (dAt k)) ("MPU." ++ fName (dAt k)) (fArgs (dAt k)) (fScope (dAt k)) (fBody (dAt k)) .none pmC builtinsNs
noncomputable def mC (k : Nat) : Obj := codeO (37 + 7 * k) (toksOf 248 (defs.take k)) fileS (fName (dAt k)) ("MPU." ++ fName (dAt k)) (fPos (dAt k)).line (fArgs (dAt k)).args.length 3 true 181 (locs (fArgs (dAt k)) (fScope (dAt k)) (fBody (dAt k)))
noncomputable def mIdx : List Nat := [0, 1, 4, 5, 6, 7, 8, 9, 13, 15, 16, 17, 18, 19, 20, 21, 22, 26, 27, 28, 34, 36, 41, 42, 43, 44, 45, 47, 56, 60, 64, 69, 75, 83, 87, 90, 93, 101, 106, 108, 111, 128, 129, 134, 135, 136, 139, 140, 142, 144, 149, 164, 171, 175, 183, 190]
noncomputable def K (w : World) : Frag := [(0, boot_o_0 w.params), (4, boot_o_4 w.params), (1428, clsO), (1427, nsCO w), (3, mainO w), (36, iniF), (35, iniC), (29, tupO [.none, .int 0 238]), (1423, insO), (1424, cycO), (1425, extO)] ++ lawK ++ [(43, mF 0), (42, mC 0), (50, mF 1), (49, mC 1), (71, mF 4), (70, mC 4), (78, mF 5), (77, mC 5), (85, mF 6), (84, mC 6), (92, mF 7), (91, mC 7), (99, mF 8), (98, mC 8), (106, mF 9), (105, mC 9), (134, mF 13), (133, mC 13), (148, mF 15), (147, mC 15), (155, mF 16), (154, mC 16), (162, mF 17), (161, mC 17), (169, mF 18), (168, mC 18), (176, mF 19), (175, mC 19), (183, mF 20), (182, mC 20), (190, mF 21), (189, mC 21), (197, mF 22), (196, mC 22), (225, mF 26), (224, mC 26), (232, mF 27), (231, mC 27), (239, mF 28), (238, mC 28), (281, mF 34), (280, mC 34), (295, mF 36), (294, mC 36), (330, mF 41), (329, mC 41), (337, mF 42), (336, mC 42), (344, mF 43), (343, mC 43), (351, mF 44), (350, mC 44), (358, mF 45), (357, mC 45), (372, mF 47), (371, mC 47), (435, mF 56), (434, mC 56), (463, mF 60), (462, mC 60), (491, mF 64), (490, mC 64), (526, mF 69), (525, mC 69), (568, mF 75), (567, mC 75), (624, mF 83), (623, mC 83), (652, mF 87), (651, mC 87), (673, mF 90), (672, mC 90), (694, mF 93), (693, mC 93), (750, mF 101), (749, mC 101), (785, mF 106), (784, mC 106), (799, mF 108), (798, mC 108), (820, mF 111), (819, mC 111), (939, mF 128), (938, mC 128), (946, mF 129), (945, mC 129), (981, mF 134), (980, mC 134), (988, mF 135), (987, mC 135), (995, mF 136), (994, mC 136), (1016, mF 139), (1015, mC 139), (1023, mF 140), (1022, mC 140), (1037, mF 142), (1036, mC 142), (1051, mF 144), (1050, mC 144), (1086, mF 149), (1085, mC 149), (1191, mF 164), (1190, mC 164), (1240, mF 171), (1239, mC 171), (1268, mF 175), (1267, mC 175), (1324, mF 183), (1323, mC 183), (1373, mF 190), (1372, mC 190)]
noncomputable def fa (k : Nat) : Nat := match Nat.blt k 198 with
  | true => 7 * k + 43
  | false => match k with
    | 200 => 36
    | 300 => 1428
    | 201 => 1439
    | 202 => 1446
    | 203 => 1453
    | 204 => 1460
    | 205 => 1467
    | 206 => 1474
    | 207 => 1481
    | 208 => 1486
    | _ => 36
noncomputable def attrsL : List Str := ["name", "byteMask", "addrMask", "addrHighMask", "spBase", "excycles", "addcycles", "processorCycles", "memory", "start_pc", "pc", "sp", "a", "x", "y", "p"]
noncomputable def kls (l : Nat) : Nat → Nat
  | 0 => 1423
  | 1 => 1424
  | 2 => 1425
  | _ => l
noncomputable def klv (ns : List Int) : Nat → List AV
  | 0 => insL.map fun a => .fn ((a - 43) / 7)
  | 1 => cycL.map fun i => .at (.int i)
  | 2 => extL.map fun i => .at (.int i)
  | _ => ns.map fun i => .at (.int i)
noncomputable def mainMap (w : World) (x : Str) : Option Value := ((mainL w).toArray.find? (fun e : DictEntry => e.key.isStr x)).map (fun e : DictEntry => e.val)
noncomputable def lamE : PySem.Expr := match fBody (dAt 6) with | .Assign _ e _ :: _ => e | _ => .Constant .none 0 default
noncomputable def lamPs : Arguments := match lamE with | .Lambda ps _ _ _ => ps | _ => ⟨[], [], none, [], [], none, []⟩
noncomputable def lamB : PySem.Expr := match lamE with | .Lambda _ b _ _ => b | _ => .Constant .none 0 default
noncomputable def lamSc : Scope := match lamE with | .Lambda _ _ sc _ => sc | _ => Mine.Go.noScope
noncomputable def lamP : Pos := match lamE with | .Lambda _ _ _ p => p | _ => default
noncomputable def lamN : Str := "MPU.WrapAt.<locals>.<lambda>"
noncomputable def lamO (w : World) (cell c' : Addr) (ctv : Value) : Obj := kla_obj "<lambda>" lamN lamPs lamB lamSc [("self", cell)] ((mainMap w "__name__").getD .none) c' ctv
theorem kwx (w : World) : (K w).lookup 80 = none := by kernel_rfl
noncomputable def cfg (w : World) (l : Nat) (ns : List Int) (h₀ : Heap) (hw : ∃ o, h₀.get? 80 = some o) (gens : Array GenState) (os : OsState) : Cfg := { P := P, w := w, K := K w, C := 1428, fa := fa, kls := kls l, klv := klv ns, attrs := attrsL, Old := fun a => ∃ o, h₀.get? a = some o, wx := 80, lamQ := lamN, lamL := lamP.line, lamC := lamP.col, lam := lamO w, lamF := fun _ _ _ => ⟨_, rfl⟩, kwx := kwx w, wlt := hw, gens := gens, os := os }
noncomputable def pn_step : List Str := ["self"]
noncomputable def ns_step : List Str := ["self", "instructCode"]
noncomputable def ir_step : Cs := (.cons (.asg 1 (.idx (.fld 0 8) (.fld 0 10))) (.cons (.sat 0 10 (.bin .BitAnd (.bin .Add (.fld 0 10) (.c (.int 1))) (.fld 0 2))) (.cons (.sat 0 5 (.c (.int 0))) (.cons (.sat 0 6 (.idx (.cat 0 "extracycles" (.kl 2)) (.v 1))) (.cons (.ex (.tc (.idx (.cat 0 "instruct" (.kl 0)) (.v 1)) (.cons (.v 0) .nil))) (.cons (.aat 0 10 .BitAnd (.fld 0 2)) (.cons (.aat 0 7 .Add (.bin .Add (.idx (.cat 0 "cycletime" (.kl 1)) (.v 1)) (.fld 0 5))) (.cons (.ret (.v 0)) .nil))))))))
noncomputable def pn_reset : List Str := ["self"]
noncomputable def ns_reset : List Str := ["self"]
noncomputable def ir_reset : Cs := (.cons (.sat 0 10 (.fld 0 9)) (.cons (.ifc (.cmp .Is (.fld 0 10) (.c .none)) (.cons (.sat 0 10 (.mc 0 "WordAt" 5 (.cons (.cat 0 "RESET" (.at (.int 65532))) .nil))) .nil) .nil) (.cons (.sat 0 11 (.fld 0 1)) (.cons (.sat 0 12 (.c (.int 0))) (.cons (.sat 0 13 (.c (.int 0))) (.cons (.sat 0 14 (.c (.int 0))) (.cons (.sat 0 15 (.bin .BitOr (.cat 0 "BREAK" (.at (.int 16))) (.cat 0 "UNUSED" (.at (.int 32))))) (.cons (.sat 0 7 (.c (.int 0))) .nil))))))))
noncomputable def pn_ByteAt : List Str := ["self", "addr"]
noncomputable def ns_ByteAt : List Str := ["self", "addr"]
noncomputable def ir_ByteAt : Cs := (.cons (.ret (.idx (.fld 0 8) (.v 1))) .nil)
noncomputable def pn_WordAt : List Str := ["self", "addr"]
noncomputable def ns_WordAt : List Str := ["self", "addr"]
noncomputable def ir_WordAt : Cs := (.cons (.ret (.bin .Add (.mc 0 "ByteAt" 4 (.cons (.v 1) .nil)) (.bin .LShift (.mc 0 "ByteAt" 4 (.cons (.bin .Add (.v 1) (.c (.int 1))) .nil)) (.cat 0 "BYTE_WIDTH" (.at (.int 8)))))) .nil)
noncomputable def pn_ProgramCounter : List Str := ["self"]
noncomputable def ns_ProgramCounter : List Str := ["self"]
noncomputable def ir_ProgramCounter : Cs := (.cons (.ret (.fld 0 10)) .nil)
noncomputable def pn_ImmediateByte : List Str := ["self"]
noncomputable def ns_ImmediateByte : List Str := ["self"]
noncomputable def ir_ImmediateByte : Cs := (.cons (.ret (.mc 0 "ByteAt" 4 (.cons (.fld 0 10) .nil))) .nil)
noncomputable def pn_ZeroPageAddr : List Str := ["self"]
noncomputable def ns_ZeroPageAddr : List Str := ["self"]
noncomputable def ir_ZeroPageAddr : Cs := (.cons (.ret (.mc 0 "ByteAt" 4 (.cons (.fld 0 10) .nil))) .nil)
noncomputable def pn_IndirectYAddr : List Str := ["self"]
noncomputable def ns_IndirectYAddr : List Str := ["self", "a1", "a2"]
noncomputable def ir_IndirectYAddr : Cs := (.cons (.ifc (.fld 0 6) (.cons (.asg 1 (.mc 0 "WrapAt" 6 (.cons (.mc 0 "ByteAt" 4 (.cons (.fld 0 10) .nil)) .nil))) (.cons (.asg 2 (.bin .BitAnd (.bin .Add (.v 1) (.fld 0 14)) (.fld 0 2))) (.cons (.ifc (.cmp .NotEq (.bin .BitAnd (.v 1) (.fld 0 3)) (.bin .BitAnd (.v 2) (.fld 0 3))) (.cons (.aat 0 5 .Add (.c (.int 1))) .nil) .nil) (.cons (.ret (.v 2)) .nil)))) (.cons (.ret (.bin .BitAnd (.bin .Add (.mc 0 "WrapAt" 6 (.cons (.mc 0 "ByteAt" 4 (.cons (.fld 0 10) .nil)) .nil)) (.fld 0 14)) (.fld 0 2))) .nil)) .nil)
noncomputable def pn_AbsoluteXAddr : List Str := ["self"]
noncomputable def ns_AbsoluteXAddr : List Str := ["self", "a1", "a2"]
noncomputable def ir_AbsoluteXAddr : Cs := (.cons (.ifc (.fld 0 6) (.cons (.asg 1 (.mc 0 "WordAt" 5 (.cons (.fld 0 10) .nil))) (.cons (.asg 2 (.bin .BitAnd (.bin .Add (.v 1) (.fld 0 13)) (.fld 0 2))) (.cons (.ifc (.cmp .NotEq (.bin .BitAnd (.v 1) (.fld 0 3)) (.bin .BitAnd (.v 2) (.fld 0 3))) (.cons (.aat 0 5 .Add (.c (.int 1))) .nil) .nil) (.cons (.ret (.v 2)) .nil)))) (.cons (.ret (.bin .BitAnd (.bin .Add (.mc 0 "WordAt" 5 (.cons (.fld 0 10) .nil)) (.fld 0 13)) (.fld 0 2))) .nil)) .nil)
noncomputable def pn_AbsoluteYAddr : List Str := ["self"]
noncomputable def ns_AbsoluteYAddr : List Str := ["self", "a1", "a2"]
noncomputable def ir_AbsoluteYAddr : Cs := (.cons (.ifc (.fld 0 6) (.cons (.asg 1 (.mc 0 "WordAt" 5 (.cons (.fld 0 10) .nil))) (.cons (.asg 2 (.bin .BitAnd (.bin .Add (.v 1) (.fld 0 14)) (.fld 0 2))) (.cons (.ifc (.cmp .NotEq (.bin .BitAnd (.v 1) (.fld 0 3)) (.bin .BitAnd (.v 2) (.fld 0 3))) (.cons (.aat 0 5 .Add (.c (.int 1))) .nil) .nil) (.cons (.ret (.v 2)) .nil)))) (.cons (.ret (.bin .BitAnd (.bin .Add (.mc 0 "WordAt" 5 (.cons (.fld 0 10) .nil)) (.fld 0 14)) (.fld 0 2))) .nil)) .nil)
noncomputable def pn_BranchRelAddr : List Str := ["self"]
noncomputable def ns_BranchRelAddr : List Str := ["self", "addr"]
noncomputable def ir_BranchRelAddr : Cs := (.cons (.aat 0 5 .Add (.c (.int 1))) (.cons (.asg 1 (.mc 0 "ImmediateByte" 8 .nil)) (.cons (.aat 0 10 .Add (.c (.int 1))) (.cons (.ifc (.bin .BitAnd (.v 1) (.cat 0 "NEGATIVE" (.at (.int 128)))) (.cons (.asg 1 (.bin .Sub (.bin .Sub (.fld 0 10) (.bin .BitXor (.v 1) (.fld 0 1))) (.c (.int 1)))) .nil) (.cons (.asg 1 (.bin .Add (.fld 0 10) (.v 1))) .nil)) (.cons (.ifc (.cmp .NotEq (.bin .BitAnd (.fld 0 10) (.fld 0 3)) (.bin .BitAnd (.v 1) (.fld 0 3))) (.cons (.aat 0 5 .Add (.c (.int 1))) .nil) .nil) (.cons (.sat 0 10 (.bin .BitAnd (.v 1) (.fld 0 2))) .nil))))))
noncomputable def pn_stPush : List Str := ["self", "z"]
noncomputable def ns_stPush : List Str := ["self", "z"]
noncomputable def ir_stPush : Cs := (.cons (.six (.fld 0 8) (.bin .Add (.fld 0 11) (.fld 0 4)) (.bin .BitAnd (.v 1) (.fld 0 1))) (.cons (.aat 0 11 .Sub (.c (.int 1))) (.cons (.aat 0 11 .BitAnd (.fld 0 1)) .nil)))
noncomputable def pn_stPop : List Str := ["self"]
noncomputable def ns_stPop : List Str := ["self"]
noncomputable def ir_stPop : Cs := (.cons (.aat 0 11 .Add (.c (.int 1))) (.cons (.aat 0 11 .BitAnd (.fld 0 1)) (.cons (.ret (.mc 0 "ByteAt" 4 (.cons (.bin .Add (.fld 0 11) (.fld 0 4)) .nil))) .nil)))
noncomputable def pn_stPushWord : List Str := ["self", "z"]
noncomputable def ns_stPushWord : List Str := ["self", "z"]
noncomputable def ir_stPushWord : Cs := (.cons (.ex (.mc 0 "stPush" 18 (.cons (.bin .BitAnd (.bin .RShift (.v 1) (.cat 0 "BYTE_WIDTH" (.at (.int 8)))) (.fld 0 1)) .nil))) (.cons (.ex (.mc 0 "stPush" 18 (.cons (.bin .BitAnd (.v 1) (.fld 0 1)) .nil))) .nil))
noncomputable def pn_stPopWord : List Str := ["self"]
noncomputable def ns_stPopWord : List Str := ["self", "z"]
noncomputable def ir_stPopWord : Cs := (.cons (.asg 1 (.mc 0 "stPop" 19 .nil)) (.cons (.aug 1 .Add (.bin .LShift (.mc 0 "stPop" 19 .nil) (.cat 0 "BYTE_WIDTH" (.at (.int 8))))) (.cons (.ret (.v 1)) .nil)))
noncomputable def pn_FlagsNZ : List Str := ["self", "value"]
noncomputable def ns_FlagsNZ : List Str := ["self", "value"]
noncomputable def ir_FlagsNZ : Cs := (.cons (.aat 0 15 .BitAnd (.inv (.bin .BitOr (.cat 0 "ZERO" (.at (.int 2))) (.cat 0 "NEGATIVE" (.at (.int 128)))))) (.cons (.ifc (.cmp .Eq (.v 1) (.c (.int 0))) (.cons (.aat 0 15 .BitOr (.cat 0 "ZERO" (.at (.int 2)))) .nil) (.cons (.aat 0 15 .BitOr (.bin .BitAnd (.v 1) (.cat 0 "NEGATIVE" (.at (.int 128))))) .nil)) .nil))
noncomputable def pn_opBCL : List Str := ["self", "x"]
noncomputable def ns_opBCL : List Str := ["self", "x"]
noncomputable def ir_opBCL : Cs := (.cons (.ifc (.bin .BitAnd (.fld 0 15) (.v 1)) (.cons (.aat 0 10 .Add (.c (.int 1))) .nil) (.cons (.ex (.mc 0 "BranchRelAddr" 17 .nil)) .nil)) .nil)
noncomputable def pn_opBST : List Str := ["self", "x"]
noncomputable def ns_opBST : List Str := ["self", "x"]
noncomputable def ir_opBST : Cs := (.cons (.ifc (.bin .BitAnd (.fld 0 15) (.v 1)) (.cons (.ex (.mc 0 "BranchRelAddr" 17 .nil)) .nil) (.cons (.aat 0 10 .Add (.c (.int 1))) .nil)) .nil)
noncomputable def pn_opCLR : List Str := ["self", "x"]
noncomputable def ns_opCLR : List Str := ["self", "x"]
noncomputable def ir_opCLR : Cs := (.cons (.aat 0 15 .BitAnd (.inv (.v 1))) .nil)
noncomputable def pn_opADC : List Str := ["self", "x"]
noncomputable def ns_opADC : List Str := ["self", "x", "data", "halfcarry", "decimalcarry", "adjust0", "adjust1", "nibble0", "nibble1", "aluresult", "tmp", "result"]
noncomputable def ir_opADC : Cs := (.cons (.asg 2 (.mc 0 "ByteAt" 4 (.cons (.vc 1 .nil) .nil))) (.cons (.ifc (.bin .BitAnd (.fld 0 15) (.cat 0 "DECIMAL" (.at (.int 8)))) (.cons (.asg 3 (.c (.int 0))) (.cons (.asg 4 (.c (.int 0))) (.cons (.asg 5 (.c (.int 0))) (.cons (.asg 6 (.c (.int 0))) (.cons (.asg 7 (.bin .Add (.bin .Add (.bin .BitAnd (.v 2) (.c (.int 15))) (.bin .BitAnd (.fld 0 12) (.c (.int 15)))) (.bin .BitAnd (.fld 0 15) (.cat 0 "CARRY" (.at (.int 1)))))) (.cons (.ifc (.cmp .Gt (.v 7) (.c (.int 9))) (.cons (.asg 5 (.c (.int 6))) (.cons (.asg 3 (.c (.int 1))) .nil)) .nil) (.cons (.asg 8 (.bin .Add (.bin .Add (.bin .BitAnd (.bin .RShift (.v 2) (.c (.int 4))) (.c (.int 15))) (.bin .BitAnd (.bin .RShift (.fld 0 12) (.c (.int 4))) (.c (.int 15)))) (.v 3))) (.cons (.ifc (.cmp .Gt (.v 8) (.c (.int 9))) (.cons (.asg 6 (.c (.int 6))) (.cons (.asg 4 (.c (.int 1))) .nil)) .nil) (.cons (.asg 7 (.bin .BitAnd (.v 7) (.c (.int 15)))) (.cons (.asg 8 (.bin .BitAnd (.v 8) (.c (.int 15)))) (.cons (.asg 9 (.bin .Add (.bin .LShift (.v 8) (.c (.int 4))) (.v 7))) (.cons (.asg 7 (.bin .BitAnd (.bin .Add (.v 7) (.v 5)) (.c (.int 15)))) (.cons (.asg 8 (.bin .BitAnd (.bin .Add (.v 8) (.v 6)) (.c (.int 15)))) (.cons (.aat 0 15 .BitAnd (.inv (.bin .BitOr (.bin .BitOr (.bin .BitOr (.cat 0 "CARRY" (.at (.int 1))) (.cat 0 "OVERFLOW" (.at (.int 64)))) (.cat 0 "NEGATIVE" (.at (.int 128)))) (.cat 0 "ZERO" (.at (.int 2)))))) (.cons (.ifc (.cmp .Eq (.v 9) (.c (.int 0))) (.cons (.aat 0 15 .BitOr (.cat 0 "ZERO" (.at (.int 2)))) .nil) (.cons (.aat 0 15 .BitOr (.bin .BitAnd (.v 9) (.cat 0 "NEGATIVE" (.at (.int 128))))) .nil)) (.cons (.ifc (.cmp .Eq (.v 4) (.c (.int 1))) (.cons (.aat 0 15 .BitOr (.cat 0 "CARRY" (.at (.int 1)))) .nil) .nil) (.cons (.ifc (.bin .BitAnd (.bin .BitAnd (.inv (.bin .BitXor (.fld 0 12) (.v 2))) (.bin .BitXor (.fld 0 12) (.v 9))) (.cat 0 "NEGATIVE" (.at (.int 128)))) (.cons (.aat 0 15 .BitOr (.cat 0 "OVERFLOW" (.at (.int 64)))) .nil) .nil) (.cons (.sat 0 12 (.bin .Add (.bin .LShift (.v 8) (.c (.int 4))) (.v 7))) .nil)))))))))))))))))) (.cons (.ifc (.bin .BitAnd (.fld 0 15) (.cat 0 "CARRY" (.at (.int 1)))) (.cons (.asg 10 (.c (.int 1))) .nil) (.cons (.asg 10 (.c (.int 0))) .nil)) (.cons (.asg 11 (.bin .Add (.bin .Add (.v 2) (.fld 0 12)) (.v 10))) (.cons (.aat 0 15 .BitAnd (.inv (.bin .BitOr (.bin .BitOr (.bin .BitOr (.cat 0 "CARRY" (.at (.int 1))) (.cat 0 "OVERFLOW" (.at (.int 64)))) (.cat 0 "NEGATIVE" (.at (.int 128)))) (.cat 0 "ZERO" (.at (.int 2)))))) (.cons (.ifc (.bin .BitAnd (.bin .BitAnd (.inv (.bin .BitXor (.fld 0 12) (.v 2))) (.bin .BitXor (.fld 0 12) (.v 11))) (.cat 0 "NEGATIVE" (.at (.int 128)))) (.cons (.aat 0 15 .BitOr (.cat 0 "OVERFLOW" (.at (.int 64)))) .nil) .nil) (.cons (.asg 2 (.v 11)) (.cons (.ifc (.cmp .Gt (.v 2) (.fld 0 1)) (.cons (.aat 0 15 .BitOr (.cat 0 "CARRY" (.at (.int 1)))) (.cons (.aug 2 .BitAnd (.fld 0 1)) .nil)) .nil) (.cons (.ifc (.cmp .Eq (.v 2) (.c (.int 0))) (.cons (.aat 0 15 .BitOr (.cat 0 "ZERO" (.at (.int 2)))) .nil) (.cons (.aat 0 15 .BitOr (.bin .BitAnd (.v 2) (.cat 0 "NEGATIVE" (.at (.int 128))))) .nil)) (.cons (.sat 0 12 (.v 2)) .nil))))))))) .nil))
noncomputable def pn_opSTA : List Str := ["self", "x"]
noncomputable def ns_opSTA : List Str := ["self", "x"]
noncomputable def ir_opSTA : Cs := (.cons (.six (.fld 0 8) (.vc 1 .nil) (.fld 0 12)) .nil)
noncomputable def pn_opDECR : List Str := ["self", "x"]
noncomputable def ns_opDECR : List Str := ["self", "x", "tbyte", "addr"]
noncomputable def ir_opDECR : Cs := (.cons (.ifc (.cmp .Is (.v 1) (.c .none)) (.cons (.asg 2 (.fld 0 12)) .nil) (.cons (.asg 3 (.vc 1 .nil)) (.cons (.asg 2 (.mc 0 "ByteAt" 4 (.cons (.v 3) .nil))) .nil))) (.cons (.aat 0 15 .BitAnd (.inv (.bin .BitOr (.cat 0 "ZERO" (.at (.int 2))) (.cat 0 "NEGATIVE" (.at (.int 128)))))) (.cons (.asg 2 (.bin .BitAnd (.bin .Sub (.v 2) (.c (.int 1))) (.fld 0 1))) (.cons (.ifc (.v 2) (.cons (.aat 0 15 .BitOr (.bin .BitAnd (.v 2) (.cat 0 "NEGATIVE" (.at (.int 128))))) .nil) (.cons (.aat 0 15 .BitOr (.cat 0 "ZERO" (.at (.int 2)))) .nil)) (.cons (.ifc (.cmp .Is (.v 1) (.c .none)) (.cons (.sat 0 12 (.v 2)) .nil) (.cons (.six (.fld 0 8) (.v 3) (.v 2)) .nil)) .nil)))))
noncomputable def pn_opINCR : List Str := ["self", "x"]
noncomputable def ns_opINCR : List Str := ["self", "x", "tbyte", "addr"]
noncomputable def ir_opINCR : Cs := (.cons (.ifc (.cmp .Is (.v 1) (.c .none)) (.cons (.asg 2 (.fld 0 12)) .nil) (.cons (.asg 3 (.vc 1 .nil)) (.cons (.asg 2 (.mc 0 "ByteAt" 4 (.cons (.v 3) .nil))) .nil))) (.cons (.aat 0 15 .BitAnd (.inv (.bin .BitOr (.cat 0 "ZERO" (.at (.int 2))) (.cat 0 "NEGATIVE" (.at (.int 128)))))) (.cons (.asg 2 (.bin .BitAnd (.bin .Add (.v 2) (.c (.int 1))) (.fld 0 1))) (.cons (.ifc (.v 2) (.cons (.aat 0 15 .BitOr (.bin .BitAnd (.v 2) (.cat 0 "NEGATIVE" (.at (.int 128))))) .nil) (.cons (.aat 0 15 .BitOr (.cat 0 "ZERO" (.at (.int 2)))) .nil)) (.cons (.ifc (.cmp .Is (.v 1) (.c .none)) (.cons (.sat 0 12 (.v 2)) .nil) (.cons (.six (.fld 0 8) (.v 3) (.v 2)) .nil)) .nil)))))
noncomputable def pn_opLDA : List Str := ["self", "x"]
noncomputable def ns_opLDA : List Str := ["self", "x"]
noncomputable def ir_opLDA : Cs := (.cons (.sat 0 12 (.mc 0 "ByteAt" 4 (.cons (.vc 1 .nil) .nil))) (.cons (.ex (.mc 0 "FlagsNZ" 22 (.cons (.fld 0 12) .nil))) .nil))
noncomputable def pn_opLDY : List Str := ["self", "x"]
noncomputable def ns_opLDY : List Str := ["self", "x"]
noncomputable def ir_opLDY : Cs := (.cons (.sat 0 14 (.mc 0 "ByteAt" 4 (.cons (.vc 1 .nil) .nil))) (.cons (.ex (.mc 0 "FlagsNZ" 22 (.cons (.fld 0 14) .nil))) .nil))
noncomputable def pn_opLDX : List Str := ["self", "y"]
noncomputable def ns_opLDX : List Str := ["self", "y"]
noncomputable def ir_opLDX : Cs := (.cons (.sat 0 13 (.mc 0 "ByteAt" 4 (.cons (.vc 1 .nil) .nil))) (.cons (.ex (.mc 0 "FlagsNZ" 22 (.cons (.fld 0 13) .nil))) .nil))
noncomputable def pn_inst_0x00 : List Str := ["self"]
noncomputable def ns_inst_0x00 : List Str := ["self", "pc"]
noncomputable def ir_inst_0x00 : Cs := (.cons (.asg 1 (.bin .BitAnd (.bin .Add (.fld 0 10) (.c (.int 1))) (.fld 0 2))) (.cons (.ex (.mc 0 "stPushWord" 20 (.cons (.v 1) .nil))) (.cons (.aat 0 15 .BitOr (.cat 0 "BREAK" (.at (.int 16)))) (.cons (.ex (.mc 0 "stPush" 18 (.cons (.bin .BitOr (.bin .BitOr (.fld 0 15) (.cat 0 "BREAK" (.at (.int 16)))) (.cat 0 "UNUSED" (.at (.int 32)))) .nil))) (.cons (.aat 0 15 .BitOr (.cat 0 "INTERRUPT" (.at (.int 4)))) (.cons (.sat 0 10 (.mc 0 "WordAt" 5 (.cons (.cat 0 "IRQ" (.at (.int 65534))) .nil))) .nil))))))
noncomputable def pn_inst_0x10 : List Str := ["self"]
noncomputable def ns_inst_0x10 : List Str := ["self"]
noncomputable def ir_inst_0x10 : Cs := (.cons (.ex (.mc 0 "opBCL" 26 (.cons (.cat 0 "NEGATIVE" (.at (.int 128))) .nil))) .nil)
noncomputable def pn_inst_0x18 : List Str := ["self"]
noncomputable def ns_inst_0x18 : List Str := ["self"]
noncomputable def ir_inst_0x18 : Cs := (.cons (.ex (.mc 0 "opCLR" 28 (.cons (.cat 0 "CARRY" (.at (.int 1))) .nil))) .nil)
noncomputable def pn_inst_0x20 : List Str := ["self"]
noncomputable def ns_inst_0x20 : List Str := ["self"]
noncomputable def ir_inst_0x20 : Cs := (.cons (.ex (.mc 0 "stPushWord" 20 (.cons (.bin .BitAnd (.bin .Add (.fld 0 10) (.c (.int 1))) (.fld 0 2)) .nil))) (.cons (.sat 0 10 (.mc 0 "WordAt" 5 (.cons (.fld 0 10) .nil))) .nil))
noncomputable def pn_inst_0x28 : List Str := ["self"]
noncomputable def ns_inst_0x28 : List Str := ["self"]
noncomputable def ir_inst_0x28 : Cs := (.cons (.sat 0 15 (.bin .BitOr (.bin .BitOr (.mc 0 "stPop" 19 .nil) (.cat 0 "BREAK" (.at (.int 16)))) (.cat 0 "UNUSED" (.at (.int 32))))) .nil)
noncomputable def pn_inst_0x30 : List Str := ["self"]
noncomputable def ns_inst_0x30 : List Str := ["self"]
noncomputable def ir_inst_0x30 : Cs := (.cons (.ex (.mc 0 "opBST" 27 (.cons (.cat 0 "NEGATIVE" (.at (.int 128))) .nil))) .nil)
noncomputable def pn_inst_0x40 : List Str := ["self"]
noncomputable def ns_inst_0x40 : List Str := ["self"]
noncomputable def ir_inst_0x40 : Cs := (.cons (.sat 0 15 (.bin .BitOr (.bin .BitOr (.mc 0 "stPop" 19 .nil) (.cat 0 "BREAK" (.at (.int 16)))) (.cat 0 "UNUSED" (.at (.int 32))))) (.cons (.sat 0 10 (.mc 0 "stPopWord" 21 .nil)) .nil))
noncomputable def pn_inst_0x48 : List Str := ["self"]
noncomputable def ns_inst_0x48 : List Str := ["self"]
noncomputable def ir_inst_0x48 : Cs := (.cons (.ex (.mc 0 "stPush" 18 (.cons (.fld 0 12) .nil))) .nil)
noncomputable def pn_inst_0x4c : List Str := ["self"]
noncomputable def ns_inst_0x4c : List Str := ["self"]
noncomputable def ir_inst_0x4c : Cs := (.cons (.sat 0 10 (.mc 0 "WordAt" 5 (.cons (.fld 0 10) .nil))) .nil)
noncomputable def pn_inst_0x50 : List Str := ["self"]
noncomputable def ns_inst_0x50 : List Str := ["self"]
noncomputable def ir_inst_0x50 : Cs := (.cons (.ex (.mc 0 "opBCL" 26 (.cons (.cat 0 "OVERFLOW" (.at (.int 64))) .nil))) .nil)
noncomputable def pn_inst_0x60 : List Str := ["self"]
noncomputable def ns_inst_0x60 : List Str := ["self"]
noncomputable def ir_inst_0x60 : Cs := (.cons (.sat 0 10 (.mc 0 "stPopWord" 21 .nil)) (.cons (.aat 0 10 .Add (.c (.int 1))) .nil))
noncomputable def pn_inst_0x69 : List Str := ["self"]
noncomputable def ns_inst_0x69 : List Str := ["self"]
noncomputable def ir_inst_0x69 : Cs := (.cons (.ex (.mc 0 "opADC" 34 (.cons (.bm 0 "ProgramCounter" 7) .nil))) (.cons (.aat 0 10 .Add (.c (.int 1))) .nil))
noncomputable def pn_inst_0x6c : List Str := ["self"]
noncomputable def ns_inst_0x6c : List Str := ["self", "ta"]
noncomputable def ir_inst_0x6c : Cs := (.cons (.asg 1 (.mc 0 "WordAt" 5 (.cons (.fld 0 10) .nil))) (.cons (.sat 0 10 (.mc 0 "WrapAt" 6 (.cons (.v 1) .nil))) .nil))
noncomputable def pn_inst_0x70 : List Str := ["self"]
noncomputable def ns_inst_0x70 : List Str := ["self"]
noncomputable def ir_inst_0x70 : Cs := (.cons (.ex (.mc 0 "opBST" 27 (.cons (.cat 0 "OVERFLOW" (.at (.int 64))) .nil))) .nil)
noncomputable def pn_inst_0x90 : List Str := ["self"]
noncomputable def ns_inst_0x90 : List Str := ["self"]
noncomputable def ir_inst_0x90 : Cs := (.cons (.ex (.mc 0 "opBCL" 26 (.cons (.cat 0 "CARRY" (.at (.int 1))) .nil))) .nil)
noncomputable def pn_inst_0x91 : List Str := ["self"]
noncomputable def ns_inst_0x91 : List Str := ["self"]
noncomputable def ir_inst_0x91 : Cs := (.cons (.ex (.mc 0 "opSTA" 36 (.cons (.bm 0 "IndirectYAddr" 13) .nil))) (.cons (.aat 0 10 .Add (.c (.int 1))) .nil))
noncomputable def pn_inst_0x99 : List Str := ["self"]
noncomputable def ns_inst_0x99 : List Str := ["self"]
noncomputable def ir_inst_0x99 : Cs := (.cons (.ex (.mc 0 "opSTA" 36 (.cons (.bm 0 "AbsoluteYAddr" 16) .nil))) (.cons (.aat 0 10 .Add (.c (.int 2))) .nil))
noncomputable def pn_inst_0x9a : List Str := ["self"]
noncomputable def ns_inst_0x9a : List Str := ["self"]
noncomputable def ir_inst_0x9a : Cs := (.cons (.sat 0 11 (.fld 0 13)) .nil)
noncomputable def pn_inst_0x9d : List Str := ["self"]
noncomputable def ns_inst_0x9d : List Str := ["self"]
noncomputable def ir_inst_0x9d : Cs := (.cons (.ex (.mc 0 "opSTA" 36 (.cons (.bm 0 "AbsoluteXAddr" 15) .nil))) (.cons (.aat 0 10 .Add (.c (.int 2))) .nil))
noncomputable def pn_inst_0xa2 : List Str := ["self"]
noncomputable def ns_inst_0xa2 : List Str := ["self"]
noncomputable def ir_inst_0xa2 : Cs := (.cons (.ex (.mc 0 "opLDX" 45 (.cons (.bm 0 "ProgramCounter" 7) .nil))) (.cons (.aat 0 10 .Add (.c (.int 1))) .nil))
noncomputable def pn_inst_0xa4 : List Str := ["self"]
noncomputable def ns_inst_0xa4 : List Str := ["self"]
noncomputable def ir_inst_0xa4 : Cs := (.cons (.ex (.mc 0 "opLDY" 44 (.cons (.bm 0 "ZeroPageAddr" 9) .nil))) (.cons (.aat 0 10 .Add (.c (.int 1))) .nil))
noncomputable def pn_inst_0xa6 : List Str := ["self"]
noncomputable def ns_inst_0xa6 : List Str := ["self"]
noncomputable def ir_inst_0xa6 : Cs := (.cons (.ex (.mc 0 "opLDX" 45 (.cons (.bm 0 "ZeroPageAddr" 9) .nil))) (.cons (.aat 0 10 .Add (.c (.int 1))) .nil))
noncomputable def pn_inst_0xa9 : List Str := ["self"]
noncomputable def ns_inst_0xa9 : List Str := ["self"]
noncomputable def ir_inst_0xa9 : Cs := (.cons (.ex (.mc 0 "opLDA" 43 (.cons (.bm 0 "ProgramCounter" 7) .nil))) (.cons (.aat 0 10 .Add (.c (.int 1))) .nil))
noncomputable def pn_inst_0xb0 : List Str := ["self"]
noncomputable def ns_inst_0xb0 : List Str := ["self"]
noncomputable def ir_inst_0xb0 : Cs := (.cons (.ex (.mc 0 "opBST" 27 (.cons (.cat 0 "CARRY" (.at (.int 1))) .nil))) .nil)
noncomputable def pn_inst_0xc6 : List Str := ["self"]
noncomputable def ns_inst_0xc6 : List Str := ["self"]
noncomputable def ir_inst_0xc6 : Cs := (.cons (.ex (.mc 0 "opDECR" 41 (.cons (.bm 0 "ZeroPageAddr" 9) .nil))) (.cons (.aat 0 10 .Add (.c (.int 1))) .nil))
noncomputable def pn_inst_0xd0 : List Str := ["self"]
noncomputable def ns_inst_0xd0 : List Str := ["self"]
noncomputable def ir_inst_0xd0 : Cs := (.cons (.ex (.mc 0 "opBCL" 26 (.cons (.cat 0 "ZERO" (.at (.int 2))) .nil))) .nil)
noncomputable def pn_inst_0xd8 : List Str := ["self"]
noncomputable def ns_inst_0xd8 : List Str := ["self"]
noncomputable def ir_inst_0xd8 : Cs := (.cons (.ex (.mc 0 "opCLR" 28 (.cons (.cat 0 "DECIMAL" (.at (.int 8))) .nil))) .nil)
noncomputable def pn_inst_0xe6 : List Str := ["self"]
noncomputable def ns_inst_0xe6 : List Str := ["self"]
noncomputable def ir_inst_0xe6 : Cs := (.cons (.ex (.mc 0 "opINCR" 42 (.cons (.bm 0 "ZeroPageAddr" 9) .nil))) (.cons (.aat 0 10 .Add (.c (.int 1))) .nil))
noncomputable def pn_inst_0xf0 : List Str := ["self"]
noncomputable def ns_inst_0xf0 : List Str := ["self"]
noncomputable def ir_inst_0xf0 : Cs := (.cons (.ex (.mc 0 "opBST" 27 (.cons (.cat 0 "ZERO" (.at (.int 2))) .nil))) .nil)
noncomputable def pn_WrapAt : List Str := ["self", "addr"]
noncomputable def ns_WrapAt : List Str := ["self", "addr", "wrap"]
noncomputable def ir_WrapAt : Cs := (.cons (.lam 2 0) (.cons (.ret (.bin .Add (.mc 0 "ByteAt" 4 (.cons (.v 1) .nil)) (.bin .LShift (.mc 0 "ByteAt" 4 (.cons (.vc 2 (.cons (.v 1) .nil)) .nil)) (.cat 0 "BYTE_WIDTH" (.at (.int 8)))))) .nil))
noncomputable def pn_init : List Str := ["self", "memory", "pc"]
noncomputable def ns_init : List Str := ["self", "memory", "pc"]
noncomputable def ir_init : Cs := (.cons (.sat 0 0 (.s "6502")) (.cons (.sat 0 1 (.bin .Sub (.bin .LShift (.c (.int 1)) (.cat 0 "BYTE_WIDTH" (.at (.int 8)))) (.c (.int 1)))) (.cons (.sat 0 2 (.bin .Sub (.bin .LShift (.c (.int 1)) (.cat 0 "ADDR_WIDTH" (.at (.int 16)))) (.c (.int 1)))) (.cons (.sat 0 3 (.bin .LShift (.fld 0 1) (.cat 0 "BYTE_WIDTH" (.at (.int 8))))) (.cons (.sat 0 4 (.bin .LShift (.c (.int 1)) (.cat 0 "BYTE_WIDTH" (.at (.int 8))))) (.cons (.sat 0 5 (.c (.int 0))) (.cons (.sat 0 6 (.c (.bool false))) (.cons (.sat 0 7 (.c (.int 0))) (.cons (.ifc (.cmp .Is (.v 1) (.c .none)) (.cons (.asg 1 (.bin .Mult (.c (.int 65536)) (.lst (.cons (.c (.int 0)) .nil)))) .nil) .nil) (.cons (.sat 0 8 (.v 1)) (.cons (.sat 0 9 (.v 2)) (.cons (.ex (.mc 0 "reset" 1 .nil)) .nil))))))))))))
noncomputable def pn_law_word : List Str := ["place"]
noncomputable def ns_law_word : List Str := ["place"]
noncomputable def ir_law_word : Cs := (.cons (.ret (.lst (.cons (.bin .Mod (.v 0) (.c (.int 256))) (.cons (.bin .FloorDiv (.v 0) (.c (.int 256))) .nil)))) .nil)
noncomputable def pn_law_plan : List Str := ["n", "spot"]
noncomputable def ns_law_plan : List Str := ["n", "spot", "way", "go", "other", "mine", "more", "kind", "how"]
noncomputable def ir_law_plan : Cs := (.cons (.asg 2 (.bin .Mod (.bin .Add (.v 0) (.bin .Mult (.c (.int 3)) (.v 1))) (.c (.int 8)))) (.cons (.asg 3 (.bin .Mod (.bin .Add (.bin .Add (.bin .Mult (.c (.int 5)) (.v 0)) (.v 1)) (.c (.int 1))) (.c (.int 10)))) (.cons (.asg 4 (.bin .Mod (.bin .Add (.bin .FloorDiv (.v 0) (.c (.int 8))) (.bin .Mult (.c (.int 2)) (.v 1))) (.c (.int 10)))) (.cons (.asg 5 (.bin .Mod (.bin .Add (.bin .Mult (.bin .FloorDiv (.v 0) (.c (.int 2))) (.c (.int 29))) (.bin .Mult (.c (.int 71)) (.v 1))) (.c (.int 256)))) (.cons (.asg 6 (.bin .Mod (.bin .Add (.bin .Mult (.bin .FloorDiv (.v 0) (.c (.int 3))) (.c (.int 53))) (.bin .Mult (.c (.int 147)) (.v 1))) (.c (.int 256)))) (.cons (.asg 7 (.bin .Mod (.bin .Add (.bin .FloorDiv (.v 0) (.c (.int 8))) (.v 1)) (.c (.int 8)))) (.cons (.asg 8 (.bin .Mod (.bin .Add (.v 0) (.bin .Mult (.c (.int 2)) (.v 1))) (.c (.int 3)))) (.cons (.ret (.tup (.cons (.v 2) (.cons (.v 3) (.cons (.v 4) (.cons (.v 5) (.cons (.v 6) (.cons (.v 7) (.cons (.v 8) .nil))))))))) .nil))))))))
noncomputable def pn_law_pointer : List Str := ["n", "spot"]
noncomputable def ns_law_pointer : List Str := ["n", "spot", "kind", "more"]
noncomputable def ir_law_pointer : Cs := (.cons (.tar [2, 3] (.tup (.cons (.idx (.gc "_law_plan" 202 (.cons (.v 0) (.cons (.v 1) .nil))) (.c (.int 5))) (.cons (.idx (.gc "_law_plan" 202 (.cons (.v 0) (.cons (.v 1) .nil))) (.c (.int 4))) .nil)))) (.cons (.ret (.bin .Add (.bin .Add (.c (.int 1024)) (.bin .Mult (.c (.int 256)) (.v 1))) (.ite (.cmp .Eq (.bin .Mod (.v 2) (.c (.int 2))) (.c (.int 0))) (.c (.int 255)) (.bin .Mod (.v 3) (.c (.int 255)))))) .nil))
noncomputable def pn_law_block : List Str := ["n", "spot", "bases"]
noncomputable def ns_law_block : List Str := ["n", "spot", "bases", "way", "go", "other", "mine", "more", "kind", "how", "goal", "second", "code", "low", "high", "back"]
noncomputable def ir_law_block : Cs := (.cons (.tas [3, 4, 5, 6, 7, 8, 9] (.gc "_law_plan" 202 (.cons (.v 0) (.cons (.v 1) .nil)))) (.cons (.tar [10, 11] (.tup (.cons (.gc "_law_word" 201 (.cons (.bin .Add (.idx (.v 2) (.v 4)) (.c (.int 3))) .nil)) (.cons (.gc "_law_word" 201 (.cons (.bin .Add (.idx (.v 2) (.v 5)) (.c (.int 3))) .nil)) .nil)))) (.cons (.asg 12 (.bin .Add (.bin .Add (.lst (.cons (.c (.int 76)) .nil)) (.v 10)) (.lst (.cons (.c (.int 198)) (.cons (.c (.int 16)) (.cons (.c (.int 208)) (.cons (.c (.int 3)) (.cons (.c (.int 76)) (.cons (.c (.int 88)) (.cons (.c (.int 2)) .nil)))))))))) (.cons (.ifc (.cmp .Eq (.v 9) (.c (.int 0))) (.cons (.ladd 12 (.lst (.cons (.c (.int 166)) (.cons (.c (.int 17)) (.cons (.c (.int 169)) (.cons (.v 1) (.cons (.c (.int 157)) (.cons (.c (.int 128)) (.cons (.c (.int 2)) .nil))))))))) .nil) (.cons (.ifc (.cmp .Eq (.v 9) (.c (.int 1))) (.cons (.ladd 12 (.lst (.cons (.c (.int 164)) (.cons (.c (.int 17)) (.cons (.c (.int 169)) (.cons (.v 1) (.cons (.c (.int 153)) (.cons (.c (.int 128)) (.cons (.c (.int 2)) .nil))))))))) .nil) (.cons (.ladd 12 (.lst (.cons (.c (.int 164)) (.cons (.c (.int 17)) (.cons (.c (.int 169)) (.cons (.v 1) (.cons (.c (.int 145)) (.cons (.c (.int 255)) .nil)))))))) .nil)) .nil)) (.cons (.ladd 12 (.lst (.cons (.c (.int 230)) (.cons (.c (.int 17)) .nil)))) (.cons (.ifc (.cmp .Eq (.v 3) (.c (.int 0))) (.cons (.ladd 12 (.bin .Add (.lst (.cons (.c (.int 76)) .nil)) (.v 10))) .nil) (.cons (.ifc (.cmp .Eq (.v 3) (.c (.int 1))) (.cons (.ladd 12 (.bin .Add (.lst (.cons (.c (.int 108)) .nil)) (.gc "_law_word" 201 (.cons (.gc "_law_pointer" 203 (.cons (.v 0) (.cons (.v 1) .nil))) .nil)))) .nil) (.cons (.ifc (.cmp .Eq (.v 3) (.c (.int 2))) (.cons (.ladd 12 (.bin .Add (.bin .Add (.bin .Add (.lst (.cons (.c (.int 32)) .nil)) (.v 10)) (.lst (.cons (.c (.int 76)) .nil))) (.v 11))) .nil) (.cons (.ifc (.cmp .Eq (.v 3) (.c (.int 3))) (.cons (.ladd 12 (.lst (.cons (.c (.int 96)) .nil))) .nil) (.cons (.ifc (.cmp .Eq (.v 3) (.c (.int 4))) (.cons (.tal [13, 14] (.gc "_law_word" 201 (.cons (.bin .Add (.idx (.v 2) (.v 4)) (.c (.int 2))) .nil))) (.cons (.ladd 12 (.lst (.cons (.c (.int 169)) (.cons (.v 14) (.cons (.c (.int 72)) (.cons (.c (.int 169)) (.cons (.v 13) (.cons (.c (.int 72)) (.cons (.c (.int 96)) .nil))))))))) .nil)) (.cons (.ifc (.cmp .Eq (.v 3) (.c (.int 5))) (.cons (.ladd 12 (.lst (.cons (.c (.int 169)) (.cons (.idx (.v 10) (.c (.int 1))) (.cons (.c (.int 72)) (.cons (.c (.int 169)) (.cons (.idx (.v 10) (.c (.int 0))) (.cons (.c (.int 72)) (.cons (.c (.int 169)) (.cons (.v 6) (.cons (.c (.int 72)) (.cons (.c (.int 64)) .nil)))))))))))) .nil) (.cons (.ifc (.cmp .Eq (.v 3) (.c (.int 6))) (.cons (.ladd 12 (.bin .Add (.lst (.cons (.c (.int 169)) (.cons (.v 6) (.cons (.c (.int 72)) (.cons (.c (.int 40)) (.cons (.c (.int 0)) (.cons (.c (.int 234)) (.cons (.c (.int 76)) .nil)))))))) (.v 10))) .nil) (.cons (.ladd 12 (.lst (.cons (.c (.int 216)) (.cons (.c (.int 24)) (.cons (.c (.int 169)) (.cons (.v 6) (.cons (.c (.int 105)) (.cons (.v 7) (.cons (.bin .Add (.c (.int 16)) (.bin .Mult (.c (.int 32)) (.v 8))) .nil))))))))) (.cons (.ifc (.cmp .Eq (.bin .Mod (.v 7) (.c (.int 2))) (.c (.int 0))) (.cons (.ladd 12 (.bin .Add (.bin .Add (.bin .Add (.lst (.cons (.c (.int 3)) (.cons (.c (.int 76)) .nil))) (.v 11)) (.lst (.cons (.c (.int 76)) .nil))) (.v 10))) .nil) (.cons (.asg 15 (.bin .Mod (.bin .Sub (.neg (.len (.v 12))) (.c (.int 1))) (.c (.int 256)))) (.cons (.ladd 12 (.bin .Add (.lst (.cons (.v 15) (.cons (.c (.int 76)) .nil))) (.v 11))) .nil))) .nil))) .nil)) .nil)) .nil)) .nil)) .nil)) .nil)) (.cons (.ret (.v 12)) .nil)))))))
noncomputable def pn_law_signed : List Str := ["octet"]
noncomputable def ns_law_signed : List Str := ["octet"]
noncomputable def ir_law_signed : Cs := (.cons (.ret (.ite (.cmp .Gt (.v 0) (.c (.int 127))) (.bin .Sub (.v 0) (.c (.int 256))) (.v 0))) .nil)
noncomputable def pn_law_taken : List Str := ["kind", "mine", "more"]
noncomputable def ns_law_taken : List Str := ["kind", "mine", "more", "whole", "signed", "seen"]
noncomputable def ir_law_taken : Cs := (.cons (.asg 3 (.bin .Add (.v 1) (.v 2))) (.cons (.asg 4 (.bin .Add (.gc "_law_signed" 205 (.cons (.v 1) .nil)) (.gc "_law_signed" 205 (.cons (.v 2) .nil)))) (.cons (.asg 5 (.idx (.lst (.cons (.cmp .Gt (.bin .Mod (.v 3) (.c (.int 256))) (.c (.int 127))) (.cons (.or (.cmp .Lt (.v 4) (.neg (.c (.int 128)))) (.cmp .Gt (.v 4) (.c (.int 127)))) (.cons (.cmp .Gt (.v 3) (.c (.int 255))) (.cons (.cmp .Eq (.bin .Mod (.v 3) (.c (.int 256))) (.c (.int 0))) .nil))))) (.bin .FloorDiv (.v 0) (.c (.int 2))))) (.cons (.ret (.cmp .Eq (.v 5) (.cmp .Eq (.bin .Mod (.v 0) (.c (.int 2))) (.c (.int 1))))) .nil))))
noncomputable def pn_law_lay : List Str := ["plain", "top", "octets"]
noncomputable def ns_law_lay : List Str := ["plain", "top", "octets", "octet"]
noncomputable def ir_law_lay_b1 : Cs := (.cons (.six (.v 0) (.bin .Add (.c (.int 256)) (.v 1)) (.v 3)) (.cons (.asg 1 (.bin .Mod (.bin .Sub (.v 1) (.c (.int 1))) (.c (.int 256)))) .nil))
noncomputable def ir_law_lay : Cs := (.cons (.forc (.one 3) (.v 2) ir_law_lay_b1) (.cons (.ret (.v 1)) .nil))
noncomputable def pn_law : List Str := ["script"]
noncomputable def ns_law : List Str := ["script", "total", "n", "numbers", "bases", "top", "left", "memory", "spot", "code", "pointer", "low", "high", "plain", "mpu", "turn", "log", "calls", "here", "way", "go", "other", "mine", "more", "kind", "how", "leave"]
noncomputable def ir_law_b1 : Cs := (.cons (.aug 6 .Sub (.c (.int 1))) (.cons (.ifc (.cmp .Eq (.v 6) (.c (.int 0))) (.cons .brk .nil) .nil) (.cons (.app 16 (.v 18)) (.cons (.tas [19, 20, 21, 22, 23, 24, 25] (.gc "_law_plan" 202 (.cons (.idx (.v 3) (.v 18)) (.cons (.v 18) .nil)))) (.cons (.asg 26 (.bin .Add (.idx (.v 4) (.v 18)) (.ite (.cmp .Eq (.v 25) (.c (.int 2))) (.c (.int 18)) (.c (.int 19))))) (.cons (.ifc (.cmp .Eq (.v 19) (.c (.int 2))) (.cons (.asg 5 (.gc "_law_lay" 207 (.cons (.v 13) (.cons (.v 5) (.cons (.lst (.cons (.bin .FloorDiv (.bin .Add (.v 26) (.c (.int 2))) (.c (.int 256))) (.cons (.bin .Mod (.bin .Add (.v 26) (.c (.int 2))) (.c (.int 256))) .nil))) .nil))))) (.cons (.app 17 (.v 21)) (.cons (.asg 18 (.v 20)) .nil))) (.cons (.ifc (.cmp .Eq (.v 19) (.c (.int 3))) (.cons (.asg 5 (.bin .Mod (.bin .Add (.v 5) (.c (.int 2))) (.c (.int 256)))) (.cons (.asg 18 (.ite (.v 17) (.pop 17) (.c .none))) .nil)) (.cons (.ifc (.cmp .Eq (.v 19) (.c (.int 7))) (.cons (.asg 18 (.ite (.gc "_law_taken" 206 (.cons (.v 24) (.cons (.v 22) (.cons (.v 23) .nil)))) (.v 20) (.v 21))) .nil) (.cons (.ifc (.cmp .Eq (.v 19) (.c (.int 4))) (.cons (.ex (.gc "_law_lay" 207 (.cons (.v 13) (.cons (.v 5) (.cons (.lst (.cons (.bin .FloorDiv (.bin .Add (.idx (.v 4) (.v 20)) (.c (.int 2))) (.c (.int 256))) (.cons (.bin .Mod (.bin .Add (.idx (.v 4) (.v 20)) (.c (.int 2))) (.c (.int 256))) .nil))) .nil))))) .nil) (.cons (.ifc (.cmp .Eq (.v 19) (.c (.int 5))) (.cons (.ex (.gc "_law_lay" 207 (.cons (.v 13) (.cons (.v 5) (.cons (.lst (.cons (.bin .FloorDiv (.bin .Add (.idx (.v 4) (.v 20)) (.c (.int 3))) (.c (.int 256))) (.cons (.bin .Mod (.bin .Add (.idx (.v 4) (.v 20)) (.c (.int 3))) (.c (.int 256))) (.cons (.v 22) .nil)))) .nil))))) .nil) (.cons (.ifc (.cmp .Eq (.v 19) (.c (.int 6))) (.cons (.ex (.gc "_law_lay" 207 (.cons (.v 13) (.cons (.v 5) (.cons (.lst (.cons (.v 22) .nil)) .nil))))) (.cons (.ex (.gc "_law_lay" 207 (.cons (.v 13) (.cons (.v 5) (.cons (.lst (.cons (.bin .FloorDiv (.bin .Add (.v 26) (.c (.int 6))) (.c (.int 256))) (.cons (.bin .Mod (.bin .Add (.v 26) (.c (.int 6))) (.c (.int 256))) (.cons (.bin .Add (.bin .Add (.bin .Mult (.bin .FloorDiv (.v 22) (.c (.int 64))) (.c (.int 64))) (.c (.int 48))) (.bin .Mod (.v 22) (.c (.int 16)))) .nil)))) .nil))))) (.cons (.app 16 (.c (.int 99))) .nil))) .nil) .nil)) .nil)) (.cons (.asg 18 (.v 20)) .nil))) .nil)) .nil)) .nil))))))
noncomputable def ir_law_b2 : Cs := (.cons (.ifc (.cmp .Eq (.fld 14 10) (.c (.int 600))) (.cons .brk .nil) .nil) (.cons (.ex (.mc 14 "step" 0 .nil)) .nil))
noncomputable def ir_law_b3 : Cs := (.cons (.asg 9 (.gc "_law_block" 204 (.cons (.v 2) (.cons (.v 8) (.cons (.v 4) .nil))))) (.cons (.sls 7 (.idx (.v 4) (.v 8)) (.bin .Add (.idx (.v 4) (.v 8)) (.len (.v 9))) (.v 9)) (.cons (.asg 10 (.gc "_law_pointer" 203 (.cons (.v 2) (.cons (.v 8) .nil)))) (.cons (.tal [11, 12] (.gc "_law_word" 201 (.cons (.bin .Add (.idx (.v 4) (.idx (.gc "_law_plan" 202 (.cons (.v 2) (.cons (.v 8) .nil))) (.c (.int 1)))) (.c (.int 3))) .nil))) (.cons (.six (.v 7) (.v 10) (.v 11)) (.cons (.six (.v 7) (.bin .Add (.bin .Mult (.bin .FloorDiv (.v 10) (.c (.int 256))) (.c (.int 256))) (.bin .Mod (.bin .Add (.v 10) (.c (.int 1))) (.c (.int 256)))) (.v 12)) .nil))))))
noncomputable def ir_law_b4 : Cs := (.cons (.casg 1 (.bin .Mod (.bin .Add (.bin .Mult (.c (.int 31)) (.v 1)) (.v 2)) (.c (.int 1000003)))) .nil)
noncomputable def ir_law : Cs := (.cons (.casg 1 (.c (.int 0))) (.cons (.forc (.one 2) (.cut (.v 0) (some 40)) ir_law_b4) (.cons (.asg 3 (.cut (.bin .Add (.cut (.v 0) (some 10)) (.comp 1 10 (.bin .Add .y (.bin .Mult (.k 7) .x)))) (some 10))) (.cons (.asg 4 (.comp 1 10 (.bin .Add (.bin .Add (.k 4400) (.bin .Mod .y (.k 50000))) (.bin .Mult (.bin .Add (.k 48) (.bin .Mod .y (.k 300))) (.bin .Mod (.bin .Mult (.k 3) .x) (.k 10)))))) (.cons (.tar [5, 6] (.tup (.cons (.bin .Mod (.v 1) (.c (.int 256))) (.cons (.bin .Add (.c (.int 5)) (.bin .Mod (.v 1) (.c (.int 6)))) .nil)))) (.cons (.asg 7 (.bin .Mult (.lst (.cons (.c (.int 0)) .nil)) (.c (.int 65536)))) (.cons (.tsx 7 0 255 (.tup (.cons (.c (.int 2)) (.cons (.c (.int 128)) .nil)))) (.cons (.six (.v 7) (.c (.int 16)) (.v 6)) (.cons (.sls 7 (.c (.int 512)) (.c (.int 524)) (.bin .Add (.lst (.cons (.c (.int 162)) (.cons (.v 5) (.cons (.c (.int 154)) (.cons (.c (.int 169)) (.cons (.c (.int 2)) (.cons (.c (.int 72)) (.cons (.c (.int 169)) (.cons (.c (.int 87)) (.cons (.c (.int 72)) (.cons (.c (.int 76)) .nil))))))))))) (.gc "_law_word" 201 (.cons (.bin .Add (.idx (.v 4) (.c (.int 0))) (.c (.int 3))) .nil)))) (.cons (.sls 7 (.c (.int 560)) (.c (.int 570)) (.lst (.cons (.c (.int 166)) (.cons (.c (.int 17)) (.cons (.c (.int 169)) (.cons (.c (.int 99)) (.cons (.c (.int 157)) (.cons (.c (.int 128)) (.cons (.c (.int 2)) (.cons (.c (.int 230)) (.cons (.c (.int 17)) (.cons (.c (.int 64)) .nil)))))))))))) (.cons (.sls 7 (.c (.int 65534)) (.c (.int 65536)) (.gc "_law_word" 201 (.cons (.c (.int 560)) .nil))) (.cons (.forc (.enum 8 2) (.v 3) ir_law_b3) (.cons (.asg 13 (.cut (.v 7) none)) (.cons (.asg 14 (.new (.v 7) (.c (.int 512)))) (.cons (.forr 15 300 ir_law_b2) (.cons (.asg 5 (.gc "_law_lay" 207 (.cons (.v 13) (.cons (.v 5) (.cons (.lst (.cons (.c (.int 2)) (.cons (.c (.int 87)) .nil))) .nil))))) (.cons (.tar [16, 17, 18] (.tup (.cons (.lst .nil) (.cons (.lst .nil) (.cons (.c (.int 0)) .nil))))) (.cons (.whl (.cmp .IsNot (.v 18) (.c .none)) ir_law_b1) (.cons (.tsx 13 16 17 (.tup (.cons (.v 6) (.cons (.len (.v 16)) .nil)))) (.cons (.sls 13 (.c (.int 640)) (.bin .Add (.c (.int 640)) (.len (.v 16))) (.v 16)) (.cons (.ret (.and3 (.cmp .Eq (.fld 14 10) (.c (.int 600))) (.cmp .Eq (.fld 14 11) (.v 5)) (.leq (.fld 14 8) (.v 13)))) .nil)))))))))))))))))))))
noncomputable def ir_lam : Tm := (.bin .Add (.bin .BitAnd (.v 0) (.fld 1 3)) (.bin .BitAnd (.bin .Add (.v 0) (.c (.int 1))) (.fld 1 1)))
noncomputable def tabs : Tabs := ⟨[("ADDR_WIDTH", (.at (.int 16))), ("BREAK", (.at (.int 16))), ("BYTE_WIDTH", (.at (.int 8))), ("CARRY", (.at (.int 1))), ("DECIMAL", (.at (.int 8))), ("INTERRUPT", (.at (.int 4))), ("IRQ", (.at (.int 65534))), ("NEGATIVE", (.at (.int 128))), ("OVERFLOW", (.at (.int 64))), ("RESET", (.at (.int 65532))), ("UNUSED", (.at (.int 32))), ("ZERO", (.at (.int 2))), ("cycletime", (.kl 1)), ("extracycles", (.kl 2)), ("instruct", (.kl 0))], [("AbsoluteXAddr", 15), ("AbsoluteYAddr", 16), ("BranchRelAddr", 17), ("ByteAt", 4), ("FlagsNZ", 22), ("ImmediateByte", 8), ("IndirectYAddr", 13), ("ProgramCounter", 7), ("WordAt", 5), ("WrapAt", 6), ("ZeroPageAddr", 9), ("opADC", 34), ("opBCL", 26), ("opBST", 27), ("opCLR", 28), ("opDECR", 41), ("opINCR", 42), ("opLDA", 43), ("opLDX", 45), ("opLDY", 44), ("opSTA", 36), ("reset", 1), ("stPop", 19), ("stPopWord", 21), ("stPush", 18), ("stPushWord", 20), ("step", 0)], [("MPU", 300), ("_law_block", 204), ("_law_lay", 207), ("_law_plan", 202), ("_law_pointer", 203), ("_law_signed", 205), ("_law_taken", 206), ("_law_word", 201)], [("enumerate", (true, "enumerate")), ("range", (true, "range")), ("len", (false, "len"))]⟩
noncomputable def x_step : Sx := ⟨tabs, attrsL, ns_step, fScope (dAt 0), []⟩
theorem ok_step : okCs x_step ir_step (fBody (dAt 0)) = true := by kernel_rfl
noncomputable def x_reset : Sx := ⟨tabs, attrsL, ns_reset, fScope (dAt 1), []⟩
theorem ok_reset : okCs x_reset ir_reset (fBody (dAt 1)) = true := by kernel_rfl
noncomputable def x_ByteAt : Sx := ⟨tabs, attrsL, ns_ByteAt, fScope (dAt 4), []⟩
theorem ok_ByteAt : okCs x_ByteAt ir_ByteAt (fBody (dAt 4)) = true := by kernel_rfl
noncomputable def x_WordAt : Sx := ⟨tabs, attrsL, ns_WordAt, fScope (dAt 5), []⟩
theorem ok_WordAt : okCs x_WordAt ir_WordAt (fBody (dAt 5)) = true := by kernel_rfl
noncomputable def x_ProgramCounter : Sx := ⟨tabs, attrsL, ns_ProgramCounter, fScope (dAt 7), []⟩
theorem ok_ProgramCounter : okCs x_ProgramCounter ir_ProgramCounter (fBody (dAt 7)) = true := by kernel_rfl
noncomputable def x_ImmediateByte : Sx := ⟨tabs, attrsL, ns_ImmediateByte, fScope (dAt 8), []⟩
theorem ok_ImmediateByte : okCs x_ImmediateByte ir_ImmediateByte (fBody (dAt 8)) = true := by kernel_rfl
noncomputable def x_ZeroPageAddr : Sx := ⟨tabs, attrsL, ns_ZeroPageAddr, fScope (dAt 9), []⟩
theorem ok_ZeroPageAddr : okCs x_ZeroPageAddr ir_ZeroPageAddr (fBody (dAt 9)) = true := by kernel_rfl
noncomputable def x_IndirectYAddr : Sx := ⟨tabs, attrsL, ns_IndirectYAddr, fScope (dAt 13), []⟩
theorem ok_IndirectYAddr : okCs x_IndirectYAddr ir_IndirectYAddr (fBody (dAt 13)) = true := by kernel_rfl
noncomputable def x_AbsoluteXAddr : Sx := ⟨tabs, attrsL, ns_AbsoluteXAddr, fScope (dAt 15), []⟩
theorem ok_AbsoluteXAddr : okCs x_AbsoluteXAddr ir_AbsoluteXAddr (fBody (dAt 15)) = true := by kernel_rfl
noncomputable def x_AbsoluteYAddr : Sx := ⟨tabs, attrsL, ns_AbsoluteYAddr, fScope (dAt 16), []⟩
theorem ok_AbsoluteYAddr : okCs x_AbsoluteYAddr ir_AbsoluteYAddr (fBody (dAt 16)) = true := by kernel_rfl
noncomputable def x_BranchRelAddr : Sx := ⟨tabs, attrsL, ns_BranchRelAddr, fScope (dAt 17), []⟩
theorem ok_BranchRelAddr : okCs x_BranchRelAddr ir_BranchRelAddr (fBody (dAt 17)) = true := by kernel_rfl
noncomputable def x_stPush : Sx := ⟨tabs, attrsL, ns_stPush, fScope (dAt 18), []⟩
theorem ok_stPush : okCs x_stPush ir_stPush (fBody (dAt 18)) = true := by kernel_rfl
noncomputable def x_stPop : Sx := ⟨tabs, attrsL, ns_stPop, fScope (dAt 19), []⟩
theorem ok_stPop : okCs x_stPop ir_stPop (fBody (dAt 19)) = true := by kernel_rfl
noncomputable def x_stPushWord : Sx := ⟨tabs, attrsL, ns_stPushWord, fScope (dAt 20), []⟩
theorem ok_stPushWord : okCs x_stPushWord ir_stPushWord (fBody (dAt 20)) = true := by kernel_rfl
noncomputable def x_stPopWord : Sx := ⟨tabs, attrsL, ns_stPopWord, fScope (dAt 21), []⟩
theorem ok_stPopWord : okCs x_stPopWord ir_stPopWord (fBody (dAt 21)) = true := by kernel_rfl
noncomputable def x_FlagsNZ : Sx := ⟨tabs, attrsL, ns_FlagsNZ, fScope (dAt 22), []⟩
theorem ok_FlagsNZ : okCs x_FlagsNZ ir_FlagsNZ (fBody (dAt 22)) = true := by kernel_rfl
noncomputable def x_opBCL : Sx := ⟨tabs, attrsL, ns_opBCL, fScope (dAt 26), []⟩
theorem ok_opBCL : okCs x_opBCL ir_opBCL (fBody (dAt 26)) = true := by kernel_rfl
noncomputable def x_opBST : Sx := ⟨tabs, attrsL, ns_opBST, fScope (dAt 27), []⟩
theorem ok_opBST : okCs x_opBST ir_opBST (fBody (dAt 27)) = true := by kernel_rfl
noncomputable def x_opCLR : Sx := ⟨tabs, attrsL, ns_opCLR, fScope (dAt 28), []⟩
theorem ok_opCLR : okCs x_opCLR ir_opCLR (fBody (dAt 28)) = true := by kernel_rfl
noncomputable def x_opADC : Sx := ⟨tabs, attrsL, ns_opADC, fScope (dAt 34), []⟩
theorem ok_opADC : okCs x_opADC ir_opADC (fBody (dAt 34)) = true := by kernel_rfl
noncomputable def x_opSTA : Sx := ⟨tabs, attrsL, ns_opSTA, fScope (dAt 36), []⟩
theorem ok_opSTA : okCs x_opSTA ir_opSTA (fBody (dAt 36)) = true := by kernel_rfl
noncomputable def x_opDECR : Sx := ⟨tabs, attrsL, ns_opDECR, fScope (dAt 41), []⟩
theorem ok_opDECR : okCs x_opDECR ir_opDECR (fBody (dAt 41)) = true := by kernel_rfl
noncomputable def x_opINCR : Sx := ⟨tabs, attrsL, ns_opINCR, fScope (dAt 42), []⟩
theorem ok_opINCR : okCs x_opINCR ir_opINCR (fBody (dAt 42)) = true := by kernel_rfl
noncomputable def x_opLDA : Sx := ⟨tabs, attrsL, ns_opLDA, fScope (dAt 43), []⟩
theorem ok_opLDA : okCs x_opLDA ir_opLDA (fBody (dAt 43)) = true := by kernel_rfl
noncomputable def x_opLDY : Sx := ⟨tabs, attrsL, ns_opLDY, fScope (dAt 44), []⟩
theorem ok_opLDY : okCs x_opLDY ir_opLDY (fBody (dAt 44)) = true := by kernel_rfl
noncomputable def x_opLDX : Sx := ⟨tabs, attrsL, ns_opLDX, fScope (dAt 45), []⟩
theorem ok_opLDX : okCs x_opLDX ir_opLDX (fBody (dAt 45)) = true := by kernel_rfl
noncomputable def x_inst_0x00 : Sx := ⟨tabs, attrsL, ns_inst_0x00, fScope (dAt 47), []⟩
theorem ok_inst_0x00 : okCs x_inst_0x00 ir_inst_0x00 (fBody (dAt 47)) = true := by kernel_rfl
noncomputable def x_inst_0x10 : Sx := ⟨tabs, attrsL, ns_inst_0x10, fScope (dAt 56), []⟩
theorem ok_inst_0x10 : okCs x_inst_0x10 ir_inst_0x10 (fBody (dAt 56)) = true := by kernel_rfl
noncomputable def x_inst_0x18 : Sx := ⟨tabs, attrsL, ns_inst_0x18, fScope (dAt 60), []⟩
theorem ok_inst_0x18 : okCs x_inst_0x18 ir_inst_0x18 (fBody (dAt 60)) = true := by kernel_rfl
noncomputable def x_inst_0x20 : Sx := ⟨tabs, attrsL, ns_inst_0x20, fScope (dAt 64), []⟩
theorem ok_inst_0x20 : okCs x_inst_0x20 ir_inst_0x20 (fBody (dAt 64)) = true := by kernel_rfl
noncomputable def x_inst_0x28 : Sx := ⟨tabs, attrsL, ns_inst_0x28, fScope (dAt 69), []⟩
theorem ok_inst_0x28 : okCs x_inst_0x28 ir_inst_0x28 (fBody (dAt 69)) = true := by kernel_rfl
noncomputable def x_inst_0x30 : Sx := ⟨tabs, attrsL, ns_inst_0x30, fScope (dAt 75), []⟩
theorem ok_inst_0x30 : okCs x_inst_0x30 ir_inst_0x30 (fBody (dAt 75)) = true := by kernel_rfl
noncomputable def x_inst_0x40 : Sx := ⟨tabs, attrsL, ns_inst_0x40, fScope (dAt 83), []⟩
theorem ok_inst_0x40 : okCs x_inst_0x40 ir_inst_0x40 (fBody (dAt 83)) = true := by kernel_rfl
noncomputable def x_inst_0x48 : Sx := ⟨tabs, attrsL, ns_inst_0x48, fScope (dAt 87), []⟩
theorem ok_inst_0x48 : okCs x_inst_0x48 ir_inst_0x48 (fBody (dAt 87)) = true := by kernel_rfl
noncomputable def x_inst_0x4c : Sx := ⟨tabs, attrsL, ns_inst_0x4c, fScope (dAt 90), []⟩
theorem ok_inst_0x4c : okCs x_inst_0x4c ir_inst_0x4c (fBody (dAt 90)) = true := by kernel_rfl
noncomputable def x_inst_0x50 : Sx := ⟨tabs, attrsL, ns_inst_0x50, fScope (dAt 93), []⟩
theorem ok_inst_0x50 : okCs x_inst_0x50 ir_inst_0x50 (fBody (dAt 93)) = true := by kernel_rfl
noncomputable def x_inst_0x60 : Sx := ⟨tabs, attrsL, ns_inst_0x60, fScope (dAt 101), []⟩
theorem ok_inst_0x60 : okCs x_inst_0x60 ir_inst_0x60 (fBody (dAt 101)) = true := by kernel_rfl
noncomputable def x_inst_0x69 : Sx := ⟨tabs, attrsL, ns_inst_0x69, fScope (dAt 106), []⟩
theorem ok_inst_0x69 : okCs x_inst_0x69 ir_inst_0x69 (fBody (dAt 106)) = true := by kernel_rfl
noncomputable def x_inst_0x6c : Sx := ⟨tabs, attrsL, ns_inst_0x6c, fScope (dAt 108), []⟩
theorem ok_inst_0x6c : okCs x_inst_0x6c ir_inst_0x6c (fBody (dAt 108)) = true := by kernel_rfl
noncomputable def x_inst_0x70 : Sx := ⟨tabs, attrsL, ns_inst_0x70, fScope (dAt 111), []⟩
theorem ok_inst_0x70 : okCs x_inst_0x70 ir_inst_0x70 (fBody (dAt 111)) = true := by kernel_rfl
noncomputable def x_inst_0x90 : Sx := ⟨tabs, attrsL, ns_inst_0x90, fScope (dAt 128), []⟩
theorem ok_inst_0x90 : okCs x_inst_0x90 ir_inst_0x90 (fBody (dAt 128)) = true := by kernel_rfl
noncomputable def x_inst_0x91 : Sx := ⟨tabs, attrsL, ns_inst_0x91, fScope (dAt 129), []⟩
theorem ok_inst_0x91 : okCs x_inst_0x91 ir_inst_0x91 (fBody (dAt 129)) = true := by kernel_rfl
noncomputable def x_inst_0x99 : Sx := ⟨tabs, attrsL, ns_inst_0x99, fScope (dAt 134), []⟩
theorem ok_inst_0x99 : okCs x_inst_0x99 ir_inst_0x99 (fBody (dAt 134)) = true := by kernel_rfl
noncomputable def x_inst_0x9a : Sx := ⟨tabs, attrsL, ns_inst_0x9a, fScope (dAt 135), []⟩
theorem ok_inst_0x9a : okCs x_inst_0x9a ir_inst_0x9a (fBody (dAt 135)) = true := by kernel_rfl
noncomputable def x_inst_0x9d : Sx := ⟨tabs, attrsL, ns_inst_0x9d, fScope (dAt 136), []⟩
theorem ok_inst_0x9d : okCs x_inst_0x9d ir_inst_0x9d (fBody (dAt 136)) = true := by kernel_rfl
noncomputable def x_inst_0xa2 : Sx := ⟨tabs, attrsL, ns_inst_0xa2, fScope (dAt 139), []⟩
theorem ok_inst_0xa2 : okCs x_inst_0xa2 ir_inst_0xa2 (fBody (dAt 139)) = true := by kernel_rfl
noncomputable def x_inst_0xa4 : Sx := ⟨tabs, attrsL, ns_inst_0xa4, fScope (dAt 140), []⟩
theorem ok_inst_0xa4 : okCs x_inst_0xa4 ir_inst_0xa4 (fBody (dAt 140)) = true := by kernel_rfl
noncomputable def x_inst_0xa6 : Sx := ⟨tabs, attrsL, ns_inst_0xa6, fScope (dAt 142), []⟩
theorem ok_inst_0xa6 : okCs x_inst_0xa6 ir_inst_0xa6 (fBody (dAt 142)) = true := by kernel_rfl
noncomputable def x_inst_0xa9 : Sx := ⟨tabs, attrsL, ns_inst_0xa9, fScope (dAt 144), []⟩
theorem ok_inst_0xa9 : okCs x_inst_0xa9 ir_inst_0xa9 (fBody (dAt 144)) = true := by kernel_rfl
noncomputable def x_inst_0xb0 : Sx := ⟨tabs, attrsL, ns_inst_0xb0, fScope (dAt 149), []⟩
theorem ok_inst_0xb0 : okCs x_inst_0xb0 ir_inst_0xb0 (fBody (dAt 149)) = true := by kernel_rfl
noncomputable def x_inst_0xc6 : Sx := ⟨tabs, attrsL, ns_inst_0xc6, fScope (dAt 164), []⟩
theorem ok_inst_0xc6 : okCs x_inst_0xc6 ir_inst_0xc6 (fBody (dAt 164)) = true := by kernel_rfl
noncomputable def x_inst_0xd0 : Sx := ⟨tabs, attrsL, ns_inst_0xd0, fScope (dAt 171), []⟩
theorem ok_inst_0xd0 : okCs x_inst_0xd0 ir_inst_0xd0 (fBody (dAt 171)) = true := by kernel_rfl
noncomputable def x_inst_0xd8 : Sx := ⟨tabs, attrsL, ns_inst_0xd8, fScope (dAt 175), []⟩
theorem ok_inst_0xd8 : okCs x_inst_0xd8 ir_inst_0xd8 (fBody (dAt 175)) = true := by kernel_rfl
noncomputable def x_inst_0xe6 : Sx := ⟨tabs, attrsL, ns_inst_0xe6, fScope (dAt 183), []⟩
theorem ok_inst_0xe6 : okCs x_inst_0xe6 ir_inst_0xe6 (fBody (dAt 183)) = true := by kernel_rfl
noncomputable def x_inst_0xf0 : Sx := ⟨tabs, attrsL, ns_inst_0xf0, fScope (dAt 190), []⟩
theorem ok_inst_0xf0 : okCs x_inst_0xf0 ir_inst_0xf0 (fBody (dAt 190)) = true := by kernel_rfl
noncomputable def x_WrapAt : Sx := ⟨tabs, attrsL, ns_WrapAt, fScope (dAt 6), []⟩
noncomputable def x_init : Sx := ⟨tabs, attrsL, ns_init, fScope (ini), []⟩
theorem ok_init : okCs x_init ir_init (fBody (ini)) = true := by kernel_rfl
noncomputable def x_law_word : Sx := ⟨tabs, attrsL, ns_law_word, fScope (stM 4), []⟩
theorem ok_law_word : okCs x_law_word ir_law_word (fBody (stM 4)) = true := by kernel_rfl
noncomputable def x_law_plan : Sx := ⟨tabs, attrsL, ns_law_plan, fScope (stM 5), []⟩
theorem ok_law_plan : okCs x_law_plan ir_law_plan (fBody (stM 5)) = true := by kernel_rfl
noncomputable def x_law_pointer : Sx := ⟨tabs, attrsL, ns_law_pointer, fScope (stM 6), []⟩
theorem ok_law_pointer : okCs x_law_pointer ir_law_pointer (fBody (stM 6)) = true := by kernel_rfl
noncomputable def x_law_block : Sx := ⟨tabs, attrsL, ns_law_block, fScope (stM 7), []⟩
theorem ok_law_block : okCs x_law_block ir_law_block (fBody (stM 7)) = true := by kernel_rfl
noncomputable def x_law_signed : Sx := ⟨tabs, attrsL, ns_law_signed, fScope (stM 8), []⟩
theorem ok_law_signed : okCs x_law_signed ir_law_signed (fBody (stM 8)) = true := by kernel_rfl
noncomputable def x_law_taken : Sx := ⟨tabs, attrsL, ns_law_taken, fScope (stM 9), []⟩
theorem ok_law_taken : okCs x_law_taken ir_law_taken (fBody (stM 9)) = true := by kernel_rfl
noncomputable def x_law_lay : Sx := ⟨tabs, attrsL, ns_law_lay, fScope (stM 10), []⟩
theorem ok_law_lay : okCs x_law_lay ir_law_lay (fBody (stM 10)) = true := by kernel_rfl
noncomputable def x_law : Sx := ⟨tabs, attrsL, ns_law, fScope (stM 11), ["total"]⟩
theorem ok_law : okCs x_law ir_law (fBody (stM 11)) = true := by kernel_rfl
noncomputable def x_lam : Sx := ⟨tabs, attrsL, ["x", "self"], lamSc, []⟩
theorem ok_lamB : okT x_lam ir_lam lamB = true := by kernel_rfl
noncomputable def wrapR : Stmt := ((fBody (dAt 6)).drop 1).headD (.Pass default)
noncomputable def ir_wrapR : Cs := (.cons (.ret (.bin .Add (.mc 0 "ByteAt" 4 (.cons (.v 1) .nil)) (.bin .LShift (.mc 0 "ByteAt" 4 (.cons (.vc 2 (.cons (.v 1) .nil)) .nil)) (.cat 0 "BYTE_WIDTH" (.at (.int 8)))))) .nil)
theorem ok_wrapR : okCs x_WrapAt ir_wrapR [wrapR] = true := by kernel_rfl
end
end Mine.Mp
end
section
open PySem PySem.W PyProof.Rows
namespace Mine.Mp
open Mine.Dx
open Mine.Hd Mine.Py
open Mine.Go (fnO codeO fName fArgs fBody fScope fPos toksOf locs texts intsAt tupO ovs defOv memN codeN hs)
section
theorem lookup_mem {α : Type} : ∀ {l : List (Nat × α)} {a : Nat} {o : α}, l.lookup a = some o → (a, o) ∈ l
  | (b, x) :: l, a, o, h => by
    rw [List.lookup_cons] at h
    cases q : a == b with
    | true => rw [q] at h; cases h; obtain rfl := beq_iff_eq.mp q; exact .head _
    | false => rw [q] at h; exact .tail _ (lookup_mem h)
theorem at_get {k : Nat} (h : k < defs.length) : defs[k]? = some (dAt k) := by
  unfold dAt
  rw [List.getElem?_eq_getElem h, List.headD_eq_head?_getD, List.head?_drop, List.getElem?_eq_getElem h]; rfl
theorem defsLen : defs.length = 198 := by kernel_rfl
theorem mF_in {w : World} {s : Mine.Go.Sh} (F : HF w s) {k : Nat} (h : k < 198) : s.get (37 + 7 * k + 6) = some (mF k) ∧ s.get (37 + 7 * k + 5) = some (mC k) := by
  have := Mine.Go.ovs_at (file := fileS) (qual := "MPU.") (txt := 181) (pm := pmC) (bt := builtinsNs) (n := 37) (t := 248) (at_get (by rw [defsLen]; exact h))
  exact ⟨F.defs _ (this _ (.head _)), F.defs _ (this _ (.tail _ (.head _)))⟩
theorem K_split (w : World) : K w = ([(0, boot_o_0 w.params), (4, boot_o_4 w.params), (1428, clsO), (1427, nsCO w), (3, mainO w), (36, iniF), (35, iniC), (29, tupO [.none, .int 0 238]), (1423, insO), (1424, cycO), (1425, extO)] ++ lawK) ++ mIdx.flatMap fun k => [(37 + 7 * k + 6, mF k), (37 + 7 * k + 5, mC k)] := by kernel_rfl
theorem K_in {w : World} {h : Heap} (F : Facts w h) : (K w).In h := by
  obtain ⟨s, F, k⟩ := F
  refine fun a o e => k a o ?_
  have := lookup_mem e
  rw [K_split] at this
  rcases List.mem_append.mp this with this | this
  · rcases List.mem_append.mp this with this | this
    · exact (fun h => AllQ.mem (f := fun x : Nat × Obj => s.get x.1 = some x.2) h (a, o) this) ⟨F.boot 0 (by decide) (by decide), F.boot 4 (by decide) (by decide), F.cls, F.ns, F.main, F.iniF, F.iniC, F.iniD, F.ins, F.cyc, F.ext, trivial⟩
    · exact F.law _ this
  · obtain ⟨k, hk, hm⟩ := List.mem_flatMap.mp this
    have hlt : k < 198 := (by decide : ∀ k ∈ mIdx, k < 198) k hk
    exact (fun h => AllQ.mem (f := fun x : Nat × Obj => s.get x.1 = some x.2) h (a, o) hm) ⟨(mF_in F hlt).1, (mF_in F hlt).2, trivial⟩
section
variable (w : World)
theorem c_getat : findIn (K w) (.ref 1428) "__getattribute__" = some (some (.builtin "object.__getattribute__")) := by kernel_rfl
theorem c_getnone : findIn (K w) (.ref 1428) "__getattr__" = some none := by kernel_rfl
theorem c_setat : findIn (K w) (.ref 1428) "__setattr__" = some (some (.builtin "object.__setattr__")) := by kernel_rfl
theorem c_over : plainOver (K w) 1428 = true := by kernel_rfl
theorem c_hasd : hasDictIn (K w) 1428 = true := by kernel_rfl
noncomputable def asRef : Value → Option Addr
  | .ref a => some a
  | _ => none
noncomputable def asBlt : Value → Option (Bool × String)
  | .type t => some (true, t)
  | .builtin t => some (false, t)
  | _ => none
noncomputable def asInt : Value → Option Int
  | .int i _ => some i
  | _ => none
theorem asRef_eq {v : Value} {a : Addr} (h : asRef v = some a) : v = .ref a := by cases v with | ref => cases h; rfl | _ => exact no_some h
theorem asBlt_eq {v : Value} {x : Bool × String} (h : asBlt v = some x) : v = btV x := by cases v with | type => cases h; rfl | builtin => cases h; rfl | _ => exact no_some h
theorem asInt_eq {v : Value} {i : Int} (h : asInt v = some i) : ∃ t, v = .int i t := by cases v with | int => cases h; exact ⟨_, rfl⟩ | _ => exact no_some h
noncomputable def nn (o : Option (Option Value)) : Bool := o.any (·.isNone)
theorem nn_eq {o : Option (Option Value)} (h : nn o = true) : o = some none := elO h fun _ e q => e.trans (congrArg some (Option.isNone_iff_eq_none.mp q))
noncomputable def ns' (o : Option (Option Value)) (p : Value → Bool) : Bool := o.any fun x => x.any p
theorem ns_eq {o : Option (Option Value)} {p : Value → Bool} (h : ns' o p = true) : ∃ v, o = some (some v) ∧ p v = true := elO h fun _ e q => elO q fun v f r => ⟨v, e.trans (congrArg some f), r⟩
noncomputable def okAttr (w : World) (a : Str) : Bool := (findIn (K w) (.ref 1428) a).any (noGet (K w)) && nn (takerIn (K w) 1428 a)
theorem c_attr : attrsL.all (okAttr w) = true := by kernel_rfl
noncomputable def valOk (v : AV) (x : Value) : Bool := match v with
  | .at (.int i) => (asInt x).any fun j => decide (i = j)
  | .kl k => (asRef x).any fun a => Nat.blt k 3 && Nat.beq a (1423 + k)
  | _ => false
noncomputable def okCt (w : World) (x : Str × AV) : Bool := !attrsL.contains x.1 && !copiedNames.contains x.1 && ns' (findIn (K w) (.ref 1428) x.1) fun val => nn (specialIn (K w) val "__get__") && handedIn val && valOk x.2 val
theorem c_ct : tabs.ct.all (okCt w) = true := by kernel_rfl
noncomputable def okMt (w : World) (x : Str × Nat) : Bool := !attrsL.contains x.1 && !copiedNames.contains x.1 && isFn (K w) (.ref (fa x.2)) && ns' (findIn (K w) (.ref 1428) x.1) (fun v => (asRef v).any fun a => Nat.beq a (fa x.2)) &&
  ns' (specialIn (K w) (.ref (fa x.2)) "__get__") (fun v => (asBlt v).any fun b => b == (false, "function.__get__")) && (takesIn (K w) (.ref (fa x.2))).any (!·)
theorem c_mt : tabs.mt.all (okMt w) = true := by kernel_rfl
noncomputable def okGt (w : World) (x : Str × Nat) : Bool := ((mainL w).toArray.find? (fun e : DictEntry => e.key.isStr x.1)).any fun e => (asRef e.val).any fun a => Nat.beq a (fa x.2)
noncomputable def mainB (w : World) : Array DictEntry := match (boot_o_0 w.params).data with
  | .dict es _ => es
  | _ => #[]
noncomputable def okBt (w : World) (x : Str × Bool × String) : Bool := ((mainL w).toArray.find? (fun e : DictEntry => e.key.isStr x.1)).isNone && ((mainB w).find? (fun e : DictEntry => e.key.isStr x.1)).any fun e => (asBlt e.val).any fun y => y == x.2
theorem c_bt : tabs.bt.all (okBt w) = true := by kernel_rfl
theorem c_make : makesIn (K w) 1428 = true := by kernel_rfl
theorem c_ini : findIn (K w) (.ref 1428) "__init__" = some (some (.ref (fa 200))) := by kernel_rfl
theorem c_iniT : typeIn (K w) (.ref (fa 200)) = some (.type "function") := by kernel_rfl
theorem c_cls : keepIn (K w) (.ref 1428) = true := by kernel_rfl
theorem c_gt : tabs.gt.all (okGt w) = true := by kernel_rfl
end
end
section
variable (w : World) (l : Nat) (ns : List Int) (h₀ : Heap) (hw : ∃ o, h₀.get? 80 = some o) (gens : Array GenState) (os : OsState)
theorem nodupL {l : List Str} (h : (l.map codeN).Nodup) : ∀ (i j : Nat) x, l[i]? = some x → l[j]? = some x → i = j := by
  intro i j x h1 h2
  have h1' : (l.map codeN)[i]? = some (codeN x) := by rw [List.getElem?_map, h1]; rfl
  have h2' : (l.map codeN)[j]? = some (codeN x) := by rw [List.getElem?_map, h2]; rfl
  obtain ⟨a, e1⟩ := List.getElem?_eq_some_iff.mp h1'
  obtain ⟨b, e2⟩ := List.getElem?_eq_some_iff.mp h2'
  exact (List.getElem_inj h).mp (e1.trans e2.symm)
theorem attrs_nodup : (attrsL.map codeN).Nodup := by decide +kernel
theorem mainNs_at {h : Heap} (k : (K w).In h) : h.Ns mainGlobals (fun x => ((mainL w).toArray.find? (fun e : DictEntry => e.key.isStr x)).map (fun e : DictEntry => e.val)) := by
  have o3 : h.get? mainGlobals = some (mainO w) := k 3 _ (by kernel_rfl)
  have hn : h.isNs mainGlobals = true := by unfold Heap.isNs; rw [o3]; kernel_rfl
  have := Heap.Ns.of_isNs hn
  have e : h.nsMap mainGlobals = (fun x => ((mainL w).toArray.find? (fun e : DictEntry => e.key.isStr x)).map (fun e : DictEntry => e.val)) := by
    funext x
    unfold Heap.nsMap
    rw [o3]; rfl
  rwa [e] at this
theorem bltNs_at {h : Heap} (k : (K w).In h) : h.Ns builtinsNs (fun x => ((mainB w).find? (fun e : DictEntry => e.key.isStr x)).map (fun e : DictEntry => e.val)) := by
  have o0 : h.get? builtinsNs = some (boot_o_0 w.params) := k 0 _ (by kernel_rfl)
  have hn : h.isNs builtinsNs = true := by unfold Heap.isNs; rw [o0]; kernel_rfl
  have := Heap.Ns.of_isNs hn
  have e : h.nsMap builtinsNs = (fun x => ((mainB w).find? (fun e : DictEntry => e.key.isStr x)).map (fun e : DictEntry => e.val)) := by
    funext x
    unfold Heap.nsMap
    rw [o0]; rfl
  rwa [e] at this
omit w l ns h₀ hw gens os in
theorem not_in {a : Str} (h : (!attrsL.contains a) = true) : a ∉ attrsL := fun q => by rw [List.contains_iff_mem.mpr q] at h; cases h
theorem val_ok {v : AV} {x : Value} {h : Heap} {n : Nat} {θ : Nat → Nat} (q : valOk v x = true) : Val (cfg w l ns h₀ hw gens os) h n θ v x := by
  cases v with
  | «at» a =>
    cases a with
    | int i => exact elO q fun j e r => by obtain ⟨t, rfl⟩ := asInt_eq e; exact ⟨t, by rw [of_decide_eq_true r]⟩
    | _ => exact no_true q
  | kl k =>
    refine elO q fun a e r => ?_
    have hk : k < 3 := Nat.blt_eq.mp (l2 r)
    refine (asRef_eq e).trans (congrArg Value.ref ((Nat.eq_of_beq_eq_true (r2 r)).trans ?_))
    match k, hk with
    | 0, _ => rfl
    | 1, _ => rfl
    | 2, _ => rfl
  | _ => exact no_true q
theorem cfgOk : CfgOk (cfg w l ns h₀ hw gens os) tabs where
  getat := c_getat w
  getnone := c_getnone w
  setat := c_setat w
  over := c_over w
  hasd := c_hasd w
  attr := fun a ha => let h := List.all_eq_true.mp (c_attr w) a ha; ⟨any_eq (l2 h), nn_eq (r2 h)⟩
  anod := nodupL attrs_nodup
  alen := (by decide : attrsL.length ≤ 1000)
  ct := fun a r ha => by
    have h := List.all_eq_true.mp (c_ct w) _ ha
    obtain ⟨val, e, h2⟩ := ns_eq (r2 h)
    exact ⟨not_in (l2 (l2 h)), ff (r2 (l2 h)), val, e, nn_eq (l2 (l2 h2)), r2 (l2 h2), fun h n θ => val_ok w l ns h₀ hw gens os (r2 h2)⟩
  mt := fun a f ha => by
    have h := List.all_eq_true.mp (c_mt w) _ ha
    obtain ⟨v, e, h4⟩ := ns_eq (r2 (l2 (l2 h)))
    obtain ⟨u, e', h5⟩ := ns_eq (r2 (l2 h))
    refine ⟨not_in (l2 (l2 (l2 (l2 (l2 h))))), ?_, r2 (l2 (l2 (l2 h))), ?_, ?_, ff (r2 (l2 (l2 (l2 (l2 h)))))⟩
    · exact e.trans (congrArg (some ∘ some) (elO h4 fun a q r => (asRef_eq q).trans (congrArg Value.ref (Nat.eq_of_beq_eq_true r))))
    · exact e'.trans (congrArg (some ∘ some) (elO h5 fun a q r => (asBlt_eq q).trans (congrArg btV (eq_of_beq r))))
    · exact elO (r2 h) fun a q r => q.trans (congrArg some (ff r))
  main := by
    refine ⟨_, _, fun h k => ⟨mainNs_at w k, bltNs_at w k⟩, fun a f ha => ?_, fun a x ha => ?_⟩
    · refine elO (List.all_eq_true.mp (c_gt w) _ ha) fun e q r => ?_
      rw [q]
      exact congrArg some (elO r fun a q r => (asRef_eq q).trans (congrArg Value.ref (Nat.eq_of_beq_eq_true r)))
    · have h := List.all_eq_true.mp (c_bt w) _ ha
      refine ⟨congrArg (Option.map _) (Option.isNone_iff_eq_none.mp (l2 h)), elO (r2 h) fun e q r => ?_⟩
      rw [q]
      exact congrArg some (elO r fun y q r => (asBlt_eq q).trans (congrArg btV (eq_of_beq r)))
  cls := ⟨rfl, c_cls w⟩
noncomputable def fnOk (X : Sx) (pn : List Str) (m : Nat) : Bool :=
  X.sc.kind == .function && !X.sc.isGenerator && !X.sc.isCoroutine && X.ns.take pn.length == pn && X.ns.length == pn.length + m
   && X.ns.all (fun x => !(x == ("__debug__" : Str))) && decide ((X.ns.map codeN).Nodup) && !(X.sc.more.any fun (k, _) => k == ("interactive" : Str))
theorem fnIs {C : Cfg} {X : Sx} {f m : Nat} {pn : List Str} {body : List Stmt} {n : Nat} {name q : Str} {as : Arguments} {dfl pm : Value} (hk : C.K.lookup (C.fa f) = some (fnO n name q as X.sc body dfl pm builtinsNs)) (hc : codeIn C.K (.ref (n + 5)) q = true) (ok : fnOk X pn m = true) : FnIs C X f pn m body := by
  unfold fnOk at ok
  simp only [Bool.and_eq_true] at ok
  obtain ⟨⟨⟨⟨⟨⟨⟨h1, h3⟩, h4⟩, h5⟩, h6⟩, h7⟩, h8⟩, h9⟩ := ok
  refine ⟨⟨_, _, hk, rfl, hc, rfl, rfl, rfl, rfl, rfl⟩, eq_of_beq h1, ⟨by simpa using h3, by simpa using h4⟩, ⟨eq_of_beq h5, eq_of_beq h6⟩, nodupL (of_decide_eq_true h8), fun i x hx => ?_, by simpa using h9⟩
  have := List.all_eq_true.mp h7 x (List.mem_of_getElem? hx)
  simpa using this
theorem allLoc {X : Sx} (h : (X.sc.names.all (fun x => !(x.2 == .cell)) && X.ns.all (fun x => X.sc.names.lookup x == some .local) && X.cst.isEmpty) = true) : AllLoc X := by
  obtain ⟨h1, h2, h3⟩ := and3 h
  refine ⟨fun x hx => ?_, fun i x hx => ?_, List.isEmpty_iff.mp h3⟩
  · have := List.all_eq_true.mp h1 x hx
    intro e; rw [e] at this; cases this
  · exact eq_of_beq (List.all_eq_true.mp h2 x (List.mem_of_getElem? hx))
theorem oneCell {X : Sx} {y : Str} (h : (decide (X.sc.names.filter isCellK = [(y, .cell)]) && X.sc.names.lookup y == some .cell && X.ns.all (fun x => x == y || X.sc.names.lookup x == some .local)) = true) : OneCell X y := by
  obtain ⟨h1, h2, h3⟩ := and3 h
  refine ⟨of_decide_eq_true h1, eq_of_beq h2, fun i x hx => ?_⟩
  have := List.all_eq_true.mp h3 x (List.mem_of_getElem? hx)
  rcases Bool.or_eq_true_iff.mp this with q | q
  · exact .inl (eq_of_beq q)
  · exact .inr (eq_of_beq q)
noncomputable def wrapFd : FuncData := { name := "WrapAt", qualname := "MPU.WrapAt", params := fArgs (dAt 6), body := .stmts (fBody (dAt 6)), scope := fScope (dAt 6), globals := mainNs, closure := [], defaults := .none, kwdefaults := .none, pyModule := pmC, code := .ref (37 + 7 * 6 + 5), builtins := builtinsNs }
theorem lamE_is : lamE = .Lambda lamPs lamB lamSc lamP := by kernel_rfl
noncomputable def wrapS1 : Stmt := (fBody (dAt 6)).headD (.Pass default)
noncomputable def nameP : Stmt → Pos × Pos | .Assign [.Name _ p] _ q => (p, q) | _ => (default, default)
theorem wrapBody : fBody (dAt 6) = [.Assign [.Name "wrap" (nameP wrapS1).1] (.Lambda lamPs lamB lamSc lamP) (nameP wrapS1).2, wrapR] := by kernel_rfl
theorem lam_names : lamSc.names = [(("x" : Str), NameKind.local), (("self" : Str), NameKind.free)] := by kernel_rfl
theorem bltAt {h : Heap} (k : (K w).In h) : h.BuiltinsAt (mainMap w) 80 := ⟨4, boot_o_4 w.params, by kernel_rfl, by decide, by decide, by decide, k _ _ (show (K w).lookup 4 = some (boot_o_4 w.params) by kernel_rfl), by kernel_rfl, by kernel_rfl, by kernel_rfl⟩
theorem hdAt {h : Heap} (k : (K w).In h) : CodeHd h 84 80 := by
  refine ⟨mC 6, _, _, _, _, _, _, _, _, k _ _ (show (K w).lookup 84 = some (mC 6) by kernel_rfl), rfl, rfl, rfl, rfl, rfl, rfl, rfl, rfl, by decide⟩
theorem lamIs : LamIs (cfg w l ns h₀ hw gens os) "x" "self" lamPs lamB lamSc 84 where
  main := ⟨mainMap w, fun h k => ⟨mainNs_at w k, bltAt w k⟩, fun _ _ _ => rfl⟩
  hd := fun h k => hdAt w k
  gw := (by decide : mainGlobals ≠ 80)
  clos := fun env c hc => by
    unfold closureFor cellOf
    rw [lam_names]
    simp [hc]
  dflt := fun env => by kernel_rfl
  bind := fun pm c' cell ctv v => by kernel_rfl
  kind := by kernel_rfl
  gen := ⟨by kernel_rfl, by kernel_rfl⟩
  cell := fun z hz => by
    rw [lam_names] at hz
    simp only [List.mem_cons, List.not_mem_nil, or_false] at hz
    rcases hz with rfl | rfl <;> exact nofun
  lx := by rw [lam_names]; rfl
  ly := by rw [lam_names]; rfl
  xy := by decide
  dbg := ⟨rfl, rfl, rfl⟩
end
end Mine.Mp
end
section
open PySem PySem.W PyProof.Rows
namespace Mine.Mp
open Mine.Hd Mine.Py
open Mine.Go (fnO codeO fName fArgs fBody fScope fPos toksOf locs texts intsAt tupO ovs defOv memN codeN hs recO)
section
section
variable (w : World) (l : Nat) (ns : List Int) (h₀ : Heap) (hw : ∃ o, h₀.get? 80 = some o) (gens : Array GenState) (os : OsState)
theorem len1 {l : List Value} (h : l.length = 1) : ∃ a, l = [a] := List.length_eq_one_iff.mp h
theorem lenS {l : List Value} {n : Nat} (h : l.length = n + 1) : ∃ a r, l = a :: r ∧ r.length = n := by
  cases l with
  | nil => cases h
  | cons a r => exact ⟨a, r, rfl, Nat.succ.inj h⟩
theorem len2 {l : List Value} (h : l.length = 2) : ∃ a b, l = [a, b] := by
  obtain ⟨a, r, rfl, h'⟩ := lenS h
  obtain ⟨b, rfl⟩ := len1 h'
  exact ⟨a, b, rfl⟩
theorem len3 {l : List Value} (h : l.length = 3) : ∃ a b c, l = [a, b, c] := by
  obtain ⟨a, r, rfl, h'⟩ := lenS h
  obtain ⟨b, c, rfl⟩ := len2 h'
  exact ⟨a, b, c, rfl⟩
noncomputable def Binds (f : Nat) (pn : List Str) : Prop := ∀ fd o, (cfg w l ns h₀ hw gens os).K.lookup ((cfg w l ns h₀ hw gens os).fa f) = some o → o.data = .func fd → ∀ vals : List Value, vals.length = pn.length → bindArgs fd ⟨vals, []⟩ = pure (pn.zip vals)
theorem binds_of {f : Nat} {pn : List Str} {o : Obj} {fd : FuncData} (h1 : (K w).lookup (fa f) = some o) (h2 : o.data = .func fd) (h3 : ∀ vals : List Value, vals.length = pn.length → bindArgs fd ⟨vals, []⟩ = pure (pn.zip vals)) : Binds w l ns h₀ hw gens os f pn := by
  intro fd' o' e1 e2
  obtain rfl : o' = o := Option.some.inj (e1.symm.trans h1)
  obtain rfl : fd' = fd := by rw [e2] at h2; injection h2
  exact h3
theorem f_step : FnIs (cfg w l ns h₀ hw gens os) x_step 0 pn_step 1 (fBody (dAt 0)) := fnIs (show (K w).lookup (fa 0) = some (mF 0) by kernel_rfl) (by kernel_rfl) (by kernel_rfl)
theorem a_step : AllLoc x_step := allLoc (by kernel_rfl)
theorem b_step : Binds w l ns h₀ hw gens os 0 pn_step := binds_of w l ns h₀ hw gens os (show (K w).lookup (fa 0) = some (mF 0) by kernel_rfl) rfl fun vals h => by
  obtain ⟨v0, rfl⟩ := len1 (l := vals) h
  kernel_rfl
theorem f_reset : FnIs (cfg w l ns h₀ hw gens os) x_reset 1 pn_reset 0 (fBody (dAt 1)) := fnIs (show (K w).lookup (fa 1) = some (mF 1) by kernel_rfl) (by kernel_rfl) (by kernel_rfl)
theorem a_reset : AllLoc x_reset := allLoc (by kernel_rfl)
theorem b_reset : Binds w l ns h₀ hw gens os 1 pn_reset := binds_of w l ns h₀ hw gens os (show (K w).lookup (fa 1) = some (mF 1) by kernel_rfl) rfl fun vals h => by
  obtain ⟨v0, rfl⟩ := len1 (l := vals) h
  kernel_rfl
theorem f_ByteAt : FnIs (cfg w l ns h₀ hw gens os) x_ByteAt 4 pn_ByteAt 0 (fBody (dAt 4)) := fnIs (show (K w).lookup (fa 4) = some (mF 4) by kernel_rfl) (by kernel_rfl) (by kernel_rfl)
theorem a_ByteAt : AllLoc x_ByteAt := allLoc (by kernel_rfl)
theorem b_ByteAt : Binds w l ns h₀ hw gens os 4 pn_ByteAt := binds_of w l ns h₀ hw gens os (show (K w).lookup (fa 4) = some (mF 4) by kernel_rfl) rfl fun vals h => by
  obtain ⟨v0, v1, rfl⟩ := len2 (l := vals) h
  kernel_rfl
theorem f_WordAt : FnIs (cfg w l ns h₀ hw gens os) x_WordAt 5 pn_WordAt 0 (fBody (dAt 5)) := fnIs (show (K w).lookup (fa 5) = some (mF 5) by kernel_rfl) (by kernel_rfl) (by kernel_rfl)
theorem a_WordAt : AllLoc x_WordAt := allLoc (by kernel_rfl)
theorem b_WordAt : Binds w l ns h₀ hw gens os 5 pn_WordAt := binds_of w l ns h₀ hw gens os (show (K w).lookup (fa 5) = some (mF 5) by kernel_rfl) rfl fun vals h => by
  obtain ⟨v0, v1, rfl⟩ := len2 (l := vals) h
  kernel_rfl
theorem f_ProgramCounter : FnIs (cfg w l ns h₀ hw gens os) x_ProgramCounter 7 pn_ProgramCounter 0 (fBody (dAt 7)) := fnIs (show (K w).lookup (fa 7) = some (mF 7) by kernel_rfl) (by kernel_rfl) (by kernel_rfl)
theorem a_ProgramCounter : AllLoc x_ProgramCounter := allLoc (by kernel_rfl)
theorem b_ProgramCounter : Binds w l ns h₀ hw gens os 7 pn_ProgramCounter := binds_of w l ns h₀ hw gens os (show (K w).lookup (fa 7) = some (mF 7) by kernel_rfl) rfl fun vals h => by
  obtain ⟨v0, rfl⟩ := len1 (l := vals) h
  kernel_rfl
theorem f_ImmediateByte : FnIs (cfg w l ns h₀ hw gens os) x_ImmediateByte 8 pn_ImmediateByte 0 (fBody (dAt 8)) := fnIs (show (K w).lookup (fa 8) = some (mF 8) by kernel_rfl) (by kernel_rfl) (by kernel_rfl)
theorem a_ImmediateByte : AllLoc x_ImmediateByte := allLoc (by kernel_rfl)
theorem b_ImmediateByte : Binds w l ns h₀ hw gens os 8 pn_ImmediateByte := binds_of w l ns h₀ hw gens os (show (K w).lookup (fa 8) = some (mF 8) by kernel_rfl) rfl fun vals h => by
  obtain ⟨v0, rfl⟩ := len1 (l := vals) h
  kernel_rfl
theorem f_ZeroPageAddr : FnIs (cfg w l ns h₀ hw gens os) x_ZeroPageAddr 9 pn_ZeroPageAddr 0 (fBody (dAt 9)) := fnIs (show (K w).lookup (fa 9) = some (mF 9) by kernel_rfl) (by kernel_rfl) (by kernel_rfl)
theorem a_ZeroPageAddr : AllLoc x_ZeroPageAddr := allLoc (by kernel_rfl)
theorem b_ZeroPageAddr : Binds w l ns h₀ hw gens os 9 pn_ZeroPageAddr := binds_of w l ns h₀ hw gens os (show (K w).lookup (fa 9) = some (mF 9) by kernel_rfl) rfl fun vals h => by
  obtain ⟨v0, rfl⟩ := len1 (l := vals) h
  kernel_rfl
theorem f_IndirectYAddr : FnIs (cfg w l ns h₀ hw gens os) x_IndirectYAddr 13 pn_IndirectYAddr 2 (fBody (dAt 13)) := fnIs (show (K w).lookup (fa 13) = some (mF 13) by kernel_rfl) (by kernel_rfl) (by kernel_rfl)
theorem a_IndirectYAddr : AllLoc x_IndirectYAddr := allLoc (by kernel_rfl)
theorem b_IndirectYAddr : Binds w l ns h₀ hw gens os 13 pn_IndirectYAddr := binds_of w l ns h₀ hw gens os (show (K w).lookup (fa 13) = some (mF 13) by kernel_rfl) rfl fun vals h => by
  obtain ⟨v0, rfl⟩ := len1 (l := vals) h
  kernel_rfl
theorem f_AbsoluteXAddr : FnIs (cfg w l ns h₀ hw gens os) x_AbsoluteXAddr 15 pn_AbsoluteXAddr 2 (fBody (dAt 15)) := fnIs (show (K w).lookup (fa 15) = some (mF 15) by kernel_rfl) (by kernel_rfl) (by kernel_rfl)
theorem a_AbsoluteXAddr : AllLoc x_AbsoluteXAddr := allLoc (by kernel_rfl)
theorem b_AbsoluteXAddr : Binds w l ns h₀ hw gens os 15 pn_AbsoluteXAddr := binds_of w l ns h₀ hw gens os (show (K w).lookup (fa 15) = some (mF 15) by kernel_rfl) rfl fun vals h => by
  obtain ⟨v0, rfl⟩ := len1 (l := vals) h
  kernel_rfl
theorem f_AbsoluteYAddr : FnIs (cfg w l ns h₀ hw gens os) x_AbsoluteYAddr 16 pn_AbsoluteYAddr 2 (fBody (dAt 16)) := fnIs (show (K w).lookup (fa 16) = some (mF 16) by kernel_rfl) (by kernel_rfl) (by kernel_rfl)
theorem a_AbsoluteYAddr : AllLoc x_AbsoluteYAddr := allLoc (by kernel_rfl)
theorem b_AbsoluteYAddr : Binds w l ns h₀ hw gens os 16 pn_AbsoluteYAddr := binds_of w l ns h₀ hw gens os (show (K w).lookup (fa 16) = some (mF 16) by kernel_rfl) rfl fun vals h => by
  obtain ⟨v0, rfl⟩ := len1 (l := vals) h
  kernel_rfl
theorem f_BranchRelAddr : FnIs (cfg w l ns h₀ hw gens os) x_BranchRelAddr 17 pn_BranchRelAddr 1 (fBody (dAt 17)) := fnIs (show (K w).lookup (fa 17) = some (mF 17) by kernel_rfl) (by kernel_rfl) (by kernel_rfl)
theorem a_BranchRelAddr : AllLoc x_BranchRelAddr := allLoc (by kernel_rfl)
theorem b_BranchRelAddr : Binds w l ns h₀ hw gens os 17 pn_BranchRelAddr := binds_of w l ns h₀ hw gens os (show (K w).lookup (fa 17) = some (mF 17) by kernel_rfl) rfl fun vals h => by
  obtain ⟨v0, rfl⟩ := len1 (l := vals) h
  kernel_rfl
theorem f_stPush : FnIs (cfg w l ns h₀ hw gens os) x_stPush 18 pn_stPush 0 (fBody (dAt 18)) := fnIs (show (K w).lookup (fa 18) = some (mF 18) by kernel_rfl) (by kernel_rfl) (by kernel_rfl)
theorem a_stPush : AllLoc x_stPush := allLoc (by kernel_rfl)
theorem b_stPush : Binds w l ns h₀ hw gens os 18 pn_stPush := binds_of w l ns h₀ hw gens os (show (K w).lookup (fa 18) = some (mF 18) by kernel_rfl) rfl fun vals h => by
  obtain ⟨v0, v1, rfl⟩ := len2 (l := vals) h
  kernel_rfl
theorem f_stPop : FnIs (cfg w l ns h₀ hw gens os) x_stPop 19 pn_stPop 0 (fBody (dAt 19)) := fnIs (show (K w).lookup (fa 19) = some (mF 19) by kernel_rfl) (by kernel_rfl) (by kernel_rfl)
theorem a_stPop : AllLoc x_stPop := allLoc (by kernel_rfl)
theorem b_stPop : Binds w l ns h₀ hw gens os 19 pn_stPop := binds_of w l ns h₀ hw gens os (show (K w).lookup (fa 19) = some (mF 19) by kernel_rfl) rfl fun vals h => by
  obtain ⟨v0, rfl⟩ := len1 (l := vals) h
  kernel_rfl
theorem f_stPushWord : FnIs (cfg w l ns h₀ hw gens os) x_stPushWord 20 pn_stPushWord 0 (fBody (dAt 20)) := fnIs (show (K w).lookup (fa 20) = some (mF 20) by kernel_rfl) (by kernel_rfl) (by kernel_rfl)
theorem a_stPushWord : AllLoc x_stPushWord := allLoc (by kernel_rfl)
theorem b_stPushWord : Binds w l ns h₀ hw gens os 20 pn_stPushWord := binds_of w l ns h₀ hw gens os (show (K w).lookup (fa 20) = some (mF 20) by kernel_rfl) rfl fun vals h => by
  obtain ⟨v0, v1, rfl⟩ := len2 (l := vals) h
  kernel_rfl
theorem f_stPopWord : FnIs (cfg w l ns h₀ hw gens os) x_stPopWord 21 pn_stPopWord 1 (fBody (dAt 21)) := fnIs (show (K w).lookup (fa 21) = some (mF 21) by kernel_rfl) (by kernel_rfl) (by kernel_rfl)
theorem a_stPopWord : AllLoc x_stPopWord := allLoc (by kernel_rfl)
theorem b_stPopWord : Binds w l ns h₀ hw gens os 21 pn_stPopWord := binds_of w l ns h₀ hw gens os (show (K w).lookup (fa 21) = some (mF 21) by kernel_rfl) rfl fun vals h => by
  obtain ⟨v0, rfl⟩ := len1 (l := vals) h
  kernel_rfl
theorem f_FlagsNZ : FnIs (cfg w l ns h₀ hw gens os) x_FlagsNZ 22 pn_FlagsNZ 0 (fBody (dAt 22)) := fnIs (show (K w).lookup (fa 22) = some (mF 22) by kernel_rfl) (by kernel_rfl) (by kernel_rfl)
theorem a_FlagsNZ : AllLoc x_FlagsNZ := allLoc (by kernel_rfl)
theorem b_FlagsNZ : Binds w l ns h₀ hw gens os 22 pn_FlagsNZ := binds_of w l ns h₀ hw gens os (show (K w).lookup (fa 22) = some (mF 22) by kernel_rfl) rfl fun vals h => by
  obtain ⟨v0, v1, rfl⟩ := len2 (l := vals) h
  kernel_rfl
theorem f_opBCL : FnIs (cfg w l ns h₀ hw gens os) x_opBCL 26 pn_opBCL 0 (fBody (dAt 26)) := fnIs (show (K w).lookup (fa 26) = some (mF 26) by kernel_rfl) (by kernel_rfl) (by kernel_rfl)
theorem a_opBCL : AllLoc x_opBCL := allLoc (by kernel_rfl)
theorem b_opBCL : Binds w l ns h₀ hw gens os 26 pn_opBCL := binds_of w l ns h₀ hw gens os (show (K w).lookup (fa 26) = some (mF 26) by kernel_rfl) rfl fun vals h => by
  obtain ⟨v0, v1, rfl⟩ := len2 (l := vals) h
  kernel_rfl
theorem f_opBST : FnIs (cfg w l ns h₀ hw gens os) x_opBST 27 pn_opBST 0 (fBody (dAt 27)) := fnIs (show (K w).lookup (fa 27) = some (mF 27) by kernel_rfl) (by kernel_rfl) (by kernel_rfl)
theorem a_opBST : AllLoc x_opBST := allLoc (by kernel_rfl)
theorem b_opBST : Binds w l ns h₀ hw gens os 27 pn_opBST := binds_of w l ns h₀ hw gens os (show (K w).lookup (fa 27) = some (mF 27) by kernel_rfl) rfl fun vals h => by
  obtain ⟨v0, v1, rfl⟩ := len2 (l := vals) h
  kernel_rfl
theorem f_opCLR : FnIs (cfg w l ns h₀ hw gens os) x_opCLR 28 pn_opCLR 0 (fBody (dAt 28)) := fnIs (show (K w).lookup (fa 28) = some (mF 28) by kernel_rfl) (by kernel_rfl) (by kernel_rfl)
theorem a_opCLR : AllLoc x_opCLR := allLoc (by kernel_rfl)
theorem b_opCLR : Binds w l ns h₀ hw gens os 28 pn_opCLR := binds_of w l ns h₀ hw gens os (show (K w).lookup (fa 28) = some (mF 28) by kernel_rfl) rfl fun vals h => by
  obtain ⟨v0, v1, rfl⟩ := len2 (l := vals) h
  kernel_rfl
theorem f_opADC : FnIs (cfg w l ns h₀ hw gens os) x_opADC 34 pn_opADC 10 (fBody (dAt 34)) := fnIs (show (K w).lookup (fa 34) = some (mF 34) by kernel_rfl) (by kernel_rfl) (by kernel_rfl)
theorem a_opADC : AllLoc x_opADC := allLoc (by kernel_rfl)
theorem b_opADC : Binds w l ns h₀ hw gens os 34 pn_opADC := binds_of w l ns h₀ hw gens os (show (K w).lookup (fa 34) = some (mF 34) by kernel_rfl) rfl fun vals h => by
  obtain ⟨v0, v1, rfl⟩ := len2 (l := vals) h
  kernel_rfl
theorem f_opSTA : FnIs (cfg w l ns h₀ hw gens os) x_opSTA 36 pn_opSTA 0 (fBody (dAt 36)) := fnIs (show (K w).lookup (fa 36) = some (mF 36) by kernel_rfl) (by kernel_rfl) (by kernel_rfl)
theorem a_opSTA : AllLoc x_opSTA := allLoc (by kernel_rfl)
theorem b_opSTA : Binds w l ns h₀ hw gens os 36 pn_opSTA := binds_of w l ns h₀ hw gens os (show (K w).lookup (fa 36) = some (mF 36) by kernel_rfl) rfl fun vals h => by
  obtain ⟨v0, v1, rfl⟩ := len2 (l := vals) h
  kernel_rfl
theorem f_opDECR : FnIs (cfg w l ns h₀ hw gens os) x_opDECR 41 pn_opDECR 2 (fBody (dAt 41)) := fnIs (show (K w).lookup (fa 41) = some (mF 41) by kernel_rfl) (by kernel_rfl) (by kernel_rfl)
theorem a_opDECR : AllLoc x_opDECR := allLoc (by kernel_rfl)
theorem b_opDECR : Binds w l ns h₀ hw gens os 41 pn_opDECR := binds_of w l ns h₀ hw gens os (show (K w).lookup (fa 41) = some (mF 41) by kernel_rfl) rfl fun vals h => by
  obtain ⟨v0, v1, rfl⟩ := len2 (l := vals) h
  kernel_rfl
theorem f_opINCR : FnIs (cfg w l ns h₀ hw gens os) x_opINCR 42 pn_opINCR 2 (fBody (dAt 42)) := fnIs (show (K w).lookup (fa 42) = some (mF 42) by kernel_rfl) (by kernel_rfl) (by kernel_rfl)
theorem a_opINCR : AllLoc x_opINCR := allLoc (by kernel_rfl)
theorem b_opINCR : Binds w l ns h₀ hw gens os 42 pn_opINCR := binds_of w l ns h₀ hw gens os (show (K w).lookup (fa 42) = some (mF 42) by kernel_rfl) rfl fun vals h => by
  obtain ⟨v0, v1, rfl⟩ := len2 (l := vals) h
  kernel_rfl
theorem f_opLDA : FnIs (cfg w l ns h₀ hw gens os) x_opLDA 43 pn_opLDA 0 (fBody (dAt 43)) := fnIs (show (K w).lookup (fa 43) = some (mF 43) by kernel_rfl) (by kernel_rfl) (by kernel_rfl)
theorem a_opLDA : AllLoc x_opLDA := allLoc (by kernel_rfl)
theorem b_opLDA : Binds w l ns h₀ hw gens os 43 pn_opLDA := binds_of w l ns h₀ hw gens os (show (K w).lookup (fa 43) = some (mF 43) by kernel_rfl) rfl fun vals h => by
  obtain ⟨v0, v1, rfl⟩ := len2 (l := vals) h
  kernel_rfl
theorem f_opLDY : FnIs (cfg w l ns h₀ hw gens os) x_opLDY 44 pn_opLDY 0 (fBody (dAt 44)) := fnIs (show (K w).lookup (fa 44) = some (mF 44) by kernel_rfl) (by kernel_rfl) (by kernel_rfl)
theorem a_opLDY : AllLoc x_opLDY := allLoc (by kernel_rfl)
theorem b_opLDY : Binds w l ns h₀ hw gens os 44 pn_opLDY := binds_of w l ns h₀ hw gens os (show (K w).lookup (fa 44) = some (mF 44) by kernel_rfl) rfl fun vals h => by
  obtain ⟨v0, v1, rfl⟩ := len2 (l := vals) h
  kernel_rfl
theorem f_opLDX : FnIs (cfg w l ns h₀ hw gens os) x_opLDX 45 pn_opLDX 0 (fBody (dAt 45)) := fnIs (show (K w).lookup (fa 45) = some (mF 45) by kernel_rfl) (by kernel_rfl) (by kernel_rfl)
theorem a_opLDX : AllLoc x_opLDX := allLoc (by kernel_rfl)
theorem b_opLDX : Binds w l ns h₀ hw gens os 45 pn_opLDX := binds_of w l ns h₀ hw gens os (show (K w).lookup (fa 45) = some (mF 45) by kernel_rfl) rfl fun vals h => by
  obtain ⟨v0, v1, rfl⟩ := len2 (l := vals) h
  kernel_rfl
theorem f_inst_0x00 : FnIs (cfg w l ns h₀ hw gens os) x_inst_0x00 47 pn_inst_0x00 1 (fBody (dAt 47)) := fnIs (show (K w).lookup (fa 47) = some (mF 47) by kernel_rfl) (by kernel_rfl) (by kernel_rfl)
theorem a_inst_0x00 : AllLoc x_inst_0x00 := allLoc (by kernel_rfl)
theorem b_inst_0x00 : Binds w l ns h₀ hw gens os 47 pn_inst_0x00 := binds_of w l ns h₀ hw gens os (show (K w).lookup (fa 47) = some (mF 47) by kernel_rfl) rfl fun vals h => by
  obtain ⟨v0, rfl⟩ := len1 (l := vals) h
  kernel_rfl
theorem f_inst_0x10 : FnIs (cfg w l ns h₀ hw gens os) x_inst_0x10 56 pn_inst_0x10 0 (fBody (dAt 56)) := fnIs (show (K w).lookup (fa 56) = some (mF 56) by kernel_rfl) (by kernel_rfl) (by kernel_rfl)
theorem a_inst_0x10 : AllLoc x_inst_0x10 := allLoc (by kernel_rfl)
theorem b_inst_0x10 : Binds w l ns h₀ hw gens os 56 pn_inst_0x10 := binds_of w l ns h₀ hw gens os (show (K w).lookup (fa 56) = some (mF 56) by kernel_rfl) rfl fun vals h => by
  obtain ⟨v0, rfl⟩ := len1 (l := vals) h
  kernel_rfl
theorem f_inst_0x18 : FnIs (cfg w l ns h₀ hw gens os) x_inst_0x18 60 pn_inst_0x18 0 (fBody (dAt 60)) := fnIs (show (K w).lookup (fa 60) = some (mF 60) by kernel_rfl) (by kernel_rfl) (by kernel_rfl)
theorem a_inst_0x18 : AllLoc x_inst_0x18 := allLoc (by kernel_rfl)
theorem b_inst_0x18 : Binds w l ns h₀ hw gens os 60 pn_inst_0x18 := binds_of w l ns h₀ hw gens os (show (K w).lookup (fa 60) = some (mF 60) by kernel_rfl) rfl fun vals h => by
  obtain ⟨v0, rfl⟩ := len1 (l := vals) h
  kernel_rfl
theorem f_inst_0x20 : FnIs (cfg w l ns h₀ hw gens os) x_inst_0x20 64 pn_inst_0x20 0 (fBody (dAt 64)) := fnIs (show (K w).lookup (fa 64) = some (mF 64) by kernel_rfl) (by kernel_rfl) (by kernel_rfl)
theorem a_inst_0x20 : AllLoc x_inst_0x20 := allLoc (by kernel_rfl)
theorem b_inst_0x20 : Binds w l ns h₀ hw gens os 64 pn_inst_0x20 := binds_of w l ns h₀ hw gens os (show (K w).lookup (fa 64) = some (mF 64) by kernel_rfl) rfl fun vals h => by
  obtain ⟨v0, rfl⟩ := len1 (l := vals) h
  kernel_rfl
theorem f_inst_0x28 : FnIs (cfg w l ns h₀ hw gens os) x_inst_0x28 69 pn_inst_0x28 0 (fBody (dAt 69)) := fnIs (show (K w).lookup (fa 69) = some (mF 69) by kernel_rfl) (by kernel_rfl) (by kernel_rfl)
theorem a_inst_0x28 : AllLoc x_inst_0x28 := allLoc (by kernel_rfl)
theorem b_inst_0x28 : Binds w l ns h₀ hw gens os 69 pn_inst_0x28 := binds_of w l ns h₀ hw gens os (show (K w).lookup (fa 69) = some (mF 69) by kernel_rfl) rfl fun vals h => by
  obtain ⟨v0, rfl⟩ := len1 (l := vals) h
  kernel_rfl
theorem f_inst_0x30 : FnIs (cfg w l ns h₀ hw gens os) x_inst_0x30 75 pn_inst_0x30 0 (fBody (dAt 75)) := fnIs (show (K w).lookup (fa 75) = some (mF 75) by kernel_rfl) (by kernel_rfl) (by kernel_rfl)
theorem a_inst_0x30 : AllLoc x_inst_0x30 := allLoc (by kernel_rfl)
theorem b_inst_0x30 : Binds w l ns h₀ hw gens os 75 pn_inst_0x30 := binds_of w l ns h₀ hw gens os (show (K w).lookup (fa 75) = some (mF 75) by kernel_rfl) rfl fun vals h => by
  obtain ⟨v0, rfl⟩ := len1 (l := vals) h
  kernel_rfl
theorem f_inst_0x40 : FnIs (cfg w l ns h₀ hw gens os) x_inst_0x40 83 pn_inst_0x40 0 (fBody (dAt 83)) := fnIs (show (K w).lookup (fa 83) = some (mF 83) by kernel_rfl) (by kernel_rfl) (by kernel_rfl)
theorem a_inst_0x40 : AllLoc x_inst_0x40 := allLoc (by kernel_rfl)
theorem b_inst_0x40 : Binds w l ns h₀ hw gens os 83 pn_inst_0x40 := binds_of w l ns h₀ hw gens os (show (K w).lookup (fa 83) = some (mF 83) by kernel_rfl) rfl fun vals h => by
  obtain ⟨v0, rfl⟩ := len1 (l := vals) h
  kernel_rfl
theorem f_inst_0x48 : FnIs (cfg w l ns h₀ hw gens os) x_inst_0x48 87 pn_inst_0x48 0 (fBody (dAt 87)) := fnIs (show (K w).lookup (fa 87) = some (mF 87) by kernel_rfl) (by kernel_rfl) (by kernel_rfl)
theorem a_inst_0x48 : AllLoc x_inst_0x48 := allLoc (by kernel_rfl)
theorem b_inst_0x48 : Binds w l ns h₀ hw gens os 87 pn_inst_0x48 := binds_of w l ns h₀ hw gens os (show (K w).lookup (fa 87) = some (mF 87) by kernel_rfl) rfl fun vals h => by
  obtain ⟨v0, rfl⟩ := len1 (l := vals) h
  kernel_rfl
theorem f_inst_0x4c : FnIs (cfg w l ns h₀ hw gens os) x_inst_0x4c 90 pn_inst_0x4c 0 (fBody (dAt 90)) := fnIs (show (K w).lookup (fa 90) = some (mF 90) by kernel_rfl) (by kernel_rfl) (by kernel_rfl)
theorem a_inst_0x4c : AllLoc x_inst_0x4c := allLoc (by kernel_rfl)
theorem b_inst_0x4c : Binds w l ns h₀ hw gens os 90 pn_inst_0x4c := binds_of w l ns h₀ hw gens os (show (K w).lookup (fa 90) = some (mF 90) by kernel_rfl) rfl fun vals h => by
  obtain ⟨v0, rfl⟩ := len1 (l := vals) h
  kernel_rfl
theorem f_inst_0x50 : FnIs (cfg w l ns h₀ hw gens os) x_inst_0x50 93 pn_inst_0x50 0 (fBody (dAt 93)) := fnIs (show (K w).lookup (fa 93) = some (mF 93) by kernel_rfl) (by kernel_rfl) (by kernel_rfl)
theorem a_inst_0x50 : AllLoc x_inst_0x50 := allLoc (by kernel_rfl)
theorem b_inst_0x50 : Binds w l ns h₀ hw gens os 93 pn_inst_0x50 := binds_of w l ns h₀ hw gens os (show (K w).lookup (fa 93) = some (mF 93) by kernel_rfl) rfl fun vals h => by
  obtain ⟨v0, rfl⟩ := len1 (l := vals) h
  kernel_rfl
theorem f_inst_0x60 : FnIs (cfg w l ns h₀ hw gens os) x_inst_0x60 101 pn_inst_0x60 0 (fBody (dAt 101)) := fnIs (show (K w).lookup (fa 101) = some (mF 101) by kernel_rfl) (by kernel_rfl) (by kernel_rfl)
theorem a_inst_0x60 : AllLoc x_inst_0x60 := allLoc (by kernel_rfl)
theorem b_inst_0x60 : Binds w l ns h₀ hw gens os 101 pn_inst_0x60 := binds_of w l ns h₀ hw gens os (show (K w).lookup (fa 101) = some (mF 101) by kernel_rfl) rfl fun vals h => by
  obtain ⟨v0, rfl⟩ := len1 (l := vals) h
  kernel_rfl
theorem f_inst_0x69 : FnIs (cfg w l ns h₀ hw gens os) x_inst_0x69 106 pn_inst_0x69 0 (fBody (dAt 106)) := fnIs (show (K w).lookup (fa 106) = some (mF 106) by kernel_rfl) (by kernel_rfl) (by kernel_rfl)
theorem a_inst_0x69 : AllLoc x_inst_0x69 := allLoc (by kernel_rfl)
theorem b_inst_0x69 : Binds w l ns h₀ hw gens os 106 pn_inst_0x69 := binds_of w l ns h₀ hw gens os (show (K w).lookup (fa 106) = some (mF 106) by kernel_rfl) rfl fun vals h => by
  obtain ⟨v0, rfl⟩ := len1 (l := vals) h
  kernel_rfl
theorem f_inst_0x6c : FnIs (cfg w l ns h₀ hw gens os) x_inst_0x6c 108 pn_inst_0x6c 1 (fBody (dAt 108)) := fnIs (show (K w).lookup (fa 108) = some (mF 108) by kernel_rfl) (by kernel_rfl) (by kernel_rfl)
theorem a_inst_0x6c : AllLoc x_inst_0x6c := allLoc (by kernel_rfl)
theorem b_inst_0x6c : Binds w l ns h₀ hw gens os 108 pn_inst_0x6c := binds_of w l ns h₀ hw gens os (show (K w).lookup (fa 108) = some (mF 108) by kernel_rfl) rfl fun vals h => by
  obtain ⟨v0, rfl⟩ := len1 (l := vals) h
  kernel_rfl
theorem f_inst_0x70 : FnIs (cfg w l ns h₀ hw gens os) x_inst_0x70 111 pn_inst_0x70 0 (fBody (dAt 111)) := fnIs (show (K w).lookup (fa 111) = some (mF 111) by kernel_rfl) (by kernel_rfl) (by kernel_rfl)
theorem a_inst_0x70 : AllLoc x_inst_0x70 := allLoc (by kernel_rfl)
theorem b_inst_0x70 : Binds w l ns h₀ hw gens os 111 pn_inst_0x70 := binds_of w l ns h₀ hw gens os (show (K w).lookup (fa 111) = some (mF 111) by kernel_rfl) rfl fun vals h => by
  obtain ⟨v0, rfl⟩ := len1 (l := vals) h
  kernel_rfl
theorem f_inst_0x90 : FnIs (cfg w l ns h₀ hw gens os) x_inst_0x90 128 pn_inst_0x90 0 (fBody (dAt 128)) := fnIs (show (K w).lookup (fa 128) = some (mF 128) by kernel_rfl) (by kernel_rfl) (by kernel_rfl)
theorem a_inst_0x90 : AllLoc x_inst_0x90 := allLoc (by kernel_rfl)
theorem b_inst_0x90 : Binds w l ns h₀ hw gens os 128 pn_inst_0x90 := binds_of w l ns h₀ hw gens os (show (K w).lookup (fa 128) = some (mF 128) by kernel_rfl) rfl fun vals h => by
  obtain ⟨v0, rfl⟩ := len1 (l := vals) h
  kernel_rfl
theorem f_inst_0x91 : FnIs (cfg w l ns h₀ hw gens os) x_inst_0x91 129 pn_inst_0x91 0 (fBody (dAt 129)) := fnIs (show (K w).lookup (fa 129) = some (mF 129) by kernel_rfl) (by kernel_rfl) (by kernel_rfl)
theorem a_inst_0x91 : AllLoc x_inst_0x91 := allLoc (by kernel_rfl)
theorem b_inst_0x91 : Binds w l ns h₀ hw gens os 129 pn_inst_0x91 := binds_of w l ns h₀ hw gens os (show (K w).lookup (fa 129) = some (mF 129) by kernel_rfl) rfl fun vals h => by
  obtain ⟨v0, rfl⟩ := len1 (l := vals) h
  kernel_rfl
theorem f_inst_0x99 : FnIs (cfg w l ns h₀ hw gens os) x_inst_0x99 134 pn_inst_0x99 0 (fBody (dAt 134)) := fnIs (show (K w).lookup (fa 134) = some (mF 134) by kernel_rfl) (by kernel_rfl) (by kernel_rfl)
theorem a_inst_0x99 : AllLoc x_inst_0x99 := allLoc (by kernel_rfl)
theorem b_inst_0x99 : Binds w l ns h₀ hw gens os 134 pn_inst_0x99 := binds_of w l ns h₀ hw gens os (show (K w).lookup (fa 134) = some (mF 134) by kernel_rfl) rfl fun vals h => by
  obtain ⟨v0, rfl⟩ := len1 (l := vals) h
  kernel_rfl
theorem f_inst_0x9a : FnIs (cfg w l ns h₀ hw gens os) x_inst_0x9a 135 pn_inst_0x9a 0 (fBody (dAt 135)) := fnIs (show (K w).lookup (fa 135) = some (mF 135) by kernel_rfl) (by kernel_rfl) (by kernel_rfl)
theorem a_inst_0x9a : AllLoc x_inst_0x9a := allLoc (by kernel_rfl)
theorem b_inst_0x9a : Binds w l ns h₀ hw gens os 135 pn_inst_0x9a := binds_of w l ns h₀ hw gens os (show (K w).lookup (fa 135) = some (mF 135) by kernel_rfl) rfl fun vals h => by
  obtain ⟨v0, rfl⟩ := len1 (l := vals) h
  kernel_rfl
theorem f_inst_0x9d : FnIs (cfg w l ns h₀ hw gens os) x_inst_0x9d 136 pn_inst_0x9d 0 (fBody (dAt 136)) := fnIs (show (K w).lookup (fa 136) = some (mF 136) by kernel_rfl) (by kernel_rfl) (by kernel_rfl)
theorem a_inst_0x9d : AllLoc x_inst_0x9d := allLoc (by kernel_rfl)
theorem b_inst_0x9d : Binds w l ns h₀ hw gens os 136 pn_inst_0x9d := binds_of w l ns h₀ hw gens os (show (K w).lookup (fa 136) = some (mF 136) by kernel_rfl) rfl fun vals h => by
  obtain ⟨v0, rfl⟩ := len1 (l := vals) h
  kernel_rfl
theorem f_inst_0xa2 : FnIs (cfg w l ns h₀ hw gens os) x_inst_0xa2 139 pn_inst_0xa2 0 (fBody (dAt 139)) := fnIs (show (K w).lookup (fa 139) = some (mF 139) by kernel_rfl) (by kernel_rfl) (by kernel_rfl)
theorem a_inst_0xa2 : AllLoc x_inst_0xa2 := allLoc (by kernel_rfl)
theorem b_inst_0xa2 : Binds w l ns h₀ hw gens os 139 pn_inst_0xa2 := binds_of w l ns h₀ hw gens os (show (K w).lookup (fa 139) = some (mF 139) by kernel_rfl) rfl fun vals h => by
  obtain ⟨v0, rfl⟩ := len1 (l := vals) h
  kernel_rfl
theorem f_inst_0xa4 : FnIs (cfg w l ns h₀ hw gens os) x_inst_0xa4 140 pn_inst_0xa4 0 (fBody (dAt 140)) := fnIs (show (K w).lookup (fa 140) = some (mF 140) by kernel_rfl) (by kernel_rfl) (by kernel_rfl)
theorem a_inst_0xa4 : AllLoc x_inst_0xa4 := allLoc (by kernel_rfl)
theorem b_inst_0xa4 : Binds w l ns h₀ hw gens os 140 pn_inst_0xa4 := binds_of w l ns h₀ hw gens os (show (K w).lookup (fa 140) = some (mF 140) by kernel_rfl) rfl fun vals h => by
  obtain ⟨v0, rfl⟩ := len1 (l := vals) h
  kernel_rfl
theorem f_inst_0xa6 : FnIs (cfg w l ns h₀ hw gens os) x_inst_0xa6 142 pn_inst_0xa6 0 (fBody (dAt 142)) := fnIs (show (K w).lookup (fa 142) = some (mF 142) by kernel_rfl) (by kernel_rfl) (by kernel_rfl)
theorem a_inst_0xa6 : AllLoc x_inst_0xa6 := allLoc (by kernel_rfl)
theorem b_inst_0xa6 : Binds w l ns h₀ hw gens os 142 pn_inst_0xa6 := binds_of w l ns h₀ hw gens os (show (K w).lookup (fa 142) = some (mF 142) by kernel_rfl) rfl fun vals h => by
  obtain ⟨v0, rfl⟩ := len1 (l := vals) h
  kernel_rfl
theorem f_inst_0xa9 : FnIs (cfg w l ns h₀ hw gens os) x_inst_0xa9 144 pn_inst_0xa9 0 (fBody (dAt 144)) := fnIs (show (K w).lookup (fa 144) = some (mF 144) by kernel_rfl) (by kernel_rfl) (by kernel_rfl)
theorem a_inst_0xa9 : AllLoc x_inst_0xa9 := allLoc (by kernel_rfl)
theorem b_inst_0xa9 : Binds w l ns h₀ hw gens os 144 pn_inst_0xa9 := binds_of w l ns h₀ hw gens os (show (K w).lookup (fa 144) = some (mF 144) by kernel_rfl) rfl fun vals h => by
  obtain ⟨v0, rfl⟩ := len1 (l := vals) h
  kernel_rfl
theorem f_inst_0xb0 : FnIs (cfg w l ns h₀ hw gens os) x_inst_0xb0 149 pn_inst_0xb0 0 (fBody (dAt 149)) := fnIs (show (K w).lookup (fa 149) = some (mF 149) by kernel_rfl) (by kernel_rfl) (by kernel_rfl)
theorem a_inst_0xb0 : AllLoc x_inst_0xb0 := allLoc (by kernel_rfl)
theorem b_inst_0xb0 : Binds w l ns h₀ hw gens os 149 pn_inst_0xb0 := binds_of w l ns h₀ hw gens os (show (K w).lookup (fa 149) = some (mF 149) by kernel_rfl) rfl fun vals h => by
  obtain ⟨v0, rfl⟩ := len1 (l := vals) h
  kernel_rfl
theorem f_inst_0xc6 : FnIs (cfg w l ns h₀ hw gens os) x_inst_0xc6 164 pn_inst_0xc6 0 (fBody (dAt 164)) := fnIs (show (K w).lookup (fa 164) = some (mF 164) by kernel_rfl) (by kernel_rfl) (by kernel_rfl)
theorem a_inst_0xc6 : AllLoc x_inst_0xc6 := allLoc (by kernel_rfl)
theorem b_inst_0xc6 : Binds w l ns h₀ hw gens os 164 pn_inst_0xc6 := binds_of w l ns h₀ hw gens os (show (K w).lookup (fa 164) = some (mF 164) by kernel_rfl) rfl fun vals h => by
  obtain ⟨v0, rfl⟩ := len1 (l := vals) h
  kernel_rfl
theorem f_inst_0xd0 : FnIs (cfg w l ns h₀ hw gens os) x_inst_0xd0 171 pn_inst_0xd0 0 (fBody (dAt 171)) := fnIs (show (K w).lookup (fa 171) = some (mF 171) by kernel_rfl) (by kernel_rfl) (by kernel_rfl)
theorem a_inst_0xd0 : AllLoc x_inst_0xd0 := allLoc (by kernel_rfl)
theorem b_inst_0xd0 : Binds w l ns h₀ hw gens os 171 pn_inst_0xd0 := binds_of w l ns h₀ hw gens os (show (K w).lookup (fa 171) = some (mF 171) by kernel_rfl) rfl fun vals h => by
  obtain ⟨v0, rfl⟩ := len1 (l := vals) h
  kernel_rfl
theorem f_inst_0xd8 : FnIs (cfg w l ns h₀ hw gens os) x_inst_0xd8 175 pn_inst_0xd8 0 (fBody (dAt 175)) := fnIs (show (K w).lookup (fa 175) = some (mF 175) by kernel_rfl) (by kernel_rfl) (by kernel_rfl)
theorem a_inst_0xd8 : AllLoc x_inst_0xd8 := allLoc (by kernel_rfl)
theorem b_inst_0xd8 : Binds w l ns h₀ hw gens os 175 pn_inst_0xd8 := binds_of w l ns h₀ hw gens os (show (K w).lookup (fa 175) = some (mF 175) by kernel_rfl) rfl fun vals h => by
  obtain ⟨v0, rfl⟩ := len1 (l := vals) h
  kernel_rfl
theorem f_inst_0xe6 : FnIs (cfg w l ns h₀ hw gens os) x_inst_0xe6 183 pn_inst_0xe6 0 (fBody (dAt 183)) := fnIs (show (K w).lookup (fa 183) = some (mF 183) by kernel_rfl) (by kernel_rfl) (by kernel_rfl)
theorem a_inst_0xe6 : AllLoc x_inst_0xe6 := allLoc (by kernel_rfl)
theorem b_inst_0xe6 : Binds w l ns h₀ hw gens os 183 pn_inst_0xe6 := binds_of w l ns h₀ hw gens os (show (K w).lookup (fa 183) = some (mF 183) by kernel_rfl) rfl fun vals h => by
  obtain ⟨v0, rfl⟩ := len1 (l := vals) h
  kernel_rfl
theorem f_inst_0xf0 : FnIs (cfg w l ns h₀ hw gens os) x_inst_0xf0 190 pn_inst_0xf0 0 (fBody (dAt 190)) := fnIs (show (K w).lookup (fa 190) = some (mF 190) by kernel_rfl) (by kernel_rfl) (by kernel_rfl)
theorem a_inst_0xf0 : AllLoc x_inst_0xf0 := allLoc (by kernel_rfl)
theorem b_inst_0xf0 : Binds w l ns h₀ hw gens os 190 pn_inst_0xf0 := binds_of w l ns h₀ hw gens os (show (K w).lookup (fa 190) = some (mF 190) by kernel_rfl) rfl fun vals h => by
  obtain ⟨v0, rfl⟩ := len1 (l := vals) h
  kernel_rfl
theorem f_WrapAt : FnIs (cfg w l ns h₀ hw gens os) x_WrapAt 6 pn_WrapAt 1 (fBody (dAt 6)) := fnIs (show (K w).lookup (fa 6) = some (mF 6) by kernel_rfl) (by kernel_rfl) (by kernel_rfl)
theorem b_WrapAt : Binds w l ns h₀ hw gens os 6 pn_WrapAt := binds_of w l ns h₀ hw gens os (show (K w).lookup (fa 6) = some (mF 6) by kernel_rfl) rfl fun vals h => by
  obtain ⟨v0, v1, rfl⟩ := len2 (l := vals) h
  kernel_rfl
theorem f_init : FnIs (cfg w l ns h₀ hw gens os) x_init 200 pn_init 0 (fBody (ini)) := fnIs (show (K w).lookup (fa 200) = some (iniF) by kernel_rfl) (by kernel_rfl) (by kernel_rfl)
theorem a_init : AllLoc x_init := allLoc (by kernel_rfl)
theorem f_law_word : FnIs (cfg w l ns h₀ hw gens os) x_law_word 201 pn_law_word 0 (fBody (stM 4)) := fnIs (show (K w).lookup (fa 201) = some (F_law_word) by kernel_rfl) (by kernel_rfl) (by kernel_rfl)
theorem a_law_word : AllLoc x_law_word := allLoc (by kernel_rfl)
theorem b_law_word : Binds w l ns h₀ hw gens os 201 pn_law_word := binds_of w l ns h₀ hw gens os (show (K w).lookup (fa 201) = some (F_law_word) by kernel_rfl) rfl fun vals h => by
  obtain ⟨v0, rfl⟩ := len1 (l := vals) h
  kernel_rfl
theorem f_law_plan : FnIs (cfg w l ns h₀ hw gens os) x_law_plan 202 pn_law_plan 7 (fBody (stM 5)) := fnIs (show (K w).lookup (fa 202) = some (F_law_plan) by kernel_rfl) (by kernel_rfl) (by kernel_rfl)
theorem a_law_plan : AllLoc x_law_plan := allLoc (by kernel_rfl)
theorem b_law_plan : Binds w l ns h₀ hw gens os 202 pn_law_plan := binds_of w l ns h₀ hw gens os (show (K w).lookup (fa 202) = some (F_law_plan) by kernel_rfl) rfl fun vals h => by
  obtain ⟨v0, v1, rfl⟩ := len2 (l := vals) h
  kernel_rfl
theorem f_law_pointer : FnIs (cfg w l ns h₀ hw gens os) x_law_pointer 203 pn_law_pointer 2 (fBody (stM 6)) := fnIs (show (K w).lookup (fa 203) = some (F_law_pointer) by kernel_rfl) (by kernel_rfl) (by kernel_rfl)
theorem a_law_pointer : AllLoc x_law_pointer := allLoc (by kernel_rfl)
theorem b_law_pointer : Binds w l ns h₀ hw gens os 203 pn_law_pointer := binds_of w l ns h₀ hw gens os (show (K w).lookup (fa 203) = some (F_law_pointer) by kernel_rfl) rfl fun vals h => by
  obtain ⟨v0, v1, rfl⟩ := len2 (l := vals) h
  kernel_rfl
theorem f_law_block : FnIs (cfg w l ns h₀ hw gens os) x_law_block 204 pn_law_block 13 (fBody (stM 7)) := fnIs (show (K w).lookup (fa 204) = some (F_law_block) by kernel_rfl) (by kernel_rfl) (by kernel_rfl)
theorem a_law_block : AllLoc x_law_block := allLoc (by kernel_rfl)
theorem b_law_block : Binds w l ns h₀ hw gens os 204 pn_law_block := binds_of w l ns h₀ hw gens os (show (K w).lookup (fa 204) = some (F_law_block) by kernel_rfl) rfl fun vals h => by
  obtain ⟨v0, v1, v2, rfl⟩ := len3 (l := vals) h
  kernel_rfl
theorem f_law_signed : FnIs (cfg w l ns h₀ hw gens os) x_law_signed 205 pn_law_signed 0 (fBody (stM 8)) := fnIs (show (K w).lookup (fa 205) = some (F_law_signed) by kernel_rfl) (by kernel_rfl) (by kernel_rfl)
theorem a_law_signed : AllLoc x_law_signed := allLoc (by kernel_rfl)
theorem b_law_signed : Binds w l ns h₀ hw gens os 205 pn_law_signed := binds_of w l ns h₀ hw gens os (show (K w).lookup (fa 205) = some (F_law_signed) by kernel_rfl) rfl fun vals h => by
  obtain ⟨v0, rfl⟩ := len1 (l := vals) h
  kernel_rfl
theorem f_law_taken : FnIs (cfg w l ns h₀ hw gens os) x_law_taken 206 pn_law_taken 3 (fBody (stM 9)) := fnIs (show (K w).lookup (fa 206) = some (F_law_taken) by kernel_rfl) (by kernel_rfl) (by kernel_rfl)
theorem a_law_taken : AllLoc x_law_taken := allLoc (by kernel_rfl)
theorem b_law_taken : Binds w l ns h₀ hw gens os 206 pn_law_taken := binds_of w l ns h₀ hw gens os (show (K w).lookup (fa 206) = some (F_law_taken) by kernel_rfl) rfl fun vals h => by
  obtain ⟨v0, v1, v2, rfl⟩ := len3 (l := vals) h
  kernel_rfl
theorem f_law_lay : FnIs (cfg w l ns h₀ hw gens os) x_law_lay 207 pn_law_lay 1 (fBody (stM 10)) := fnIs (show (K w).lookup (fa 207) = some (F_law_lay) by kernel_rfl) (by kernel_rfl) (by kernel_rfl)
theorem a_law_lay : AllLoc x_law_lay := allLoc (by kernel_rfl)
theorem b_law_lay : Binds w l ns h₀ hw gens os 207 pn_law_lay := binds_of w l ns h₀ hw gens os (show (K w).lookup (fa 207) = some (F_law_lay) by kernel_rfl) rfl fun vals h => by
  obtain ⟨v0, v1, v2, rfl⟩ := len3 (l := vals) h
  kernel_rfl
theorem f_law : FnIs (cfg w l ns h₀ hw gens os) x_law 208 pn_law 26 (fBody (stM 11)) := fnIs (show (K w).lookup (fa 208) = some (Flaw) by kernel_rfl) (by kernel_rfl) (by kernel_rfl)
theorem b_law : Binds w l ns h₀ hw gens os 208 pn_law := binds_of w l ns h₀ hw gens os (show (K w).lookup (fa 208) = some (Flaw) by kernel_rfl) rfl fun vals h => by
  obtain ⟨v0, rfl⟩ := len1 (l := vals) h
  kernel_rfl
end
end
end Mine.Mp
end
section
open PySem PySem.W PyProof.Rows
namespace Mine.Mp
open Mine.Hd Mine.Py
section
noncomputable def bodyW (C : Cfg) (S : Nat → Py.Spec) (np m : Nat) (cs : Cs) : Py.Spec := fun args σ Q => args.length = np ∧ wpCs C S cs (args0 args m) σ (retPost Q)
noncomputable def newW (C : Cfg) (S : Nat → Py.Spec) : Py.Spec := fun args σ Q => ∃ a b, args = [a, b] ∧ wpCs C S ir_init (args0 [.ins σ.length, a, b] 0) (σ ++ [.inst []]) (retPost fun v σ' => v = .at .none ∧ Q (.ins σ.length) σ')
noncomputable def tbL : List (Nat × Nat × Nat × Cs) := [(0, 1, 1, ir_step), (1, 1, 0, ir_reset), (4, 2, 0, ir_ByteAt), (5, 2, 0, ir_WordAt), (7, 1, 0, ir_ProgramCounter), (8, 1, 0, ir_ImmediateByte), (9, 1, 0, ir_ZeroPageAddr), (13, 1, 2, ir_IndirectYAddr), (15, 1, 2, ir_AbsoluteXAddr), (16, 1, 2, ir_AbsoluteYAddr), (17, 1, 1, ir_BranchRelAddr), (18, 2, 0, ir_stPush), (19, 1, 0, ir_stPop), (20, 2, 0, ir_stPushWord), (21, 1, 1, ir_stPopWord), (22, 2, 0, ir_FlagsNZ), (26, 2, 0, ir_opBCL), (27, 2, 0, ir_opBST), (28, 2, 0, ir_opCLR), (34, 2, 10, ir_opADC), (36, 2, 0, ir_opSTA), (41, 2, 2, ir_opDECR), (42, 2, 2, ir_opINCR), (43, 2, 0, ir_opLDA), (44, 2, 0, ir_opLDY), (45, 2, 0, ir_opLDX), (47, 1, 1, ir_inst_0x00), (56, 1, 0, ir_inst_0x10), (60, 1, 0, ir_inst_0x18), (64, 1, 0, ir_inst_0x20), (69, 1, 0, ir_inst_0x28), (75, 1, 0, ir_inst_0x30), (83, 1, 0, ir_inst_0x40), (87, 1, 0, ir_inst_0x48), (90, 1, 0, ir_inst_0x4c), (93, 1, 0, ir_inst_0x50), (101, 1, 0, ir_inst_0x60), (106, 1, 0, ir_inst_0x69), (108, 1, 1, ir_inst_0x6c), (111, 1, 0, ir_inst_0x70), (128, 1, 0, ir_inst_0x90), (129, 1, 0, ir_inst_0x91), (134, 1, 0, ir_inst_0x99), (135, 1, 0, ir_inst_0x9a), (136, 1, 0, ir_inst_0x9d), (139, 1, 0, ir_inst_0xa2), (140, 1, 0, ir_inst_0xa4), (142, 1, 0, ir_inst_0xa6), (144, 1, 0, ir_inst_0xa9), (149, 1, 0, ir_inst_0xb0), (164, 1, 0, ir_inst_0xc6), (171, 1, 0, ir_inst_0xd0), (175, 1, 0, ir_inst_0xd8), (183, 1, 0, ir_inst_0xe6), (190, 1, 0, ir_inst_0xf0), (201, 1, 0, ir_law_word), (202, 2, 7, ir_law_plan), (203, 2, 2, ir_law_pointer), (204, 3, 13, ir_law_block), (205, 1, 0, ir_law_signed), (206, 3, 3, ir_law_taken), (207, 3, 1, ir_law_lay), (6, 2, 1, ir_WrapAt)]
noncomputable def find4 : List (Nat × Nat × Nat × Cs) → Nat → Option (Nat × Nat × Cs)
  | [], _ => none
  | x :: l, f => match Nat.beq x.1 f with
    | true => some x.2
    | false => find4 l f
noncomputable def tb (f : Nat) : Option (Nat × Nat × Cs) := find4 tbL f
theorem find4_all {P : Nat → Nat × Nat × Cs → Prop} {f : Nat} {y : Nat × Nat × Cs} : ∀ {l : List (Nat × Nat × Nat × Cs)}, (∀ x ∈ l, P x.1 x.2) → find4 l f = some y → P f y
  | [], _, h => by cases h
  | x :: l, H, h => by
    have h : (match Nat.beq x.1 f with | true => some x.2 | false => find4 l f) = some y := h
    cases e : Nat.beq x.1 f with
    | true => rw [e] at h; cases h; rw [← Nat.eq_of_beq_eq_true e]; exact H x (.head _)
    | false => rw [e] at h; exact find4_all (fun z m => H z (.tail _ m)) h
theorem all_c {P : Nat → Nat × Nat × Cs → Prop} {x : Nat × Nat × Nat × Cs} {l : List (Nat × Nat × Nat × Cs)} (h : P x.1 x.2) (H : ∀ x ∈ l, P x.1 x.2) : ∀ y ∈ x :: l, P y.1 y.2 := fun y m => by cases m with | head => exact h | tail _ m => exact H y m
theorem all_n {P : Nat → Nat × Nat × Cs → Prop} : ∀ y ∈ ([] : List (Nat × Nat × Nat × Cs)), P y.1 y.2 := fun y m => by cases m
noncomputable def lamW (C : Cfg) (S : Nat → Py.Spec) : Py.Spec := fun args σ Q => ∃ k v, args = [.ins k, v] ∧ wpT C S ir_lam [some v, some (.ins k)] σ Q
noncomputable def Sp (C : Cfg) : Nat → Nat → Py.Spec
  | 0, _ => fun _ _ _ => False
  | n + 1, f => match tb f with
    | some (np, m, cs) => bodyW C (Sp C n) np m cs
    | none => if f = 300 then newW C (Sp C n) else if f = 400 then lamW C (Sp C n) else fun _ _ _ => False
section
variable (w : World) (l : Nat) (ns : List Int) (h₀ : Heap) (hw : ∃ o, h₀.get? 80 = some o) (gens : Array GenState) (os : OsState)
noncomputable def Row1 (n f : Nat) (x : Nat × Nat × Cs) : Prop := SpecOk (cfg w l ns h₀ hw gens os) (n + 1) f (bodyW (cfg w l ns h₀ hw gens os) (Sp (cfg w l ns h₀ hw gens os) n) x.1 x.2.1 x.2.2) ∧ keepIn (K w) (.ref (fa f)) = true ∧ fnIn (K w) (fa f) = true
section
variable {n : Nat} (so : SpecsOk (cfg w l ns h₀ hw gens os) n (Sp (cfg w l ns h₀ hw gens os) n))
include so
theorem sp1_step : Row1 w l ns h₀ hw gens os n 0 (1, 1, ir_step) := ⟨spec_of_body (f_step w l ns h₀ hw gens os) a_step (b_step w l ns h₀ hw gens os) (cfgOk w l ns h₀ hw gens os) rfl so ok_step fun _ _ _ h => h, by kernel_rfl, by kernel_rfl⟩
theorem sp1_reset : Row1 w l ns h₀ hw gens os n 1 (1, 0, ir_reset) := ⟨spec_of_body (f_reset w l ns h₀ hw gens os) a_reset (b_reset w l ns h₀ hw gens os) (cfgOk w l ns h₀ hw gens os) rfl so ok_reset fun _ _ _ h => h, by kernel_rfl, by kernel_rfl⟩
theorem sp1_ByteAt : Row1 w l ns h₀ hw gens os n 4 (2, 0, ir_ByteAt) := ⟨spec_of_body (f_ByteAt w l ns h₀ hw gens os) a_ByteAt (b_ByteAt w l ns h₀ hw gens os) (cfgOk w l ns h₀ hw gens os) rfl so ok_ByteAt fun _ _ _ h => h, by kernel_rfl, by kernel_rfl⟩
theorem sp1_WordAt : Row1 w l ns h₀ hw gens os n 5 (2, 0, ir_WordAt) := ⟨spec_of_body (f_WordAt w l ns h₀ hw gens os) a_WordAt (b_WordAt w l ns h₀ hw gens os) (cfgOk w l ns h₀ hw gens os) rfl so ok_WordAt fun _ _ _ h => h, by kernel_rfl, by kernel_rfl⟩
theorem sp1_ProgramCounter : Row1 w l ns h₀ hw gens os n 7 (1, 0, ir_ProgramCounter) := ⟨spec_of_body (f_ProgramCounter w l ns h₀ hw gens os) a_ProgramCounter (b_ProgramCounter w l ns h₀ hw gens os) (cfgOk w l ns h₀ hw gens os) rfl so ok_ProgramCounter fun _ _ _ h => h, by kernel_rfl, by kernel_rfl⟩
theorem sp1_ImmediateByte : Row1 w l ns h₀ hw gens os n 8 (1, 0, ir_ImmediateByte) := ⟨spec_of_body (f_ImmediateByte w l ns h₀ hw gens os) a_ImmediateByte (b_ImmediateByte w l ns h₀ hw gens os) (cfgOk w l ns h₀ hw gens os) rfl so ok_ImmediateByte fun _ _ _ h => h, by kernel_rfl, by kernel_rfl⟩
theorem sp1_ZeroPageAddr : Row1 w l ns h₀ hw gens os n 9 (1, 0, ir_ZeroPageAddr) := ⟨spec_of_body (f_ZeroPageAddr w l ns h₀ hw gens os) a_ZeroPageAddr (b_ZeroPageAddr w l ns h₀ hw gens os) (cfgOk w l ns h₀ hw gens os) rfl so ok_ZeroPageAddr fun _ _ _ h => h, by kernel_rfl, by kernel_rfl⟩
theorem sp1_IndirectYAddr : Row1 w l ns h₀ hw gens os n 13 (1, 2, ir_IndirectYAddr) := ⟨spec_of_body (f_IndirectYAddr w l ns h₀ hw gens os) a_IndirectYAddr (b_IndirectYAddr w l ns h₀ hw gens os) (cfgOk w l ns h₀ hw gens os) rfl so ok_IndirectYAddr fun _ _ _ h => h, by kernel_rfl, by kernel_rfl⟩
theorem sp1_AbsoluteXAddr : Row1 w l ns h₀ hw gens os n 15 (1, 2, ir_AbsoluteXAddr) := ⟨spec_of_body (f_AbsoluteXAddr w l ns h₀ hw gens os) a_AbsoluteXAddr (b_AbsoluteXAddr w l ns h₀ hw gens os) (cfgOk w l ns h₀ hw gens os) rfl so ok_AbsoluteXAddr fun _ _ _ h => h, by kernel_rfl, by kernel_rfl⟩
theorem sp1_AbsoluteYAddr : Row1 w l ns h₀ hw gens os n 16 (1, 2, ir_AbsoluteYAddr) := ⟨spec_of_body (f_AbsoluteYAddr w l ns h₀ hw gens os) a_AbsoluteYAddr (b_AbsoluteYAddr w l ns h₀ hw gens os) (cfgOk w l ns h₀ hw gens os) rfl so ok_AbsoluteYAddr fun _ _ _ h => h, by kernel_rfl, by kernel_rfl⟩
theorem sp1_BranchRelAddr : Row1 w l ns h₀ hw gens os n 17 (1, 1, ir_BranchRelAddr) := ⟨spec_of_body (f_BranchRelAddr w l ns h₀ hw gens os) a_BranchRelAddr (b_BranchRelAddr w l ns h₀ hw gens os) (cfgOk w l ns h₀ hw gens os) rfl so ok_BranchRelAddr fun _ _ _ h => h, by kernel_rfl, by kernel_rfl⟩
theorem sp1_stPush : Row1 w l ns h₀ hw gens os n 18 (2, 0, ir_stPush) := ⟨spec_of_body (f_stPush w l ns h₀ hw gens os) a_stPush (b_stPush w l ns h₀ hw gens os) (cfgOk w l ns h₀ hw gens os) rfl so ok_stPush fun _ _ _ h => h, by kernel_rfl, by kernel_rfl⟩
theorem sp1_stPop : Row1 w l ns h₀ hw gens os n 19 (1, 0, ir_stPop) := ⟨spec_of_body (f_stPop w l ns h₀ hw gens os) a_stPop (b_stPop w l ns h₀ hw gens os) (cfgOk w l ns h₀ hw gens os) rfl so ok_stPop fun _ _ _ h => h, by kernel_rfl, by kernel_rfl⟩
theorem sp1_stPushWord : Row1 w l ns h₀ hw gens os n 20 (2, 0, ir_stPushWord) := ⟨spec_of_body (f_stPushWord w l ns h₀ hw gens os) a_stPushWord (b_stPushWord w l ns h₀ hw gens os) (cfgOk w l ns h₀ hw gens os) rfl so ok_stPushWord fun _ _ _ h => h, by kernel_rfl, by kernel_rfl⟩
theorem sp1_stPopWord : Row1 w l ns h₀ hw gens os n 21 (1, 1, ir_stPopWord) := ⟨spec_of_body (f_stPopWord w l ns h₀ hw gens os) a_stPopWord (b_stPopWord w l ns h₀ hw gens os) (cfgOk w l ns h₀ hw gens os) rfl so ok_stPopWord fun _ _ _ h => h, by kernel_rfl, by kernel_rfl⟩
theorem sp1_FlagsNZ : Row1 w l ns h₀ hw gens os n 22 (2, 0, ir_FlagsNZ) := ⟨spec_of_body (f_FlagsNZ w l ns h₀ hw gens os) a_FlagsNZ (b_FlagsNZ w l ns h₀ hw gens os) (cfgOk w l ns h₀ hw gens os) rfl so ok_FlagsNZ fun _ _ _ h => h, by kernel_rfl, by kernel_rfl⟩
theorem sp1_opBCL : Row1 w l ns h₀ hw gens os n 26 (2, 0, ir_opBCL) := ⟨spec_of_body (f_opBCL w l ns h₀ hw gens os) a_opBCL (b_opBCL w l ns h₀ hw gens os) (cfgOk w l ns h₀ hw gens os) rfl so ok_opBCL fun _ _ _ h => h, by kernel_rfl, by kernel_rfl⟩
theorem sp1_opBST : Row1 w l ns h₀ hw gens os n 27 (2, 0, ir_opBST) := ⟨spec_of_body (f_opBST w l ns h₀ hw gens os) a_opBST (b_opBST w l ns h₀ hw gens os) (cfgOk w l ns h₀ hw gens os) rfl so ok_opBST fun _ _ _ h => h, by kernel_rfl, by kernel_rfl⟩
theorem sp1_opCLR : Row1 w l ns h₀ hw gens os n 28 (2, 0, ir_opCLR) := ⟨spec_of_body (f_opCLR w l ns h₀ hw gens os) a_opCLR (b_opCLR w l ns h₀ hw gens os) (cfgOk w l ns h₀ hw gens os) rfl so ok_opCLR fun _ _ _ h => h, by kernel_rfl, by kernel_rfl⟩
theorem sp1_opADC : Row1 w l ns h₀ hw gens os n 34 (2, 10, ir_opADC) := ⟨spec_of_body (f_opADC w l ns h₀ hw gens os) a_opADC (b_opADC w l ns h₀ hw gens os) (cfgOk w l ns h₀ hw gens os) rfl so ok_opADC fun _ _ _ h => h, by kernel_rfl, by kernel_rfl⟩
theorem sp1_opSTA : Row1 w l ns h₀ hw gens os n 36 (2, 0, ir_opSTA) := ⟨spec_of_body (f_opSTA w l ns h₀ hw gens os) a_opSTA (b_opSTA w l ns h₀ hw gens os) (cfgOk w l ns h₀ hw gens os) rfl so ok_opSTA fun _ _ _ h => h, by kernel_rfl, by kernel_rfl⟩
theorem sp1_opDECR : Row1 w l ns h₀ hw gens os n 41 (2, 2, ir_opDECR) := ⟨spec_of_body (f_opDECR w l ns h₀ hw gens os) a_opDECR (b_opDECR w l ns h₀ hw gens os) (cfgOk w l ns h₀ hw gens os) rfl so ok_opDECR fun _ _ _ h => h, by kernel_rfl, by kernel_rfl⟩
theorem sp1_opINCR : Row1 w l ns h₀ hw gens os n 42 (2, 2, ir_opINCR) := ⟨spec_of_body (f_opINCR w l ns h₀ hw gens os) a_opINCR (b_opINCR w l ns h₀ hw gens os) (cfgOk w l ns h₀ hw gens os) rfl so ok_opINCR fun _ _ _ h => h, by kernel_rfl, by kernel_rfl⟩
theorem sp1_opLDA : Row1 w l ns h₀ hw gens os n 43 (2, 0, ir_opLDA) := ⟨spec_of_body (f_opLDA w l ns h₀ hw gens os) a_opLDA (b_opLDA w l ns h₀ hw gens os) (cfgOk w l ns h₀ hw gens os) rfl so ok_opLDA fun _ _ _ h => h, by kernel_rfl, by kernel_rfl⟩
theorem sp1_opLDY : Row1 w l ns h₀ hw gens os n 44 (2, 0, ir_opLDY) := ⟨spec_of_body (f_opLDY w l ns h₀ hw gens os) a_opLDY (b_opLDY w l ns h₀ hw gens os) (cfgOk w l ns h₀ hw gens os) rfl so ok_opLDY fun _ _ _ h => h, by kernel_rfl, by kernel_rfl⟩
theorem sp1_opLDX : Row1 w l ns h₀ hw gens os n 45 (2, 0, ir_opLDX) := ⟨spec_of_body (f_opLDX w l ns h₀ hw gens os) a_opLDX (b_opLDX w l ns h₀ hw gens os) (cfgOk w l ns h₀ hw gens os) rfl so ok_opLDX fun _ _ _ h => h, by kernel_rfl, by kernel_rfl⟩
theorem sp1_inst_0x00 : Row1 w l ns h₀ hw gens os n 47 (1, 1, ir_inst_0x00) := ⟨spec_of_body (f_inst_0x00 w l ns h₀ hw gens os) a_inst_0x00 (b_inst_0x00 w l ns h₀ hw gens os) (cfgOk w l ns h₀ hw gens os) rfl so ok_inst_0x00 fun _ _ _ h => h, by kernel_rfl, by kernel_rfl⟩
theorem sp1_inst_0x10 : Row1 w l ns h₀ hw gens os n 56 (1, 0, ir_inst_0x10) := ⟨spec_of_body (f_inst_0x10 w l ns h₀ hw gens os) a_inst_0x10 (b_inst_0x10 w l ns h₀ hw gens os) (cfgOk w l ns h₀ hw gens os) rfl so ok_inst_0x10 fun _ _ _ h => h, by kernel_rfl, by kernel_rfl⟩
theorem sp1_inst_0x18 : Row1 w l ns h₀ hw gens os n 60 (1, 0, ir_inst_0x18) := ⟨spec_of_body (f_inst_0x18 w l ns h₀ hw gens os) a_inst_0x18 (b_inst_0x18 w l ns h₀ hw gens os) (cfgOk w l ns h₀ hw gens os) rfl so ok_inst_0x18 fun _ _ _ h => h, by kernel_rfl, by kernel_rfl⟩
theorem sp1_inst_0x20 : Row1 w l ns h₀ hw gens os n 64 (1, 0, ir_inst_0x20) := ⟨spec_of_body (f_inst_0x20 w l ns h₀ hw gens os) a_inst_0x20 (b_inst_0x20 w l ns h₀ hw gens os) (cfgOk w l ns h₀ hw gens os) rfl so ok_inst_0x20 fun _ _ _ h => h, by kernel_rfl, by kernel_rfl⟩
theorem sp1_inst_0x28 : Row1 w l ns h₀ hw gens os n 69 (1, 0, ir_inst_0x28) := ⟨spec_of_body (f_inst_0x28 w l ns h₀ hw gens os) a_inst_0x28 (b_inst_0x28 w l ns h₀ hw gens os) (cfgOk w l ns h₀ hw gens os) rfl so ok_inst_0x28 fun _ _ _ h => h, by kernel_rfl, by kernel_rfl⟩
theorem sp1_inst_0x30 : Row1 w l ns h₀ hw gens os n 75 (1, 0, ir_inst_0x30) := ⟨spec_of_body (f_inst_0x30 w l ns h₀ hw gens os) a_inst_0x30 (b_inst_0x30 w l ns h₀ hw gens os) (cfgOk w l ns h₀ hw gens os) rfl so ok_inst_0x30 fun _ _ _ h => h, by kernel_rfl, by kernel_rfl⟩
theorem sp1_inst_0x40 : Row1 w l ns h₀ hw gens os n 83 (1, 0, ir_inst_0x40) := ⟨spec_of_body (f_inst_0x40 w l ns h₀ hw gens os) a_inst_0x40 (b_inst_0x40 w l ns h₀ hw gens os) (cfgOk w l ns h₀ hw gens os) rfl so ok_inst_0x40 fun _ _ _ h => h, by kernel_rfl, by kernel_rfl⟩
theorem sp1_inst_0x48 : Row1 w l ns h₀ hw gens os n 87 (1, 0, ir_inst_0x48) := ⟨spec_of_body (f_inst_0x48 w l ns h₀ hw gens os) a_inst_0x48 (b_inst_0x48 w l ns h₀ hw gens os) (cfgOk w l ns h₀ hw gens os) rfl so ok_inst_0x48 fun _ _ _ h => h, by kernel_rfl, by kernel_rfl⟩
theorem sp1_inst_0x4c : Row1 w l ns h₀ hw gens os n 90 (1, 0, ir_inst_0x4c) := ⟨spec_of_body (f_inst_0x4c w l ns h₀ hw gens os) a_inst_0x4c (b_inst_0x4c w l ns h₀ hw gens os) (cfgOk w l ns h₀ hw gens os) rfl so ok_inst_0x4c fun _ _ _ h => h, by kernel_rfl, by kernel_rfl⟩
theorem sp1_inst_0x50 : Row1 w l ns h₀ hw gens os n 93 (1, 0, ir_inst_0x50) := ⟨spec_of_body (f_inst_0x50 w l ns h₀ hw gens os) a_inst_0x50 (b_inst_0x50 w l ns h₀ hw gens os) (cfgOk w l ns h₀ hw gens os) rfl so ok_inst_0x50 fun _ _ _ h => h, by kernel_rfl, by kernel_rfl⟩
theorem sp1_inst_0x60 : Row1 w l ns h₀ hw gens os n 101 (1, 0, ir_inst_0x60) := ⟨spec_of_body (f_inst_0x60 w l ns h₀ hw gens os) a_inst_0x60 (b_inst_0x60 w l ns h₀ hw gens os) (cfgOk w l ns h₀ hw gens os) rfl so ok_inst_0x60 fun _ _ _ h => h, by kernel_rfl, by kernel_rfl⟩
theorem sp1_inst_0x69 : Row1 w l ns h₀ hw gens os n 106 (1, 0, ir_inst_0x69) := ⟨spec_of_body (f_inst_0x69 w l ns h₀ hw gens os) a_inst_0x69 (b_inst_0x69 w l ns h₀ hw gens os) (cfgOk w l ns h₀ hw gens os) rfl so ok_inst_0x69 fun _ _ _ h => h, by kernel_rfl, by kernel_rfl⟩
theorem sp1_inst_0x6c : Row1 w l ns h₀ hw gens os n 108 (1, 1, ir_inst_0x6c) := ⟨spec_of_body (f_inst_0x6c w l ns h₀ hw gens os) a_inst_0x6c (b_inst_0x6c w l ns h₀ hw gens os) (cfgOk w l ns h₀ hw gens os) rfl so ok_inst_0x6c fun _ _ _ h => h, by kernel_rfl, by kernel_rfl⟩
theorem sp1_inst_0x70 : Row1 w l ns h₀ hw gens os n 111 (1, 0, ir_inst_0x70) := ⟨spec_of_body (f_inst_0x70 w l ns h₀ hw gens os) a_inst_0x70 (b_inst_0x70 w l ns h₀ hw gens os) (cfgOk w l ns h₀ hw gens os) rfl so ok_inst_0x70 fun _ _ _ h => h, by kernel_rfl, by kernel_rfl⟩
theorem sp1_inst_0x90 : Row1 w l ns h₀ hw gens os n 128 (1, 0, ir_inst_0x90) := ⟨spec_of_body (f_inst_0x90 w l ns h₀ hw gens os) a_inst_0x90 (b_inst_0x90 w l ns h₀ hw gens os) (cfgOk w l ns h₀ hw gens os) rfl so ok_inst_0x90 fun _ _ _ h => h, by kernel_rfl, by kernel_rfl⟩
theorem sp1_inst_0x91 : Row1 w l ns h₀ hw gens os n 129 (1, 0, ir_inst_0x91) := ⟨spec_of_body (f_inst_0x91 w l ns h₀ hw gens os) a_inst_0x91 (b_inst_0x91 w l ns h₀ hw gens os) (cfgOk w l ns h₀ hw gens os) rfl so ok_inst_0x91 fun _ _ _ h => h, by kernel_rfl, by kernel_rfl⟩
theorem sp1_inst_0x99 : Row1 w l ns h₀ hw gens os n 134 (1, 0, ir_inst_0x99) := ⟨spec_of_body (f_inst_0x99 w l ns h₀ hw gens os) a_inst_0x99 (b_inst_0x99 w l ns h₀ hw gens os) (cfgOk w l ns h₀ hw gens os) rfl so ok_inst_0x99 fun _ _ _ h => h, by kernel_rfl, by kernel_rfl⟩
theorem sp1_inst_0x9a : Row1 w l ns h₀ hw gens os n 135 (1, 0, ir_inst_0x9a) := ⟨spec_of_body (f_inst_0x9a w l ns h₀ hw gens os) a_inst_0x9a (b_inst_0x9a w l ns h₀ hw gens os) (cfgOk w l ns h₀ hw gens os) rfl so ok_inst_0x9a fun _ _ _ h => h, by kernel_rfl, by kernel_rfl⟩
theorem sp1_inst_0x9d : Row1 w l ns h₀ hw gens os n 136 (1, 0, ir_inst_0x9d) := ⟨spec_of_body (f_inst_0x9d w l ns h₀ hw gens os) a_inst_0x9d (b_inst_0x9d w l ns h₀ hw gens os) (cfgOk w l ns h₀ hw gens os) rfl so ok_inst_0x9d fun _ _ _ h => h, by kernel_rfl, by kernel_rfl⟩
theorem sp1_inst_0xa2 : Row1 w l ns h₀ hw gens os n 139 (1, 0, ir_inst_0xa2) := ⟨spec_of_body (f_inst_0xa2 w l ns h₀ hw gens os) a_inst_0xa2 (b_inst_0xa2 w l ns h₀ hw gens os) (cfgOk w l ns h₀ hw gens os) rfl so ok_inst_0xa2 fun _ _ _ h => h, by kernel_rfl, by kernel_rfl⟩
theorem sp1_inst_0xa4 : Row1 w l ns h₀ hw gens os n 140 (1, 0, ir_inst_0xa4) := ⟨spec_of_body (f_inst_0xa4 w l ns h₀ hw gens os) a_inst_0xa4 (b_inst_0xa4 w l ns h₀ hw gens os) (cfgOk w l ns h₀ hw gens os) rfl so ok_inst_0xa4 fun _ _ _ h => h, by kernel_rfl, by kernel_rfl⟩
theorem sp1_inst_0xa6 : Row1 w l ns h₀ hw gens os n 142 (1, 0, ir_inst_0xa6) := ⟨spec_of_body (f_inst_0xa6 w l ns h₀ hw gens os) a_inst_0xa6 (b_inst_0xa6 w l ns h₀ hw gens os) (cfgOk w l ns h₀ hw gens os) rfl so ok_inst_0xa6 fun _ _ _ h => h, by kernel_rfl, by kernel_rfl⟩
theorem sp1_inst_0xa9 : Row1 w l ns h₀ hw gens os n 144 (1, 0, ir_inst_0xa9) := ⟨spec_of_body (f_inst_0xa9 w l ns h₀ hw gens os) a_inst_0xa9 (b_inst_0xa9 w l ns h₀ hw gens os) (cfgOk w l ns h₀ hw gens os) rfl so ok_inst_0xa9 fun _ _ _ h => h, by kernel_rfl, by kernel_rfl⟩
theorem sp1_inst_0xb0 : Row1 w l ns h₀ hw gens os n 149 (1, 0, ir_inst_0xb0) := ⟨spec_of_body (f_inst_0xb0 w l ns h₀ hw gens os) a_inst_0xb0 (b_inst_0xb0 w l ns h₀ hw gens os) (cfgOk w l ns h₀ hw gens os) rfl so ok_inst_0xb0 fun _ _ _ h => h, by kernel_rfl, by kernel_rfl⟩
theorem sp1_inst_0xc6 : Row1 w l ns h₀ hw gens os n 164 (1, 0, ir_inst_0xc6) := ⟨spec_of_body (f_inst_0xc6 w l ns h₀ hw gens os) a_inst_0xc6 (b_inst_0xc6 w l ns h₀ hw gens os) (cfgOk w l ns h₀ hw gens os) rfl so ok_inst_0xc6 fun _ _ _ h => h, by kernel_rfl, by kernel_rfl⟩
theorem sp1_inst_0xd0 : Row1 w l ns h₀ hw gens os n 171 (1, 0, ir_inst_0xd0) := ⟨spec_of_body (f_inst_0xd0 w l ns h₀ hw gens os) a_inst_0xd0 (b_inst_0xd0 w l ns h₀ hw gens os) (cfgOk w l ns h₀ hw gens os) rfl so ok_inst_0xd0 fun _ _ _ h => h, by kernel_rfl, by kernel_rfl⟩
theorem sp1_inst_0xd8 : Row1 w l ns h₀ hw gens os n 175 (1, 0, ir_inst_0xd8) := ⟨spec_of_body (f_inst_0xd8 w l ns h₀ hw gens os) a_inst_0xd8 (b_inst_0xd8 w l ns h₀ hw gens os) (cfgOk w l ns h₀ hw gens os) rfl so ok_inst_0xd8 fun _ _ _ h => h, by kernel_rfl, by kernel_rfl⟩
theorem sp1_inst_0xe6 : Row1 w l ns h₀ hw gens os n 183 (1, 0, ir_inst_0xe6) := ⟨spec_of_body (f_inst_0xe6 w l ns h₀ hw gens os) a_inst_0xe6 (b_inst_0xe6 w l ns h₀ hw gens os) (cfgOk w l ns h₀ hw gens os) rfl so ok_inst_0xe6 fun _ _ _ h => h, by kernel_rfl, by kernel_rfl⟩
theorem sp1_inst_0xf0 : Row1 w l ns h₀ hw gens os n 190 (1, 0, ir_inst_0xf0) := ⟨spec_of_body (f_inst_0xf0 w l ns h₀ hw gens os) a_inst_0xf0 (b_inst_0xf0 w l ns h₀ hw gens os) (cfgOk w l ns h₀ hw gens os) rfl so ok_inst_0xf0 fun _ _ _ h => h, by kernel_rfl, by kernel_rfl⟩
theorem sp1_law_word : Row1 w l ns h₀ hw gens os n 201 (1, 0, ir_law_word) := ⟨spec_of_body (f_law_word w l ns h₀ hw gens os) a_law_word (b_law_word w l ns h₀ hw gens os) (cfgOk w l ns h₀ hw gens os) rfl so ok_law_word fun _ _ _ h => h, by kernel_rfl, by kernel_rfl⟩
theorem sp1_law_plan : Row1 w l ns h₀ hw gens os n 202 (2, 7, ir_law_plan) := ⟨spec_of_body (f_law_plan w l ns h₀ hw gens os) a_law_plan (b_law_plan w l ns h₀ hw gens os) (cfgOk w l ns h₀ hw gens os) rfl so ok_law_plan fun _ _ _ h => h, by kernel_rfl, by kernel_rfl⟩
theorem sp1_law_pointer : Row1 w l ns h₀ hw gens os n 203 (2, 2, ir_law_pointer) := ⟨spec_of_body (f_law_pointer w l ns h₀ hw gens os) a_law_pointer (b_law_pointer w l ns h₀ hw gens os) (cfgOk w l ns h₀ hw gens os) rfl so ok_law_pointer fun _ _ _ h => h, by kernel_rfl, by kernel_rfl⟩
theorem sp1_law_block : Row1 w l ns h₀ hw gens os n 204 (3, 13, ir_law_block) := ⟨spec_of_body (f_law_block w l ns h₀ hw gens os) a_law_block (b_law_block w l ns h₀ hw gens os) (cfgOk w l ns h₀ hw gens os) rfl so ok_law_block fun _ _ _ h => h, by kernel_rfl, by kernel_rfl⟩
theorem sp1_law_signed : Row1 w l ns h₀ hw gens os n 205 (1, 0, ir_law_signed) := ⟨spec_of_body (f_law_signed w l ns h₀ hw gens os) a_law_signed (b_law_signed w l ns h₀ hw gens os) (cfgOk w l ns h₀ hw gens os) rfl so ok_law_signed fun _ _ _ h => h, by kernel_rfl, by kernel_rfl⟩
theorem sp1_law_taken : Row1 w l ns h₀ hw gens os n 206 (3, 3, ir_law_taken) := ⟨spec_of_body (f_law_taken w l ns h₀ hw gens os) a_law_taken (b_law_taken w l ns h₀ hw gens os) (cfgOk w l ns h₀ hw gens os) rfl so ok_law_taken fun _ _ _ h => h, by kernel_rfl, by kernel_rfl⟩
theorem sp1_law_lay : Row1 w l ns h₀ hw gens os n 207 (3, 1, ir_law_lay) := ⟨spec_of_body (f_law_lay w l ns h₀ hw gens os) a_law_lay (b_law_lay w l ns h₀ hw gens os) (cfgOk w l ns h₀ hw gens os) rfl so ok_law_lay fun _ _ _ h => h, by kernel_rfl, by kernel_rfl⟩
theorem sp1_WrapAt : Row1 w l ns h₀ hw gens os n 6 (2, 1, ir_WrapAt) := ⟨fun args σ Q h A hA s θ δ H hg hos vals V Rc k => by
  obtain ⟨hlen, hw'⟩ := h
  refine body_callC (W := wpCs (cfg w l ns h₀ hw gens os) (Sp (cfg w l ns h₀ hw gens os) n) ir_WrapAt) (f_WrapAt w l ns h₀ hw gens os) (y := "self") (oneCell (by kernel_rfl)) (.inl rfl) (cfgOk w l ns h₀ hw gens os) rfl so (fun F A c hF => ?_) (pn := pn_WrapAt) hlen hw' hA.one H hg hos V (fun fd o e1 e2 => b_WrapAt w l ns h₀ hw gens os fd o e1 e2 vals (by rw [← V.length]; exact hlen)) k
  obtain ⟨fd, o, e1, e2, e3, e4⟩ := hF
  obtain rfl : o = mF 6 := Option.some.inj (e1.symm.trans (show (K w).lookup (fa 6) = some (mF 6) by kernel_rfl))
  have e5 : fd = wrapFd := by unfold mF Mine.Go.fnO at e2; injection e2 with e; exact e.symm
  subst e5
  rw [wrapBody]
  refine oks_cons (ok_lam (lamIs w l ns h₀ hw gens os) c.fo (by rw [c.ns]; rfl) (by rw [c.sc]; kernel_rfl) (by rw [c.ns]; rfl) (by rw [c.sc]; kernel_rfl) (by rw [e3]; kernel_rfl) (by rw [e4]; kernel_rfl) ⟨rfl, rfl⟩) (okCs_sound c ir_wrapR [wrapR] ok_wrapR), by kernel_rfl, by kernel_rfl⟩
end
theorem sp_one {n f np m : Nat} {cs : Cs} (h : tb f = some (np, m, cs)) (so : SpecsOk (cfg w l ns h₀ hw gens os) n (Sp (cfg w l ns h₀ hw gens os) n)) : Row1 w l ns h₀ hw gens os n f (np, m, cs) :=
  find4_all (P := Row1 w l ns h₀ hw gens os n) (l := tbL) (all_c (sp1_step w l ns h₀ hw gens os so) <| all_c (sp1_reset w l ns h₀ hw gens os so) <| all_c (sp1_ByteAt w l ns h₀ hw gens os so) <| all_c (sp1_WordAt w l ns h₀ hw gens os so) <| all_c (sp1_ProgramCounter w l ns h₀ hw gens os so) <| all_c (sp1_ImmediateByte w l ns h₀ hw gens os so) <| all_c (sp1_ZeroPageAddr w l ns h₀ hw gens os so) <| all_c (sp1_IndirectYAddr w l ns h₀ hw gens os so) <| all_c (sp1_AbsoluteXAddr w l ns h₀ hw gens os so) <| all_c (sp1_AbsoluteYAddr w l ns h₀ hw gens os so) <| all_c (sp1_BranchRelAddr w l ns h₀ hw gens os so) <| all_c (sp1_stPush w l ns h₀ hw gens os so) <| all_c (sp1_stPop w l ns h₀ hw gens os so) <| all_c (sp1_stPushWord w l ns h₀ hw gens os so) <| all_c (sp1_stPopWord w l ns h₀ hw gens os so) <| all_c (sp1_FlagsNZ w l ns h₀ hw gens os so) <| all_c (sp1_opBCL w l ns h₀ hw gens os so) <| all_c (sp1_opBST w l ns h₀ hw gens os so) <| all_c (sp1_opCLR w l ns h₀ hw gens os so) <| all_c (sp1_opADC w l ns h₀ hw gens os so) <| all_c (sp1_opSTA w l ns h₀ hw gens os so) <| all_c (sp1_opDECR w l ns h₀ hw gens os so) <| all_c (sp1_opINCR w l ns h₀ hw gens os so) <| all_c (sp1_opLDA w l ns h₀ hw gens os so) <| all_c (sp1_opLDY w l ns h₀ hw gens os so) <| all_c (sp1_opLDX w l ns h₀ hw gens os so) <| all_c (sp1_inst_0x00 w l ns h₀ hw gens os so) <| all_c (sp1_inst_0x10 w l ns h₀ hw gens os so) <| all_c (sp1_inst_0x18 w l ns h₀ hw gens os so) <| all_c (sp1_inst_0x20 w l ns h₀ hw gens os so) <| all_c (sp1_inst_0x28 w l ns h₀ hw gens os so) <| all_c (sp1_inst_0x30 w l ns h₀ hw gens os so) <| all_c (sp1_inst_0x40 w l ns h₀ hw gens os so) <| all_c (sp1_inst_0x48 w l ns h₀ hw gens os so) <| all_c (sp1_inst_0x4c w l ns h₀ hw gens os so) <| all_c (sp1_inst_0x50 w l ns h₀ hw gens os so) <| all_c (sp1_inst_0x60 w l ns h₀ hw gens os so) <| all_c (sp1_inst_0x69 w l ns h₀ hw gens os so) <| all_c (sp1_inst_0x6c w l ns h₀ hw gens os so) <| all_c (sp1_inst_0x70 w l ns h₀ hw gens os so) <| all_c (sp1_inst_0x90 w l ns h₀ hw gens os so) <| all_c (sp1_inst_0x91 w l ns h₀ hw gens os so) <| all_c (sp1_inst_0x99 w l ns h₀ hw gens os so) <| all_c (sp1_inst_0x9a w l ns h₀ hw gens os so) <| all_c (sp1_inst_0x9d w l ns h₀ hw gens os so) <| all_c (sp1_inst_0xa2 w l ns h₀ hw gens os so) <| all_c (sp1_inst_0xa4 w l ns h₀ hw gens os so) <| all_c (sp1_inst_0xa6 w l ns h₀ hw gens os so) <| all_c (sp1_inst_0xa9 w l ns h₀ hw gens os so) <| all_c (sp1_inst_0xb0 w l ns h₀ hw gens os so) <| all_c (sp1_inst_0xc6 w l ns h₀ hw gens os so) <| all_c (sp1_inst_0xd0 w l ns h₀ hw gens os so) <| all_c (sp1_inst_0xd8 w l ns h₀ hw gens os so) <| all_c (sp1_inst_0xe6 w l ns h₀ hw gens os so) <| all_c (sp1_inst_0xf0 w l ns h₀ hw gens os so) <| all_c (sp1_law_word w l ns h₀ hw gens os so) <| all_c (sp1_law_plan w l ns h₀ hw gens os so) <| all_c (sp1_law_pointer w l ns h₀ hw gens os so) <| all_c (sp1_law_block w l ns h₀ hw gens os so) <| all_c (sp1_law_signed w l ns h₀ hw gens os so) <| all_c (sp1_law_taken w l ns h₀ hw gens os so) <| all_c (sp1_law_lay w l ns h₀ hw gens os so) <| all_c (sp1_WrapAt w l ns h₀ hw gens os so) <| all_n) h
noncomputable def ldK {α : Type} : Sem α → Obj → Sem α
  | .load _ _ k, o => k o
  | t, _ => t
noncomputable def iniFd : FuncData := { name := "__init__", qualname := "MPU.__init__", params := Mine.Go.fArgs ini, body := .stmts (Mine.Go.fBody ini), scope := Mine.Go.fScope ini, globals := mainNs, closure := [], defaults := .ref 29, kwdefaults := .none, pyModule := pmC, code := .ref (30 + 5), builtins := builtinsNs }
theorem ini_b1 (x va vb : Value) : bindArgs iniFd ⟨[x], [("memory", va), ("pc", vb)]⟩ = (load 29 >>= fun o => ldK (bindArgs iniFd ⟨[x], [("memory", va), ("pc", vb)]⟩) o) := by kernel_rfl
theorem ini_b2 (x va vb : Value) : ldK (bindArgs iniFd ⟨[x], [("memory", va), ("pc", vb)]⟩) (Mine.Go.tupO [.none, .int 0 238]) = pure (pn_init.zip [x, va, vb]) := by kernel_rfl
theorem ini_binds (fd : FuncData) (o : Obj) (e1 : (K w).lookup (fa 200) = some o) (e2 : o.data = .func fd) (x va vb : Value) (s : Shared) (k : (K w).In s.heap) : BindsTo s fd ⟨[x], [("memory", va), ("pc", vb)]⟩ (pn_init.zip [x, va, vb]) := by
  obtain rfl : o = iniF := Option.some.inj (e1.symm.trans (show (K w).lookup (fa 200) = some iniF by kernel_rfl))
  unfold iniF Mine.Go.fnO at e2
  injection e2 with e3
  subst e3
  intro M A E Q hq
  have ho : s.heap.get? 29 = some (Mine.Go.tupO [.none, .int 0 238]) := k _ _ (show (K w).lookup 29 = some (Mine.Go.tupO [.none, .int 0 238]) by kernel_rfl)
  show wpAny M A (bindArgs iniFd ⟨[x], [("memory", va), ("pc", vb)]⟩) Q E s
  rw [ini_b1]
  refine wpAny_bind (wpAny_load ho ?_)
  rw [ini_b2]
  exact wpAny_pure hq
theorem sp_new {n : Nat} (so : SpecsOk (cfg w l ns h₀ hw gens os) n (Sp (cfg w l ns h₀ hw gens os) n)) : NewOk (cfg w l ns h₀ hw gens os) (n + 1) (newW (cfg w l ns h₀ hw gens os) (Sp (cfg w l ns h₀ hw gens os) n)) :=
  new_of_body (f_init w l ns h₀ hw gens os) a_init rfl (cfgOk w l ns h₀ hw gens os) rfl so ok_init (c_make w) (c_ini w) (c_iniT w) (ini_binds w) fun a b σ Q h => by
    obtain ⟨a', b', e, h⟩ := h
    cases e; exact h
theorem sp_lam {n : Nat} (so : SpecsOk (cfg w l ns h₀ hw gens os) n (Sp (cfg w l ns h₀ hw gens os) n)) : LamOk (cfg w l ns h₀ hw gens os) (n + 1) (lamW (cfg w l ns h₀ hw gens os) (Sp (cfg w l ns h₀ hw gens os) n)) :=
  lam_call (X := x_lam) (lamIs w l ns h₀ hw gens os) ⟨rfl, rfl, rfl⟩ (cfgOk w l ns h₀ hw gens os) rfl so ok_lamB (by kernel_rfl) fun k args σ Q h => by
    obtain ⟨k', v, e, h⟩ := h
    cases e; exact ⟨v, rfl, h⟩
theorem tb_none {f : Nat} (h : tb f = none) (n : Nat) (C : Cfg) : Sp C (n + 1) f = if f = 300 then newW C (Sp C n) else if f = 400 then lamW C (Sp C n) else fun _ _ _ => False := by
  show (match tb f with | some (np, m, cs) => bodyW C (Sp C n) np m cs | none => _) = _
  rw [h]
theorem tb_some {f np m : Nat} {cs : Cs} (h : tb f = some (np, m, cs)) (n : Nat) (C : Cfg) : Sp C (n + 1) f = bodyW C (Sp C n) np m cs := by
  show (match tb f with | some (np, m, cs) => bodyW C (Sp C n) np m cs | none => _) = _
  rw [h]
theorem sp_ok : ∀ n, SpecsOk (cfg w l ns h₀ hw gens os) n (Sp (cfg w l ns h₀ hw gens os) n)
  | 0 => ⟨fun f hf args σ Q h => h.elim, fun a b σ Q h => h.elim, fun f a σ Q hf h => h.elim, fun k a σ Q h => h.elim⟩
  | n + 1 => by
    have so := sp_ok n
    refine ⟨fun f hf => ?_, ?_, fun f a σ Q hf h => ?_, ?_⟩
    · cases e : tb f with
      | none =>
        intro args σ Q h
        rw [tb_none e, if_neg (by lia), if_neg (by lia)] at h
        exact h.elim
      | some x =>
        obtain ⟨np, m, cs⟩ := x
        rw [tb_some e]
        exact (sp_one w l ns h₀ hw gens os e so).1
    · rw [tb_none (f := 300) (by kernel_rfl), if_pos rfl]
      exact sp_new w l ns h₀ hw gens os so
    · cases e : tb f with
      | none => rw [tb_none e, if_neg (by lia), if_neg (by lia)] at h; exact h.elim
      | some x =>
        obtain ⟨np, m, cs⟩ := x
        exact (sp_one w l ns h₀ hw gens os e so).2
    · rw [tb_none (f := 400) (by kernel_rfl), if_neg (by decide), if_pos rfl]
      exact sp_lam w l ns h₀ hw gens os so
end
end
end Mine.Mp
end
section
open PySem PySem.W
open PyProof.Rows (bitXor_and bitOr_and bitAnd_m8 bitAnd_m4 bitAnd_m1 bitAnd_m16)
namespace Mine.Pu
theorem and_half (x y : Int) : Builtin.bitAnd x y / 2 = Builtin.bitAnd (x / 2) (y / 2) := by
  rw [kbt_halves x y]; split <;> lia
theorem xor_half (x y : Int) : Builtin.bitXor x y / 2 = Builtin.bitXor (x / 2) (y / 2) := by
  rw [bitXor_and, bitXor_and, kbt_halves x y]; split <;> lia
theorem ee (x : Int) {a b : Int} (h : 0 ≤ a) : x / a / b = x / (a * b) := Int.ediv_ediv_of_nonneg h
theorem div128 (x : Int) : x / 128 = x / 2 / 2 / 2 / 2 / 2 / 2 / 2 := by
  rw [ee x, ee x, ee x, ee x, ee x, ee x] <;> first | rfl | decide
theorem and_128 (x y : Int) : Builtin.bitAnd x y / 128 = Builtin.bitAnd (x / 128) (y / 128) := by
  rw [div128, div128 x, div128 y]; simp only [and_half]
theorem xor_128 (x y : Int) : Builtin.bitXor x y / 128 = Builtin.bitXor (x / 128) (y / 128) := by
  rw [div128, div128 x, div128 y]; simp only [xor_half]
theorem and_odd (x y : Int) : Builtin.bitAnd x y % 2 = 1 ↔ x % 2 = 1 ∧ y % 2 = 1 := by
  rw [kbt_halves x y]; split <;> rename_i h
  · exact ⟨fun _ => h, fun _ => by lia⟩
  · exact ⟨fun q => by lia, fun q => absurd q h⟩
theorem xor_odd (x y : Int) : Builtin.bitXor x y % 2 = 1 ↔ x % 2 ≠ y % 2 := by
  rw [bitXor_and, kbt_halves x y]; split <;> lia
theorem and128 (x : Int) : Builtin.bitAnd x 128 = x / 128 % 2 * 128 := by simpa using kbt_bit x 7
theorem ne_and128 (x : Int) : Builtin.bitAnd x 128 ≠ 0 ↔ x / 128 % 2 = 1 := by rw [and128]; lia
@[irreducible] noncomputable def bA (x y : Int) : Int := Builtin.bitAnd x y
@[irreducible] noncomputable def bO (x y : Int) : Int := Builtin.bitOr x y
@[irreducible] noncomputable def bX (x y : Int) : Int := Builtin.bitXor x y
@[irreducible] noncomputable def bN (x : Int) : Int := Builtin.bitNot x
theorem bA_eq {x y : Int} : bA x y = Builtin.bitAnd x y := by unfold bA; rfl
theorem bX_eq {x y : Int} : bX x y = Builtin.bitXor x y := by unfold bX; rfl
theorem bA128 (x : Int) : bA x 128 = x / 128 % 2 * 128 := by unfold bA; exact and128 x
theorem and_dbl (x y : Int) : Builtin.bitAnd x (2 * y) = 2 * Builtin.bitAnd (x / 2) y := by
  rw [kbt_halves x (2 * y)]
  have e : 2 * y / 2 = y := by lia
  rw [e]
  split <;> lia
theorem bA_hi (x : Int) : bA x 65280 = x / 256 % 256 * 256 := by
  unfold bA
  rw [show (65280 : Int) = 2 * (2 * (2 * (2 * (2 * (2 * (2 * (2 * 255))))))) by decide]
  simp only [and_dbl, bitAnd_m8]
  rw [show x / 2 / 2 / 2 / 2 / 2 / 2 / 2 / 2 = x / 256 by rw [← div128, ee x]; rfl; decide]
  generalize x / 256 % 256 = t
  lia
theorem not_odd (x : Int) : Builtin.bitNot x / 128 % 2 = 1 ↔ ¬ x / 128 % 2 = 1 := by unfold Builtin.bitNot; lia
theorem odd3 {a b c : Int} : (¬ a % 2 ≠ b % 2) ∧ a % 2 ≠ c % 2 ↔ a % 2 = b % 2 ∧ a % 2 ≠ c % 2 := and_congr Decidable.not_not Iff.rfl
theorem ovf_sum (a d r : Int) : bA (bA (bN (bX a d)) (bX a r)) 128 ≠ 0 ↔ a / 128 % 2 = d / 128 % 2 ∧ a / 128 % 2 ≠ r / 128 % 2 := by
  unfold bA bN bX
  rw [ne_and128, and_128, and_odd, xor_128 a r, xor_odd, not_odd, xor_128, xor_odd]
  exact odd3
noncomputable def b2 : Bool → Int
  | true => 1
  | false => 0
@[irreducible] noncomputable def fg (c z i d v n : Bool) : Int := 48 + b2 c + 2 * b2 z + 4 * b2 i + 8 * b2 d + 64 * b2 v + 128 * b2 n
theorem k130 : bN (bO 2 128) = -131 := by decide +kernel
theorem k196 : bN (bO (bO (bO 1 64) 128) 2) = -196 := by decide +kernel
theorem kn1 : bN 1 = -2 := by decide +kernel
theorem kn8 : bN 8 = -9 := by decide +kernel
theorem fg_nz : ∀ c z i d v n, bA (fg c z i d v n) (-131) = fg c false i d v false := by decide +kernel
theorem fg_clr : ∀ c z i d v n, bA (fg c z i d v n) (-196) = fg false false i d false false := by decide +kernel
theorem fg_clc : ∀ c z i d v n, bA (fg c z i d v n) (-2) = fg false z i d v n := by decide +kernel
theorem fg_cld : ∀ c z i d v n, bA (fg c z i d v n) (-9) = fg c z i false v n := by decide +kernel
theorem fg_o1 : ∀ c z i d v n, bO (fg c z i d v n) 1 = fg true z i d v n := by decide +kernel
theorem fg_o2 : ∀ c z i d v n, bO (fg c z i d v n) 2 = fg c true i d v n := by decide +kernel
theorem fg_o4 : ∀ c z i d v n, bO (fg c z i d v n) 4 = fg c z true d v n := by decide +kernel
theorem fg_o16 : ∀ c z i d v n, bO (fg c z i d v n) 16 = fg c z i d v n := by decide +kernel
theorem fg_o32 : ∀ c z i d v n, bO (fg c z i d v n) 32 = fg c z i d v n := by decide +kernel
theorem fg_o64 : ∀ c z i d v n, bO (fg c z i d v n) 64 = fg c z i d true n := by decide +kernel
theorem fg_o0 : ∀ c z i d v n, bO (fg c z i d v n) 0 = fg c z i d v n := by decide +kernel
theorem fg_o128 : ∀ c z i d v n, bO (fg c z i d v n) 128 = fg c z i d v true := by decide +kernel
theorem fg_1 : ∀ c z i d v n, decide (bA (fg c z i d v n) 1 ≠ 0) = c := by decide +kernel
theorem fg_2 : ∀ c z i d v n, decide (bA (fg c z i d v n) 2 ≠ 0) = z := by decide +kernel
theorem fg_8 : ∀ c z i d v n, decide (bA (fg c z i d v n) 8 ≠ 0) = d := by decide +kernel
theorem fg_64 : ∀ c z i d v n, decide (bA (fg c z i d v n) 64 ≠ 0) = v := by decide +kernel
theorem fg_128 : ∀ c z i d v n, decide (bA (fg c z i d v n) 128 ≠ 0) = n := by decide +kernel
theorem fg_oct : ∀ c z i d v n, 0 ≤ fg c z i d v n ∧ fg c z i d v n < 256 := by decide +kernel
noncomputable def bit (o k : Int) : Bool := decide (o / k % 2 = 1)
noncomputable def allTo : Nat → (Int → Bool) → Bool
  | 0, _ => true
  | n + 1, f => allTo n f && f n
theorem allTo_nat {f : Int → Bool} : ∀ {n : Nat}, allTo n f = true → ∀ {k : Nat}, k < n → f k = true
  | 0, _, _, h => absurd h (Nat.not_lt_zero _)
  | n + 1, e, k, h => by
    have e := Bool.and_eq_true_iff.mp e
    by_cases q : k = n
    · subst q; exact e.2
    · exact allTo_nat e.1 (by lia)
theorem allTo_at {f : Int → Bool} {n : Nat} (e : allTo n f = true) {x : Int} (h : 0 ≤ x ∧ x < n) : f x = true := by
  obtain ⟨k, rfl⟩ := Int.eq_ofNat_of_zero_le h.1
  exact allTo_nat e (Int.ofNat_lt.mp h.2)
theorem fg_of {o : Int} (h : 0 ≤ o ∧ o < 256) : bO (bO o 16) 32 = fg (bit o 1) (bit o 2) (bit o 4) (bit o 8) (bit o 64) (bit o 128) :=
  of_decide_eq_true (allTo_at (n := 256) (f := fun o => decide (bO (bO o 16) 32 = fg (bit o 1) (bit o 2) (bit o 4) (bit o 8) (bit o 64) (bit o 128))) (by decide +kernel) h)
theorem fg_val {o : Int} (h : 0 ≤ o ∧ o < 256) : fg (bit o 1) (bit o 2) (bit o 4) (bit o 8) (bit o 64) (bit o 128) = o / 64 * 64 + 48 + o % 16 :=
  of_decide_eq_true (allTo_at (n := 256) (f := fun o => decide (fg (bit o 1) (bit o 2) (bit o 4) (bit o 8) (bit o 64) (bit o 128) = o / 64 * 64 + 48 + o % 16)) (by decide +kernel) h)
section
variable {c z i d v n : Bool} {o : Int}
theorem fg_set (h : 0 ≤ o ∧ o < 256) : (if o = 0 then bO (bA (fg c z i d v n) (-131)) 2 else bO (bA (fg c z i d v n) (-131)) (bA o 128)) = fg c (decide (o = 0)) i d v (decide (128 ≤ o)) := by
  rw [fg_nz]
  by_cases q : o = 0
  · rw [if_pos q, fg_o2, decide_eq_true q, decide_eq_false (by lia)]
  · rw [if_neg q, bA128, decide_eq_false q]
    by_cases r : 128 ≤ o
    · rw [show o / 128 % 2 * 128 = 128 by lia, fg_o128, decide_eq_true r]
    · rw [show o / 128 % 2 * 128 = 0 by lia, fg_o0, decide_eq_false r]
theorem fg_set' (h : 0 ≤ o ∧ o < 256) : (if o ≠ 0 then bO (bA (fg c z i d v n) (-131)) (bA o 128) else bO (bA (fg c z i d v n) (-131)) 2) = fg c (decide (o = 0)) i d v (decide (128 ≤ o)) := by
  rw [← fg_set (c := c) (z := z) (i := i) (d := d) (v := v) (n := n) h]; by_cases q : o = 0 <;> simp [q]
end
theorem bX255 {o : Int} (h : 0 ≤ o ∧ o < 256) : bX o 255 = 255 - o :=
  of_decide_eq_true (allTo_at (n := 256) (f := fun o => decide (bX o 255 = 255 - o)) (by decide +kernel) h)
end Mine.Pu
end
section
open PySem PySem.W
namespace Mine.Mp
open Mine.Hd Mine.Py
noncomputable abbrev I (i : Int) : AV := .at (.int i)
@[irreducible] noncomputable def xpT (C : Cfg) (S : Nat → Py.Spec) (t : Tm) (ρ : Py.Loc) (σ : St) (Q : AV → St → Prop) : Prop := wpT C S t ρ σ Q
@[irreducible] noncomputable def xpTs (C : Cfg) (S : Nat → Py.Spec) (t : Ts) (ρ : Py.Loc) (σ : St) (Q : List AV → St → Prop) : Prop := wpTs C S t ρ σ Q
@[irreducible] noncomputable def xpB (C : Cfg) (S : Nat → Py.Spec) (t : Tm) (ρ : Py.Loc) (σ : St) (Q : Bool → St → Prop) : Prop := wpB C S t ρ σ Q
@[irreducible] noncomputable def xpCs (C : Cfg) (S : Nat → Py.Spec) (t : Cs) (ρ : Py.Loc) (σ : St) (Q : Fl → Py.Loc → St → Prop) : Prop := wpCs C S t ρ σ Q
@[irreducible] noncomputable def xbin (op : Operator) (a b : AV) (σ : St) (Q : AV → St → Prop) : Prop := binW op a b σ Q
@[irreducible] noncomputable def xidx (C : Cfg) (a b : AV) (σ : St) (Q : AV → St → Prop) : Prop := idxW C a b σ Q
@[irreducible] noncomputable def xint (op : Operator) (a b : AV) (Q : AV → Prop) : Prop := intW op a b Q
@[irreducible] noncomputable def xcall (S : Nat → Py.Spec) (f : AV) (vs : List AV) (σ : St) (Q : AV → St → Prop) : Prop := callW S f vs σ Q
noncomputable def mfs (exc add cyc : AV) (j : Nat) (pc sp a x y p : Int) : List AV := [.str "6502", I 255, I 65535, I 65280, I 256, exc, add, cyc, .lst j, I 512, I pc, I sp, I a, I x, I y, I p]
noncomputable def seqK (C : Cfg) (S : Nat → Py.Spec) (r : Cs) (Q : Fl → Py.Loc → St → Prop) : Fl → Py.Loc → St → Prop := fun fl ρ₁ σ₁ => match fl with | .next => xpCs C S r ρ₁ σ₁ Q | fl => Q fl ρ₁ σ₁
theorem lt_of_at {α : Type} {l : List α} {k : Nat} {a : α} (h : l[k]? = some a) : k < l.length := (List.getElem?_eq_some_iff.mp h).1
theorem set_same {α : Type} {l : List α} {k : Nat} {a : α} (h : l[k]? = some a) : l.set k a = l := by
  obtain ⟨h1, h2⟩ := List.getElem?_eq_some_iff.mp h
  rw [← h2, List.set_getElem_self]
theorem at_set {α : Type} {l : List α} {k : Nat} {a : α} (h : k < l.length) : (l.set k a)[k]? = some a := by rw [List.getElem?_set_self h]
@[irreducible] noncomputable def invW (va : AV) (σ : St) (Q : AV → St → Prop) : Prop := ∃ i, va = .at (.int i) ∧ Q (.at (.int (Pu.bN i))) σ
@[irreducible] noncomputable def negW (va : AV) (σ : St) (Q : AV → St → Prop) : Prop := ∃ i, va = .at (.int i) ∧ Q (.at (.int (-i))) σ
@[irreducible] noncomputable def cmpW (op : CmpOp) (va vb : AV) (X : Bool → Prop) : Prop := ∃ r, cmpV op va vb = some r ∧ X r
@[irreducible] noncomputable def truW (σ : St) (v : AV) (X : Bool → Prop) : Prop := ∃ r, truth σ v = some r ∧ X r
@[irreducible] noncomputable def putW (ρ : Py.Loc) (i : Nat) (v : AV) (X : Py.Loc → Prop) : Prop := X (ρ.set i (some v))
@[irreducible] noncomputable def putsW (ρ : Py.Loc) (is : List Nat) (l : List At) (X : Py.Loc → Prop) : Prop := X (setAll ρ is l)
@[irreducible] noncomputable def twoW (b : Bool) (A B : Prop) : Prop := (b = true → A) ∧ (b = false → B)
@[irreducible] noncomputable def satW (ρ : Py.Loc) (i f : Nat) (v : AV) (σ₁ : St) (X : St → Prop) : Prop := ∃ k fs, ρ[i]? = some (some (.ins k)) ∧ σ₁[k]? = some (.inst fs) ∧ f ≤ fs.length ∧ X (σ₁.set k (.inst (putF fs f v)))
@[irreducible] noncomputable def aatW (k f : Nat) (v : AV) (σ₁ : St) (X : St → Prop) : Prop := ∃ fs', σ₁[k]? = some (.inst fs') ∧ f ≤ fs'.length ∧ X (σ₁.set k (.inst (putF fs' f v)))
section
variable {C : Cfg} {S : Nat → Py.Spec} {ρ : Py.Loc} {σ : St} {n k j i f : Nat} {Q : AV → St → Prop} {QB : Bool → St → Prop} {QC : Fl → Py.Loc → St → Prop} {a b t : Tm} {r ca cb : Cs} {v : AV} {fs : List AV}
theorem c_i {a : At} (q : Q (.at a) σ) : xpT C S (.c a) ρ σ Q := by with_unfolding_all exact q
theorem s_i {x : Str} (q : Q (.str x) σ) : xpT C S (.s x) ρ σ Q := by with_unfolding_all exact q
theorem v_i (h : ρ[i]? = some (some v)) (q : Q v σ) : xpT C S (.v i) ρ σ Q := by with_unfolding_all exact ⟨v, h, q⟩
theorem fld_i (h1 : ρ[i]? = some (some (.ins k))) (h2 : σ[k]? = some (.inst fs)) (h3 : fs[f]? = some v) (q : Q v σ) : xpT C S (.fld i f) ρ σ Q := by with_unfolding_all exact ⟨k, fs, v, h1, h2, h3, q⟩
theorem cat_i {x : Str} (h1 : ρ[i]? = some (some (.ins k))) (h2 : σ[k]? = some (.inst fs)) (q : Q v σ) : xpT C S (.cat i x v) ρ σ Q := by with_unfolding_all exact ⟨k, fs, h1, h2, q⟩
theorem bm_i {x : Str} (h1 : ρ[i]? = some (some (.ins k))) (h2 : σ[k]? = some (.inst fs)) (q : Q (.meth f k) σ) : xpT C S (.bm i x f) ρ σ Q := by with_unfolding_all exact ⟨k, fs, h1, h2, q⟩
theorem bin_i {op : Operator} (q : xpT C S a ρ σ fun va σ₁ => xpT C S b ρ σ₁ fun vb σ₂ => xbin op va vb σ₂ Q) : xpT C S (.bin op a b) ρ σ Q := by with_unfolding_all exact q
theorem inv_k {i : Int} (q : Q (I (Pu.bN i)) σ) : invW (I i) σ Q := by with_unfolding_all exact ⟨i, rfl, q⟩
theorem neg_k {i : Int} (q : Q (I (-i)) σ) : negW (I i) σ Q := by unfold negW; exact ⟨i, rfl, q⟩
theorem inv_i (q : xpT C S a ρ σ fun va σ₁ => invW va σ₁ Q) : xpT C S (.inv a) ρ σ Q := by with_unfolding_all exact q
theorem neg_i (q : xpT C S a ρ σ fun va σ₁ => negW va σ₁ Q) : xpT C S (.neg a) ρ σ Q := by with_unfolding_all exact q
theorem bw_add {i j : Int} (q : Q (I (i + j)) σ) : xbin .Add (I i) (I j) σ Q := by with_unfolding_all exact ⟨trivial, q⟩
theorem bw_sub {i j : Int} (q : Q (I (i - j)) σ) : xbin .Sub (I i) (I j) σ Q := by with_unfolding_all exact ⟨trivial, q⟩
theorem bw_and {i j : Int} (q : Q (I (Pu.bA i j)) σ) : xbin .BitAnd (I i) (I j) σ Q := by with_unfolding_all exact ⟨trivial, q⟩
theorem bw_and255 {i : Int} (q : Q (I (i % 256)) σ) : xbin .BitAnd (I i) (I 255) σ Q := by unfold xbin; exact ⟨trivial, by rw [show binV .BitAnd i 255 = Builtin.bitAnd i 255 from rfl, PyProof.Rows.bitAnd_m8]; exact q⟩
theorem bw_and16 {i : Int} (q : Q (I (i % 65536)) σ) : xbin .BitAnd (I i) (I 65535) σ Q := by unfold xbin; exact ⟨trivial, by rw [show binV .BitAnd i 65535 = Builtin.bitAnd i 65535 from rfl, PyProof.Rows.bitAnd_m16]; exact q⟩
theorem bw_or {i j : Int} (q : Q (I (Pu.bO i j)) σ) : xbin .BitOr (I i) (I j) σ Q := by with_unfolding_all exact ⟨trivial, q⟩
theorem bw_xor {i j : Int} (q : Q (I (Pu.bX i j)) σ) : xbin .BitXor (I i) (I j) σ Q := by with_unfolding_all exact ⟨trivial, q⟩
theorem bw_div {i j : Int} (h : 0 < j ∧ j < 1073741824) (q : Q (I (i / j)) σ) : xbin .FloorDiv (I i) (I j) σ Q := by unfold xbin; exact ⟨⟨by lia, by lia⟩, by
  show Q (I (i.fdiv j)) σ
  rw [Int.fdiv_eq_ediv_of_nonneg _ (by lia)]; exact q⟩
theorem bw_mod {i j : Int} (h : 0 < j) (q : Q (I (i % j)) σ) : xbin .Mod (I i) (I j) σ Q := by unfold xbin; exact ⟨by show j ≠ 0; lia, by
  show Q (I (i.fmod j)) σ
  rw [Int.fmod_eq_emod_of_nonneg _ (by lia)]; exact q⟩
theorem idx_i (q : xpT C S a ρ σ fun va σ₁ => xpT C S b ρ σ₁ fun vb σ₂ => xidx C va vb σ₂ Q) : xpT C S (.idx a b) ρ σ Q := by with_unfolding_all exact q
theorem iw_lst {xs : List AV} {i : Int} (h1 : σ[j]? = some (.list xs)) (h2 : idxL xs i = some v) (q : Q v σ) : xidx C (.lst j) (I i) σ Q := by unfold xidx; exact ⟨xs, v, h1, h2, q⟩
theorem iw_kl {i : Int} (h2 : idxL (C.klv j) i = some v) (q : Q v σ) : xidx C (.kl j) (I i) σ Q := by unfold xidx; exact ⟨v, h2, q⟩
theorem cmp_i {op : CmpOp} (q : xpT C S a ρ σ fun va σ₁ => xpT C S b ρ σ₁ fun vb σ₂ => cmpW op va vb fun r => Q (.at (.bool r)) σ₂) : xpT C S (.cmp op a b) ρ σ Q := by with_unfolding_all exact q
theorem cmpB_i {op : CmpOp} (q : xpT C S a ρ σ fun va σ₁ => xpT C S b ρ σ₁ fun vb σ₂ => cmpW op va vb fun r => QB r σ₂) : xpB C S (.cmp op a b) ρ σ QB := by with_unfolding_all exact q
theorem binB_i {op : Operator} (q : xpT C S a ρ σ fun va σ₁ => xpT C S b ρ σ₁ fun vb σ₂ => xbin op va vb σ₂ fun v σ₃ => truW σ₃ v fun r => QB r σ₃) : xpB C S (.bin op a b) ρ σ QB := by with_unfolding_all exact q
theorem ite_i (q : xpB C S t ρ σ fun r σ₁ => twoW r (xpT C S a ρ σ₁ Q) (xpT C S b ρ σ₁ Q)) : xpT C S (.ite t a b) ρ σ Q := by with_unfolding_all exact q
theorem ck_gt {X : Bool → Prop} {i j : Int} (q : X (decide (i > j))) : cmpW .Gt (I i) (I j) X := by unfold cmpW; exact ⟨_, rfl, q⟩
theorem ck_lt {X : Bool → Prop} {i j : Int} (q : X (decide (i < j))) : cmpW .Lt (I i) (I j) X := by unfold cmpW; exact ⟨_, rfl, q⟩
theorem ck_eq {X : Bool → Prop} {i j : Int} (q : X (decide (i = j))) : cmpW .Eq (I i) (I j) X := by unfold cmpW; exact ⟨_, rfl, by rwa [show (i == j) = decide (i = j) from rfl]⟩
theorem tk_int {X : Bool → Prop} {i : Int} (q : X (decide (i ≠ 0))) : truW σ (I i) X := by unfold truW; exact ⟨_, rfl, by
  have : (i != 0) = decide (i ≠ 0) := by by_cases h : i = 0 <;> simp [h]
  rwa [this]⟩
theorem tk_bool {X : Bool → Prop} {b : Bool} (q : X b) : truW σ (.at (.bool b)) X := by unfold truW; exact ⟨_, rfl, q⟩
theorem br {p : Prop} [Decidable p] {A B : Prop} (h1 : p → A) (h2 : ¬ p → B) : twoW (decide p) A B := by unfold twoW; exact ⟨fun h => h1 (of_decide_eq_true h), fun h => h2 (of_decide_eq_false h)⟩
theorem nilT {Q : List AV → St → Prop} (q : Q [] σ) : xpTs C S .nil ρ σ Q := by with_unfolding_all exact q
theorem consT {Q : List AV → St → Prop} {r : Ts} (q : xpT C S t ρ σ fun v σ₁ => xpTs C S r ρ σ₁ fun vs σ₂ => Q (v :: vs) σ₂) : xpTs C S (.cons t r) ρ σ Q := by with_unfolding_all exact q
theorem mc_i {x : Str} {as : Ts} (h1 : ρ[i]? = some (some (.ins k))) (h2 : σ[k]? = some (.inst fs)) (q : xpTs C S as ρ σ fun vs σ₁ => S f (.ins k :: vs) σ₁ Q) : xpT C S (.mc i x f as) ρ σ Q := by with_unfolding_all exact ⟨k, fs, h1, h2, q⟩
theorem gc_i {x : Str} {as : Ts} (q : xpTs C S as ρ σ fun vs σ₁ => S f vs σ₁ Q) : xpT C S (.gc x f as) ρ σ Q := by with_unfolding_all exact q
theorem gcB_i {x : Str} {as : Ts} (q : xpTs C S as ρ σ fun vs σ₁ => S f vs σ₁ fun v σ₃ => truW σ₃ v fun r => QB r σ₃) : xpB C S (.gc x f as) ρ σ QB := by with_unfolding_all exact q
theorem vc_i {as : Ts} (h : ρ[i]? = some (some v)) (q : xpTs C S as ρ σ fun vs σ₁ => xcall S v vs σ₁ Q) : xpT C S (.vc i as) ρ σ Q := by with_unfolding_all exact ⟨_, h, q⟩
theorem cw_meth {vs : List AV} (hf : f < 300) (q : S f (.ins k :: vs) σ Q) : xcall S (.meth f k) vs σ Q := by unfold xcall; exact ⟨hf, q⟩
theorem tc_i {as : Ts} (q : xpT C S t ρ σ fun v σ₁ => xpTs C S as ρ σ₁ fun vs σ₂ => xcall S v vs σ₂ Q) : xpT C S (.tc t as) ρ σ Q := by with_unfolding_all exact q
theorem cw_fn {vs : List AV} (hf : f < 300) (q : S f vs σ Q) : xcall S (.fn f) vs σ Q := by unfold xcall; exact ⟨hf, q⟩
theorem asg_c (q : xpT C S t ρ σ fun v σ₁ => putW ρ i v fun ρ' => xpCs C S r ρ' σ₁ QC) : xpCs C S (.cons (.asg i t) r) ρ σ QC := by with_unfolding_all exact q
theorem aug_c {op : Operator} (h : ρ[i]? = some (some v)) (q : xpT C S t ρ σ fun u σ₁ => xint op v u fun w => putW ρ i w fun ρ' => xpCs C S r ρ' σ₁ QC) : xpCs C S (.cons (.aug i op t) r) ρ σ QC := by with_unfolding_all exact ⟨v, h, q⟩
theorem pl {X : Py.Loc → Prop} {ρ' : Py.Loc} (h : ρ.set i (some v) = ρ') (q : X ρ') : putW ρ i v X := by unfold putW; rw [h]; exact q
theorem pls {X : Py.Loc → Prop} {is : List Nat} {l : List At} {ρ' : Py.Loc} (h : setAll ρ is l = ρ') (q : X ρ') : putsW ρ is l X := by unfold putsW; rw [h]; exact q
theorem start {args : List AV} {m : Nat} {ρ' : Py.Loc} {cs : Cs} (h : args0 args m = ρ') (q : xpCs C S cs ρ' σ QC) : wpCs C S cs (args0 args m) σ QC := by rw [h]; with_unfolding_all exact q
theorem iw_add {X : AV → Prop} {i j : Int} (q : X (I (i + j))) : xint .Add (I i) (I j) X := by with_unfolding_all exact ⟨trivial, q⟩
theorem iw_and {X : AV → Prop} {i j : Int} (q : X (I (Pu.bA i j))) : xint .BitAnd (I i) (I j) X := by with_unfolding_all exact ⟨trivial, q⟩
theorem iw_and255 {X : AV → Prop} {i : Int} (q : X (I (i % 256))) : xint .BitAnd (I i) (I 255) X := by unfold xint; exact ⟨trivial, by rw [show binV .BitAnd i 255 = Builtin.bitAnd i 255 from rfl, PyProof.Rows.bitAnd_m8]; exact q⟩
theorem iw_and16 {X : AV → Prop} {i : Int} (q : X (I (i % 65536))) : xint .BitAnd (I i) (I 65535) X := by unfold xint; exact ⟨trivial, by rw [show binV .BitAnd i 65535 = Builtin.bitAnd i 65535 from rfl, PyProof.Rows.bitAnd_m16]; exact q⟩
theorem iw_or {X : AV → Prop} {i j : Int} (q : X (I (Pu.bO i j))) : xint .BitOr (I i) (I j) X := by with_unfolding_all exact ⟨trivial, q⟩
theorem ifc_c (q : xpB C S t ρ σ fun b σ₁ => twoW b (xpCs C S ca ρ σ₁ (seqK C S r QC)) (xpCs C S cb ρ σ₁ (seqK C S r QC))) : xpCs C S (.cons (.ifc t ca cb) r) ρ σ QC := by with_unfolding_all exact q
theorem nilK (q : xpCs C S r ρ σ QC) : xpCs C S .nil ρ σ (seqK C S r QC) := by with_unfolding_all exact q
theorem nilR (q : Q (.at .none) σ) : xpCs C S .nil ρ σ (retPost Q) := by with_unfolding_all exact q
theorem ret_c (q : xpT C S t ρ σ Q) : xpCs C S (.cons (.ret t) r) ρ σ (retPost Q) := by with_unfolding_all exact q
theorem ex_c (q : xpT C S t ρ σ fun _ σ₁ => xpCs C S r ρ σ₁ QC) : xpCs C S (.cons (.ex t) r) ρ σ QC := by with_unfolding_all exact q
theorem sat_c (q : xpT C S t ρ σ fun v σ₁ => satW ρ i f v σ₁ fun σ₂ => xpCs C S r ρ σ₂ QC) : xpCs C S (.cons (.sat i f t) r) ρ σ QC := by with_unfolding_all exact q
theorem aat_c {op : Operator} (h1 : ρ[i]? = some (some (.ins k))) (h2 : σ[k]? = some (.inst fs)) (h3 : fs[f]? = some v) (q : xpT C S t ρ σ fun u σ₁ => xint op v u fun w => aatW k f w σ₁ fun σ₂ => xpCs C S r ρ σ₂ QC) : xpCs C S (.cons (.aat i f op t) r) ρ σ QC := by with_unfolding_all exact ⟨k, fs, v, h1, h2, h3, q⟩
theorem seqn {ρ : Py.Loc} (q : xpCs C S r ρ σ QC) : seqK C S r QC .next ρ σ := q
theorem nilN (q : QC .next ρ σ) : xpCs C S .nil ρ σ QC := by with_unfolding_all exact q
theorem bw_shl8 {i : Int} (h : i.natAbs < 2 ^ 64) (q : Q (I (i * 256)) σ) : xbin .LShift (I i) (I 8) σ Q := by unfold xbin; exact ⟨⟨by decide, by decide, h⟩, q⟩
theorem bw_shr8 {i : Int} (q : Q (I (i / 256)) σ) : xbin .RShift (I i) (I 8) σ Q := by unfold xbin; exact ⟨by show (0 : Int) ≤ 8; decide, by
  show Q (I (i.fdiv (2 ^ 8))) σ
  rw [Int.fdiv_eq_ediv_of_nonneg _ (by decide)]; exact q⟩
theorem ret_k {r' : Cs} (q : xpT C S t ρ σ Q) : xpCs C S (.cons (.ret t) r) ρ σ (seqK C S r' (retPost Q)) := by with_unfolding_all exact q
theorem ck_ne {X : Bool → Prop} {i j : Int} (q : X (decide (i ≠ j))) : cmpW .NotEq (I i) (I j) X := by unfold cmpW; exact ⟨_, rfl, by
  have : (i != j) = decide (i ≠ j) := by by_cases h : i = j <;> simp [h]
  rwa [this]⟩
theorem ck_is {X : Bool → Prop} (q : X (isNone v)) : cmpW .Is v (.at .none) X := by unfold cmpW; exact ⟨_, rfl, q⟩
theorem ck_isn {X : Bool → Prop} (q : X (!isNone v)) : cmpW .IsNot v (.at .none) X := by unfold cmpW; exact ⟨_, rfl, q⟩
theorem tw_f {A B : Prop} (q : B) : twoW false A B := by unfold twoW; exact ⟨fun h => (by cases h), fun _ => q⟩
theorem tw_t {A B : Prop} (q : A) : twoW true A B := by unfold twoW; exact ⟨fun _ => q, fun h => by cases h⟩
theorem tw_b {b : Bool} {A B : Prop} (h1 : b = true → A) (h2 : b = false → B) : twoW b A B := by unfold twoW; exact ⟨h1, h2⟩
theorem iw_sub {X : AV → Prop} {i j : Int} (q : X (I (i - j))) : xint .Sub (I i) (I j) X := by with_unfolding_all exact ⟨trivial, q⟩
theorem fldB_i (h1 : ρ[i]? = some (some (.ins k))) (h2 : σ[k]? = some (.inst fs)) (h3 : fs[f]? = some v) (q : truW σ v fun r => QB r σ) : xpB C S (.fld i f) ρ σ QB := by with_unfolding_all exact ⟨k, fs, v, h1, h2, h3, q⟩
theorem vB_i (h : ρ[i]? = some (some v)) (q : truW σ v fun r => QB r σ) : xpB C S (.v i) ρ σ QB := by with_unfolding_all exact ⟨v, h, q⟩
@[irreducible] noncomputable def sixW (v va vb : AV) (σ : St) (X : St → Prop) : Prop := ∃ k xs i, va = .lst k ∧ vb = .at (.int i) ∧ σ[k]? = some (.list xs) ∧ 0 ≤ i ∧ i < xs.length ∧ i < 2 ^ 63 ∧ X (σ.set k (.list (xs.set i.toNat v)))
theorem six_c (q : xpT C S t ρ σ fun v σ₁ => xpT C S a ρ σ₁ fun va σ₂ => xpT C S b ρ σ₂ fun vb σ₃ => sixW v va vb σ₃ fun σ₄ => xpCs C S r ρ σ₄ QC) : xpCs C S (.cons (.six a b t) r) ρ σ QC := by with_unfolding_all exact q
end
noncomputable def mem (f : Int → Int) : List AV := (List.range 65536).map fun (n : Nat) => I (f n)
noncomputable def upd (f : Int → Int) (i v : Int) : Int → Int := fun z => if z = i then v else f z
theorem mem_len {f : Int → Int} : (mem f).length = 65536 := by unfold mem; simp
theorem mem_at {f : Int → Int} {n : Nat} (h : n < 65536) : (mem f)[n]? = some (I (f n)) := by unfold mem; rw [List.getElem?_map, List.getElem?_range h]; rfl
theorem mem_get {f : Int → Int} {i : Int} (h0 : 0 ≤ i) (h1 : i < 65536) : idxL (mem f) i = some (I (f i)) := by
  unfold idxL
  rw [if_pos ⟨h0, by lia⟩, mem_at (by lia), Int.toNat_of_nonneg h0]
theorem mem_set {f : Int → Int} {i v : Int} (h0 : 0 ≤ i) (h1 : i < 65536) : (mem f).set i.toNat (I v) = mem (upd f i v) := by
  apply List.ext_getElem?
  intro n
  by_cases hn : n < 65536
  · rw [mem_at hn]
    by_cases e : i.toNat = n
    · subst e
      rw [List.getElem?_set_self (by rw [mem_len]; lia)]
      unfold upd; rw [if_pos (by lia)]
    · rw [List.getElem?_set_ne e, mem_at hn]
      unfold upd; rw [if_neg (by lia)]
  · rw [List.getElem?_eq_none (by rw [List.length_set, mem_len]; lia), List.getElem?_eq_none (by rw [mem_len]; lia)]
noncomputable def W (σ : St) (k j : Nat) (fs xs : List AV) : St := (σ.set k (.inst fs)).set j (.list xs)
structure Mk (σ : St) (k j : Nat) : Prop where
  lk : k < σ.length
  lj : j < σ.length
  ne : j ≠ k
section
variable {C : Cfg} {S : Nat → Py.Spec} {ρ : Py.Loc} {σ : St} {n k j i f : Nat} {Q : AV → St → Prop} {QB : Bool → St → Prop} {QC : Fl → Py.Loc → St → Prop} {a b t : Tm} {r ca cb : Cs} {v : AV} {fs fs' xs : List AV} {g : Int → Int}
theorem W_k (m : Mk σ k j) : (W σ k j fs xs)[k]? = some (.inst fs) := by unfold W; rw [List.getElem?_set_ne m.ne, List.getElem?_set_self m.lk]
theorem W_j (m : Mk σ k j) : (W σ k j fs xs)[j]? = some (.list xs) := by unfold W; rw [List.getElem?_set_self (by rw [List.length_set]; exact m.lj)]
theorem W_setk (m : Mk σ k j) : (W σ k j fs xs).set k (.inst fs') = W σ k j fs' xs := by
  unfold W
  rw [List.set_comm _ _ m.ne, List.set_set]
theorem W_setj {ys : List AV} : (W σ k j fs xs).set j (.list ys) = W σ k j fs ys := by unfold W; rw [List.set_set]
theorem fld_w (m : Mk σ k j) (h1 : ρ[i]? = some (some (.ins k))) (h3 : fs[f]? = some v) (q : Q v (W σ k j fs xs)) : xpT C S (.fld i f) ρ (W σ k j fs xs) Q := fld_i h1 (W_k m) h3 q
theorem sat_w (m : Mk σ k j) {X : St → Prop} (h1 : ρ[i]? = some (some (.ins k))) (h3 : f ≤ fs.length) (h4 : putF fs f v = fs') (q : X (W σ k j fs' xs)) : satW ρ i f v (W σ k j fs xs) X := by with_unfolding_all exact
  ⟨k, fs, h1, W_k m, h3, by rw [W_setk m, h4]; exact q⟩
theorem aat_w (m : Mk σ k j) {X : St → Prop} (h3 : f ≤ fs.length) (h4 : putF fs f v = fs') (q : X (W σ k j fs' xs)) : aatW k f v (W σ k j fs xs) X := by with_unfolding_all exact
  ⟨fs, W_k m, h3, by rw [W_setk m, h4]; exact q⟩
theorem six_w (m : Mk σ k j) {X : St → Prop} {i v : Int} (h0 : 0 ≤ i) (h1 : i < 65536) (q : X (W σ k j fs (mem (upd g i v)))) : sixW (I v) (.lst j) (I i) (W σ k j fs (mem g)) X := by unfold sixW; exact
  ⟨j, _, i, rfl, rfl, W_j m, h0, by rw [mem_len]; lia, by lia, by rw [W_setj, mem_set h0 h1]; exact q⟩
theorem idx_w (m : Mk σ k j) {i : Int} (h0 : 0 ≤ i) (h1 : i < 65536) (q : Q (I (g i)) (W σ k j fs (mem g))) : xidx C (.lst j) (I i) (W σ k j fs (mem g)) Q := iw_lst (W_j m) (mem_get h0 h1) q
end
end Mine.Mp
end
section
open PySem PySem.W
namespace Mine.Mp
open Mine.Hd Mine.Py Mine.Pu
section
variable {C : Cfg} {S : Nat → Py.Spec} {ρ : Py.Loc} {σ : St} {k i j : Nat} {Q : AV → St → Prop} {QC : Fl → Py.Loc → St → Prop} {r : Cs} {v : AV} {vs : List AV} {t : Tm}
theorem lam_c (h : ρ[j]? = some (some (.ins k))) (q : putW ρ i (.clo k) fun ρ' => xpCs C S r ρ' σ QC) : xpCs C S (.cons (.lam i j) r) ρ σ QC := by with_unfolding_all exact ⟨k, h, q⟩
theorem cw_clo (q : S 400 (.ins k :: vs) σ Q) : xcall S (.clo k) vs σ Q := by unfold xcall; exact q
theorem xpT_w (q : xpT C S t ρ σ Q) : wpT C S t ρ σ Q := by with_unfolding_all exact q
end
noncomputable def AddrOk (C : Cfg) (n g : Nat) (σ : St) (k j : Nat) (fs xs : List AV) (i : Int) : Prop := ∀ Q : AV → St → Prop, Q (I i) (W σ k j fs xs) → Sp C n g [.ins k] (W σ k j fs xs) Q
section
variable {C : Cfg} {σ : St} {n k j : Nat} {Q : AV → St → Prop} (m : Mk σ k j) {exc add cyc : AV} {pc sp a x y p i : Int} {f : Int → Int}
include m
theorem sp_ByteAt (h0 : 0 ≤ i) (h1 : i < 65536) (q : Q (I (f i)) (W σ k j (mfs exc add cyc j pc sp a x y p) (mem f))) : Sp C (n + 1) 4 [.ins k, I i] (W σ k j (mfs exc add cyc j pc sp a x y p) (mem f)) Q := by
  refine ⟨rfl, ?_⟩
  unfold ir_ByteAt
  refine start (ρ' := [_, _]) rfl ?_
  repeat (first | refine v_i rfl ?_ | refine fld_w m rfl rfl ?_ | refine idx_i ?_ | refine ret_c ?_)
  exact idx_w m h0 h1 q
theorem sp_WordAt (h0 : 0 ≤ i) (h1 : i < 65535) (ho : 0 ≤ f (i + 1) ∧ f (i + 1) < 256) (q : Q (I (f i + f (i + 1) * 256)) (W σ k j (mfs exc add cyc j pc sp a x y p) (mem f))) : Sp C (n + 2) 5 [.ins k, I i] (W σ k j (mfs exc add cyc j pc sp a x y p) (mem f)) Q := by
  refine ⟨rfl, ?_⟩
  unfold ir_WordAt
  refine start (ρ' := [_, _]) rfl ?_
  repeat (first | refine v_i rfl ?_ | refine bin_i ?_ | refine nilT ?_ | refine consT ?_ | refine mc_i rfl (W_k m) ?_ | refine ret_c ?_)
  refine sp_ByteAt m h0 (by lia) ?_
  repeat (first | refine c_i ?_ | refine v_i rfl ?_ | refine bin_i ?_ | refine bw_add ?_ | refine nilT ?_ | refine consT ?_ | refine mc_i rfl (W_k m) ?_)
  refine sp_ByteAt m (by lia) (by lia) ?_
  repeat (first | refine cat_i rfl (W_k m) ?_ | refine bw_add ?_ | refine bw_shl8 (by lia) ?_)
  exact q
theorem sp_lambda {b : Int} (q : Q (I (bA b 65280 + (b + 1) % 256)) (W σ k j (mfs exc add cyc j pc sp a x y p) (mem f))) : Sp C (n + 1) 400 [.ins k, I b] (W σ k j (mfs exc add cyc j pc sp a x y p) (mem f)) Q := by
  rw [tb_none (f := 400) (by kernel_rfl), if_neg (by decide), if_pos rfl]
  refine ⟨k, _, rfl, xpT_w ?_⟩
  unfold ir_lam
  repeat (first | refine c_i ?_ | refine v_i rfl ?_ | refine fld_w m rfl rfl ?_ | refine bin_i ?_ | refine bw_add ?_ | refine bw_and255 ?_ | refine bw_and ?_)
  exact q
theorem sp_WrapAt (h0 : 0 ≤ i) (h1 : i < 65536) (ho : 0 ≤ f (i / 256 * 256 + (i + 1) % 256) ∧ f (i / 256 * 256 + (i + 1) % 256) < 256) (q : Q (I (f i + f (i / 256 * 256 + (i + 1) % 256) * 256)) (W σ k j (mfs exc add cyc j pc sp a x y p) (mem f))) : Sp C (n + 2) 6 [.ins k, I i] (W σ k j (mfs exc add cyc j pc sp a x y p) (mem f)) Q := by
  refine ⟨rfl, ?_⟩
  unfold ir_WrapAt
  refine start (ρ' := [_, _, _]) rfl ?_
  refine lam_c rfl ?_
  repeat (first | refine v_i rfl ?_ | refine bin_i ?_ | refine nilT ?_ | refine consT ?_ | refine mc_i rfl (W_k m) ?_ | refine ret_c ?_ | (first | refine pl (ρ' := [_, _, _]) rfl ?_ | refine pls (ρ' := [_, _, _]) rfl ?_))
  refine sp_ByteAt m h0 h1 ?_
  repeat (first | refine v_i rfl ?_ | refine bin_i ?_ | refine nilT ?_ | refine consT ?_ | refine mc_i rfl (W_k m) ?_ | refine vc_i rfl ?_)
  refine cw_clo (sp_lambda m ?_)
  repeat (refine nilT ?_)
  rw [bA_hi, show i / 256 % 256 * 256 = i / 256 * 256 by lia]
  refine sp_ByteAt m (by lia) (by lia) ?_
  repeat (first | refine cat_i rfl (W_k m) ?_ | refine bw_add ?_ | refine bw_shl8 (by lia) ?_)
  exact q
theorem sp_PC : AddrOk C (n + 1) 7 σ k j (mfs exc add cyc j pc sp a x y p) (mem f) pc := fun Q q => by
  refine ⟨rfl, ?_⟩
  unfold ir_ProgramCounter
  refine start (ρ' := [_]) rfl ?_
  repeat (first | refine fld_w m rfl rfl ?_ | refine ret_c ?_)
  exact q
theorem sp_Imm (h0 : 0 ≤ pc) (h1 : pc < 65536) : AddrOk C (n + 2) 8 σ k j (mfs exc add cyc j pc sp a x y p) (mem f) (f pc) := fun Q q => by
  refine ⟨rfl, ?_⟩
  unfold ir_ImmediateByte
  refine start (ρ' := [_]) rfl ?_
  repeat (first | refine fld_w m rfl rfl ?_ | refine nilT ?_ | refine consT ?_ | refine mc_i rfl (W_k m) ?_ | refine ret_c ?_)
  refine sp_ByteAt m h0 h1 ?_
  repeat (fail)
  exact q
theorem sp_Zero (h0 : 0 ≤ pc) (h1 : pc < 65536) : AddrOk C (n + 2) 9 σ k j (mfs exc add cyc j pc sp a x y p) (mem f) (f pc) := fun Q q => by
  refine ⟨rfl, ?_⟩
  unfold ir_ZeroPageAddr
  refine start (ρ' := [_]) rfl ?_
  repeat (first | refine fld_w m rfl rfl ?_ | refine nilT ?_ | refine consT ?_ | refine mc_i rfl (W_k m) ?_ | refine ret_c ?_)
  refine sp_ByteAt m h0 h1 ?_
  repeat (fail)
  exact q
theorem sp_AbsX (h0 : 0 ≤ pc) (h1 : pc < 65535) (ho : 0 ≤ f (pc + 1) ∧ f (pc + 1) < 256) : AddrOk C (n + 3) 15 σ k j (mfs exc (I 0) cyc j pc sp a x y p) (mem f) ((f pc + f (pc + 1) * 256 + x) % 65536) := fun Q q => by
  refine ⟨rfl, ?_⟩
  unfold ir_AbsoluteXAddr
  refine start (ρ' := [_, _, _]) rfl ?_
  repeat (first | refine fld_w m rfl rfl ?_ | refine bin_i ?_ | refine fldB_i rfl (W_k m) rfl ?_ | refine tw_f ?_ | refine tk_int ?_ | refine nilT ?_ | refine consT ?_ | refine mc_i rfl (W_k m) ?_ | refine ifc_c ?_ | refine ret_k ?_)
  refine sp_WordAt m h0 h1 ho ?_
  repeat (first | refine fld_w m rfl rfl ?_ | refine bw_add ?_ | refine bw_and16 ?_)
  exact q
theorem sp_AbsY (h0 : 0 ≤ pc) (h1 : pc < 65535) (ho : 0 ≤ f (pc + 1) ∧ f (pc + 1) < 256) : AddrOk C (n + 3) 16 σ k j (mfs exc (I 0) cyc j pc sp a x y p) (mem f) ((f pc + f (pc + 1) * 256 + y) % 65536) := fun Q q => by
  refine ⟨rfl, ?_⟩
  unfold ir_AbsoluteYAddr
  refine start (ρ' := [_, _, _]) rfl ?_
  repeat (first | refine fld_w m rfl rfl ?_ | refine bin_i ?_ | refine fldB_i rfl (W_k m) rfl ?_ | refine tw_f ?_ | refine tk_int ?_ | refine nilT ?_ | refine consT ?_ | refine mc_i rfl (W_k m) ?_ | refine ifc_c ?_ | refine ret_k ?_)
  refine sp_WordAt m h0 h1 ho ?_
  repeat (first | refine fld_w m rfl rfl ?_ | refine bw_add ?_ | refine bw_and16 ?_)
  exact q
theorem sp_IndY {z : Int} (h0 : 0 ≤ pc) (h1 : pc < 65536) (hz : f pc = z) (h2 : 0 ≤ z) (h3 : z < 256) (ho : 0 ≤ f ((z + 1) % 256) ∧ f ((z + 1) % 256) < 256) : AddrOk C (n + 3) 13 σ k j (mfs exc (I 0) cyc j pc sp a x y p) (mem f) ((f z + f ((z + 1) % 256) * 256 + y) % 65536) := fun Q q => by
  refine ⟨rfl, ?_⟩
  unfold ir_IndirectYAddr
  refine start (ρ' := [_, _, _]) rfl ?_
  repeat (first | refine fld_w m rfl rfl ?_ | refine bin_i ?_ | refine fldB_i rfl (W_k m) rfl ?_ | refine tw_f ?_ | refine tk_int ?_ | refine nilT ?_ | refine consT ?_ | refine mc_i rfl (W_k m) ?_ | refine ifc_c ?_ | refine ret_k ?_)
  refine sp_ByteAt m h0 h1 ?_
  repeat (refine nilT ?_)
  have e : z / 256 * 256 + (z + 1) % 256 = (z + 1) % 256 := by lia
  rw [hz]
  refine sp_WrapAt m h2 (by lia) (by rw [e]; exact ho) ?_
  repeat (first | refine fld_w m rfl rfl ?_ | refine bw_add ?_ | refine bw_and16 ?_)
  rw [e]; exact q
theorem sp_push {z : Int} (h0 : 0 ≤ sp) (h1 : sp < 256) (q : Q (.at .none) (W σ k j (mfs exc add cyc j pc ((sp - 1) % 256) a x y p) (mem (upd f (sp + 256) (z % 256))))) : Sp C (n + 1) 18 [.ins k, I z] (W σ k j (mfs exc add cyc j pc sp a x y p) (mem f)) Q := by
  refine ⟨rfl, ?_⟩
  unfold ir_stPush
  refine start (ρ' := [_, _]) rfl ?_
  repeat (first | refine v_i rfl ?_ | refine fld_w m rfl rfl ?_ | refine bin_i ?_ | refine bw_add ?_ | refine bw_and255 ?_ | refine six_c ?_)
  refine six_w m (by lia) (by lia) ?_
  repeat (first | refine c_i ?_ | refine fld_w m rfl rfl ?_ | refine iw_sub ?_ | refine iw_and255 ?_ | refine nilR ?_ | refine aat_c rfl (W_k m) rfl ?_ | (refine aat_w (fs' := mfs _ _ _ _ _ _ _ _ _ _) m (ble rfl) rfl ?_))
  exact q
theorem sp_pop (q : Q (I (f ((sp + 1) % 256 + 256))) (W σ k j (mfs exc add cyc j pc ((sp + 1) % 256) a x y p) (mem f))) : Sp C (n + 2) 19 [.ins k] (W σ k j (mfs exc add cyc j pc sp a x y p) (mem f)) Q := by
  refine ⟨rfl, ?_⟩
  unfold ir_stPop
  refine start (ρ' := [_]) rfl ?_
  repeat (first | refine c_i ?_ | refine fld_w m rfl rfl ?_ | refine bin_i ?_ | refine bw_add ?_ | refine nilT ?_ | refine consT ?_ | refine mc_i rfl (W_k m) ?_ | refine iw_add ?_ | refine iw_and255 ?_ | refine ret_c ?_ | refine aat_c rfl (W_k m) rfl ?_ | (refine aat_w (fs' := mfs _ _ _ _ _ _ _ _ _ _) m (ble rfl) rfl ?_))
  refine sp_ByteAt m (by lia) (by lia) ?_
  repeat (fail)
  exact q
theorem sp_pushW {z : Int} (h0 : 0 ≤ sp) (h1 : sp < 256) (hz : 0 ≤ z) (hz' : z < 65536) (q : Q (.at .none) (W σ k j (mfs exc add cyc j pc ((sp - 2) % 256) a x y p) (mem (upd (upd f (sp + 256) (z / 256)) ((sp - 1) % 256 + 256) (z % 256))))) : Sp C (n + 2) 20 [.ins k, I z] (W σ k j (mfs exc add cyc j pc sp a x y p) (mem f)) Q := by
  refine ⟨rfl, ?_⟩
  unfold ir_stPushWord
  refine start (ρ' := [_, _]) rfl ?_
  repeat (first | refine v_i rfl ?_ | refine fld_w m rfl rfl ?_ | refine cat_i rfl (W_k m) ?_ | refine bin_i ?_ | refine bw_and255 ?_ | refine bw_shr8 ?_ | refine nilT ?_ | refine consT ?_ | refine mc_i rfl (W_k m) ?_ | refine ex_c ?_)
  refine sp_push m h0 h1 ?_
  repeat (first | refine v_i rfl ?_ | refine fld_w m rfl rfl ?_ | refine bin_i ?_ | refine bw_and255 ?_ | refine nilT ?_ | refine consT ?_ | refine mc_i rfl (W_k m) ?_ | refine ex_c ?_)
  refine sp_push m (by lia) (by lia) ?_
  repeat (refine nilR ?_)
  rw [show z / 256 % 256 % 256 = z / 256 by lia, show z % 256 % 256 = z % 256 by lia, show ((sp - 1) % 256 - 1) % 256 = (sp - 2) % 256 by lia]
  exact q
theorem sp_popW (h : 0 ≤ f ((sp + 2) % 256 + 256) ∧ f ((sp + 2) % 256 + 256) < 256) (q : Q (I (f ((sp + 1) % 256 + 256) + f ((sp + 2) % 256 + 256) * 256)) (W σ k j (mfs exc add cyc j pc ((sp + 2) % 256) a x y p) (mem f))) : Sp C (n + 3) 21 [.ins k] (W σ k j (mfs exc add cyc j pc sp a x y p) (mem f)) Q := by
  refine ⟨rfl, ?_⟩
  unfold ir_stPopWord
  refine start (ρ' := [_, _]) rfl ?_
  repeat (first | refine nilT ?_ | refine mc_i rfl (W_k m) ?_ | refine asg_c ?_)
  refine sp_pop m ?_
  repeat (first | refine bin_i ?_ | refine nilT ?_ | refine mc_i rfl (W_k m) ?_ | refine aug_c rfl ?_ | (first | refine pl (ρ' := [_, _]) rfl ?_ | refine pls (ρ' := [_, _]) rfl ?_))
  refine sp_pop m ?_
  have e : ((sp + 1) % 256 + 1) % 256 = (sp + 2) % 256 := by lia
  rw [e]
  repeat (first | refine v_i rfl ?_ | refine cat_i rfl (W_k m) ?_ | refine bw_shl8 (by lia) ?_ | refine iw_add ?_ | refine ret_c ?_ | (first | refine pl (ρ' := [_, _]) rfl ?_ | refine pls (ρ' := [_, _]) rfl ?_))
  exact q
variable {c z i d v nn : Bool}
theorem sp_NZ {o : Int} (ho : 0 ≤ o ∧ o < 256) (q : Q (.at .none) (W σ k j (mfs exc add cyc j pc sp a x y (fg c (decide (o = 0)) i d v (decide (128 ≤ o)))) (mem f))) : Sp C (n + 1) 22 [.ins k, I o] (W σ k j (mfs exc add cyc j pc sp a x y (fg c z i d v nn)) (mem f)) Q := by
  refine ⟨rfl, ?_⟩
  unfold ir_FlagsNZ
  refine start (ρ' := [_, _]) rfl ?_
  repeat (first | refine c_i ?_ | refine v_i rfl ?_ | refine cat_i rfl (W_k m) ?_ | refine bin_i ?_ | refine inv_i ?_ | refine inv_k ?_ | refine bw_or ?_ | refine cmpB_i ?_ | refine ck_eq ?_ | refine iw_and ?_ | refine ifc_c ?_ | refine aat_c rfl (W_k m) rfl ?_ | (refine aat_w (fs' := mfs _ _ _ _ _ _ _ _ _ _) m (ble rfl) rfl ?_))
  rw [← fg_set (z := z) (n := nn) ho] at q
  rw [k130]
  refine br (fun h => ?_) (fun h => ?_) <;> repeat (first | refine v_i rfl ?_ | refine cat_i rfl (W_k m) ?_ | refine bin_i ?_ | refine bw_and ?_ | refine iw_or ?_ | refine nilK ?_ | refine nilR ?_ | refine aat_c rfl (W_k m) rfl ?_ | (refine aat_w (fs' := mfs _ _ _ _ _ _ _ _ _ _) m (ble rfl) rfl ?_))
  · rw [if_pos h] at q; exact q
  · rw [if_neg h] at q; exact q
theorem sp_CLR {w : Int} (q : Q (.at .none) (W σ k j (mfs exc add cyc j pc sp a x y (bA p (bN w))) (mem f))) : Sp C (n + 1) 28 [.ins k, I w] (W σ k j (mfs exc add cyc j pc sp a x y p) (mem f)) Q := by
  refine ⟨rfl, ?_⟩
  unfold ir_opCLR
  refine start (ρ' := [_, _]) rfl ?_
  repeat (first | refine v_i rfl ?_ | refine inv_i ?_ | refine inv_k ?_ | refine iw_and ?_ | refine nilR ?_ | refine aat_c rfl (W_k m) rfl ?_ | (refine aat_w (fs' := mfs _ _ _ _ _ _ _ _ _ _) m (ble rfl) rfl ?_))
  exact q
theorem sp_STA {g : Nat} {b : Int} (hg : g < 300) (h0 : 0 ≤ b) (h1 : b < 65536) (hx : AddrOk C n g σ k j (mfs exc add cyc j pc sp a x y p) (mem f) b) (q : Q (.at .none) (W σ k j (mfs exc add cyc j pc sp a x y p) (mem (upd f b a)))) : Sp C (n + 1) 36 [.ins k, .meth g k] (W σ k j (mfs exc add cyc j pc sp a x y p) (mem f)) Q := by
  refine ⟨rfl, ?_⟩
  unfold ir_opSTA
  refine start (ρ' := [_, _]) rfl ?_
  repeat (first | refine fld_w m rfl rfl ?_ | refine nilT ?_ | refine vc_i rfl ?_ | refine six_c ?_)
  refine cw_meth hg (hx _ ?_)
  refine six_w m h0 h1 ?_
  repeat (refine nilR ?_)
  exact q
theorem sp_LDA {g : Nat} {b : Int} (hg : g < 300) (h0 : 0 ≤ b) (h1 : b < 65536) (ho : 0 ≤ f b ∧ f b < 256) (hx : AddrOk C (n + 1) g σ k j (mfs exc add cyc j pc sp a x y (fg c z i d v nn)) (mem f) b) (q : Q (.at .none) (W σ k j (mfs exc add cyc j pc sp (f b) x y (fg c (decide (f b = 0)) i d v (decide (128 ≤ f b)))) (mem f))) : Sp C (n + 2) 43 [.ins k, .meth g k] (W σ k j (mfs exc add cyc j pc sp a x y (fg c z i d v nn)) (mem f)) Q := by
  refine ⟨rfl, ?_⟩
  unfold ir_opLDA
  refine start (ρ' := [_, _]) rfl ?_
  repeat (first | refine nilT ?_ | refine consT ?_ | refine mc_i rfl (W_k m) ?_ | refine vc_i rfl ?_ | refine sat_c ?_)
  refine cw_meth hg (hx _ ?_)
  repeat (refine nilT ?_)
  refine sp_ByteAt m h0 h1 ?_
  repeat (first | refine fld_w m rfl rfl ?_ | refine nilT ?_ | refine consT ?_ | refine mc_i rfl (W_k m) ?_ | refine ex_c ?_ | (refine sat_w (fs' := mfs _ _ _ _ _ _ _ _ _ _) m rfl (ble rfl) rfl ?_))
  refine sp_NZ m ho ?_
  repeat (refine nilR ?_)
  exact q
theorem sp_LDX {g : Nat} {b : Int} (hg : g < 300) (h0 : 0 ≤ b) (h1 : b < 65536) (ho : 0 ≤ f b ∧ f b < 256) (hx : AddrOk C (n + 1) g σ k j (mfs exc add cyc j pc sp a x y (fg c z i d v nn)) (mem f) b) (q : Q (.at .none) (W σ k j (mfs exc add cyc j pc sp a (f b) y (fg c (decide (f b = 0)) i d v (decide (128 ≤ f b)))) (mem f))) : Sp C (n + 2) 45 [.ins k, .meth g k] (W σ k j (mfs exc add cyc j pc sp a x y (fg c z i d v nn)) (mem f)) Q := by
  refine ⟨rfl, ?_⟩
  unfold ir_opLDX
  refine start (ρ' := [_, _]) rfl ?_
  repeat (first | refine nilT ?_ | refine consT ?_ | refine mc_i rfl (W_k m) ?_ | refine vc_i rfl ?_ | refine sat_c ?_)
  refine cw_meth hg (hx _ ?_)
  repeat (refine nilT ?_)
  refine sp_ByteAt m h0 h1 ?_
  repeat (first | refine fld_w m rfl rfl ?_ | refine nilT ?_ | refine consT ?_ | refine mc_i rfl (W_k m) ?_ | refine ex_c ?_ | (refine sat_w (fs' := mfs _ _ _ _ _ _ _ _ _ _) m rfl (ble rfl) rfl ?_))
  refine sp_NZ m ho ?_
  repeat (refine nilR ?_)
  exact q
theorem sp_LDY {g : Nat} {b : Int} (hg : g < 300) (h0 : 0 ≤ b) (h1 : b < 65536) (ho : 0 ≤ f b ∧ f b < 256) (hx : AddrOk C (n + 1) g σ k j (mfs exc add cyc j pc sp a x y (fg c z i d v nn)) (mem f) b) (q : Q (.at .none) (W σ k j (mfs exc add cyc j pc sp a x (f b) (fg c (decide (f b = 0)) i d v (decide (128 ≤ f b)))) (mem f))) : Sp C (n + 2) 44 [.ins k, .meth g k] (W σ k j (mfs exc add cyc j pc sp a x y (fg c z i d v nn)) (mem f)) Q := by
  refine ⟨rfl, ?_⟩
  unfold ir_opLDY
  refine start (ρ' := [_, _]) rfl ?_
  repeat (first | refine nilT ?_ | refine consT ?_ | refine mc_i rfl (W_k m) ?_ | refine vc_i rfl ?_ | refine sat_c ?_)
  refine cw_meth hg (hx _ ?_)
  repeat (refine nilT ?_)
  refine sp_ByteAt m h0 h1 ?_
  repeat (first | refine fld_w m rfl rfl ?_ | refine nilT ?_ | refine consT ?_ | refine mc_i rfl (W_k m) ?_ | refine ex_c ?_ | (refine sat_w (fs' := mfs _ _ _ _ _ _ _ _ _ _) m rfl (ble rfl) rfl ?_))
  refine sp_NZ m ho ?_
  repeat (refine nilR ?_)
  exact q
end
end Mine.Mp
end
section
open PySem PySem.W
namespace Mine.Mp
open Mine.Hd Mine.Py Mine.Pu
section
variable {C : Cfg} {S : Nat → Py.Spec} {ρ : Py.Loc} {σ : St} {QC : Fl → Py.Loc → St → Prop} {r ca cb : Cs} {xs : List AV} {k j : Nat} {exc add cyc : AV} {pc sp a x y p0 pA pB u v : Int} {b : Bool}
theorem joinW (hA : ∀ K : Fl → Py.Loc → St → Prop, K .next ρ (W σ k j (mfs exc add cyc j pc sp a x y pA) xs) → xpCs C S ca ρ (W σ k j (mfs exc add cyc j pc sp a x y p0) xs) K) (hB : ∀ K : Fl → Py.Loc → St → Prop, K .next ρ (W σ k j (mfs exc add cyc j pc sp a x y pB) xs) → xpCs C S cb ρ (W σ k j (mfs exc add cyc j pc sp a x y p0) xs) K)
    (q : xpCs C S r ρ (W σ k j (mfs exc add cyc j pc sp a x y (if b then pA else pB)) xs) QC) : twoW b (xpCs C S ca ρ (W σ k j (mfs exc add cyc j pc sp a x y p0) xs) (seqK C S r QC)) (xpCs C S cb ρ (W σ k j (mfs exc add cyc j pc sp a x y p0) xs) (seqK C S r QC)) :=
  tw_b (fun e => hA _ (by subst e; exact seqn q)) (fun e => hB _ (by subst e; exact seqn q))
theorem joinLW (l : Nat) {ρ' : Py.Loc} (hA : ∀ K : Fl → Py.Loc → St → Prop, K .next (ρ.set l (some (I u))) (W σ k j (mfs exc add cyc j pc sp a x y pA) xs) → xpCs C S ca ρ (W σ k j (mfs exc add cyc j pc sp a x y p0) xs) K) (hB : ∀ K : Fl → Py.Loc → St → Prop, K .next (ρ.set l (some (I v))) (W σ k j (mfs exc add cyc j pc sp a x y pB) xs) → xpCs C S cb ρ (W σ k j (mfs exc add cyc j pc sp a x y p0) xs) K)
    (h : ρ.set l (some (I (if b then u else v))) = ρ') (q : xpCs C S r ρ' (W σ k j (mfs exc add cyc j pc sp a x y (if b then pA else pB)) xs) QC) : twoW b (xpCs C S ca ρ (W σ k j (mfs exc add cyc j pc sp a x y p0) xs) (seqK C S r QC)) (xpCs C S cb ρ (W σ k j (mfs exc add cyc j pc sp a x y p0) xs) (seqK C S r QC)) := by
  subst h
  exact tw_b (fun e => hA _ (by subst e; exact seqn q)) (fun e => hB _ (by subst e; exact seqn q))
end
noncomputable def sg (o : Int) : Int := if o > 127 then o - 256 else o
noncomputable def ovf (a o : Int) : Bool := decide (sg a + sg o < -128 ∨ sg a + sg o > 127)
theorem hi7 {a : Int} (h : 128 ≤ a ∧ a < 256) : a / 128 % 2 = 1 := by omega
theorem lo7 {a : Int} (h : 0 ≤ a ∧ a < 128) : a / 128 % 2 = 0 := by omega
theorem lo8 {a : Int} (h : 256 ≤ a ∧ a < 384) : a / 128 % 2 = 0 := by omega
theorem hi8 {a : Int} (h : 384 ≤ a ∧ a < 512) : a / 128 % 2 = 1 := by omega
theorem ovf_cases {p q u : Int} {P : Prop} (hp : p = q) (h : u = p → ¬ P) (g : u ≠ p → P) : (p = q ∧ p ≠ u) ↔ P := ⟨fun z => g (Ne.symm z.2), fun z => ⟨hp, fun e => h e.symm z⟩⟩
theorem ovf_is {a o : Int} (ha : 0 ≤ a ∧ a < 256) (ho : 0 ≤ o ∧ o < 256) : decide (bA (bA (bN (bX a o)) (bX a (o + a + 0))) 128 ≠ 0) = ovf a o := by
  unfold ovf sg
  refine decide_eq_decide.mpr ((ovf_sum a o _).trans ?_)
  by_cases h1 : a > 127
  · rw [if_pos h1, hi7 ⟨h1, ha.2⟩]
    by_cases h2 : o > 127
    · rw [if_pos h2, hi7 ⟨h2, ho.2⟩]
      by_cases r : o + a + 0 < 384
      · rw [lo8 ⟨by omega, r⟩]; exact ovf_cases rfl (fun e => absurd e (by decide)) fun _ => .inl (by omega)
      · rw [hi8 ⟨Int.not_lt.mp r, by omega⟩]; exact ovf_cases rfl (fun _ => by omega) fun e => absurd rfl e
    · rw [if_neg h2, lo7 ⟨ho.1, Int.lt_add_one_of_le (Int.not_lt.mp h2)⟩]; exact ⟨fun e => absurd e.1 (by decide), fun e => by omega⟩
  · rw [if_neg h1, lo7 ⟨ha.1, Int.lt_add_one_of_le (Int.not_lt.mp h1)⟩]
    by_cases h2 : o > 127
    · rw [if_pos h2, hi7 ⟨h2, ho.2⟩]; exact ⟨fun e => absurd e.1 (by decide), fun e => by omega⟩
    · rw [if_neg h2, lo7 ⟨ho.1, Int.lt_add_one_of_le (Int.not_lt.mp h2)⟩]
      by_cases r : o + a + 0 < 128
      · rw [lo7 ⟨by omega, r⟩]; exact ovf_cases rfl (fun _ => by omega) fun e => absurd rfl e
      · rw [hi7 ⟨Int.not_lt.mp r, by omega⟩]; exact ovf_cases rfl (fun e => absurd e (by decide)) fun _ => .inr (by omega)
section
variable {C : Cfg} {σ : St} {n k j : Nat} {Q : AV → St → Prop} (m : Mk σ k j) {exc add cyc : AV} {pc sp a x y p i' : Int} {f : Int → Int} {c z i d v nn : Bool}
include m
theorem sp_DEC {g : Nat} {b : Int} (hg : g < 300) (h0 : 0 ≤ b) (h1 : b < 65536) (hx : AddrOk C (n + 1) g σ k j (mfs exc add cyc j pc sp a x y (fg c z i d v nn)) (mem f) b) (q : Q (.at .none) (W σ k j (mfs exc add cyc j pc sp a x y (fg c (decide ((f b - 1) % 256 = 0)) i d v (decide (128 ≤ (f b - 1) % 256)))) (mem (upd f b ((f b - 1) % 256))))) : Sp C (n + 2) 41 [.ins k, .meth g k] (W σ k j (mfs exc add cyc j pc sp a x y (fg c z i d v nn)) (mem f)) Q := by
  refine ⟨rfl, ?_⟩
  unfold ir_opDECR
  refine start (ρ' := [_, _, _, _]) rfl ?_
  repeat (first | refine c_i ?_ | refine v_i rfl ?_ | refine cmpB_i ?_ | refine ck_is ?_ | refine tw_f ?_ | refine nilT ?_ | refine vc_i rfl ?_ | refine asg_c ?_ | refine ifc_c ?_)
  refine cw_meth hg (hx _ ?_)
  repeat (first | refine v_i rfl ?_ | refine nilT ?_ | refine consT ?_ | refine mc_i rfl (W_k m) ?_ | refine asg_c ?_ | (first | refine pl (ρ' := [_, _, _, _]) rfl ?_ | refine pls (ρ' := [_, _, _, _]) rfl ?_))
  refine sp_ByteAt m h0 h1 ?_
  repeat (first | refine c_i ?_ | refine v_i rfl ?_ | refine fld_w m rfl rfl ?_ | refine cat_i rfl (W_k m) ?_ | refine bin_i ?_ | refine inv_i ?_ | refine inv_k ?_ | refine bw_sub ?_ | refine bw_and255 ?_ | refine bw_or ?_ | refine vB_i rfl ?_ | refine tk_int ?_ | refine asg_c ?_ | refine iw_and ?_ | refine ifc_c ?_ | refine nilK ?_ | refine aat_c rfl (W_k m) rfl ?_ | (first | refine pl (ρ' := [_, _, _, _]) rfl ?_ | refine pls (ρ' := [_, _, _, _]) rfl ?_) | (refine aat_w (fs' := mfs _ _ _ _ _ _ _ _ _ _) m (ble rfl) rfl ?_))
  rw [k130]
  apply joinW (b := decide _)
  · ((intro K hK; (repeat (first | refine v_i rfl ?_ | refine cat_i rfl (W_k m) ?_ | refine bin_i ?_ | refine bw_and ?_ | refine iw_or ?_ | refine aat_c rfl (W_k m) rfl ?_ | (refine aat_w (fs' := mfs _ _ _ _ _ _ _ _ _ _) m (ble rfl) rfl ?_))); exact nilN hK))
  · ((intro K hK; (repeat (first | refine cat_i rfl (W_k m) ?_ | refine iw_or ?_ | refine aat_c rfl (W_k m) rfl ?_ | (refine aat_w (fs' := mfs _ _ _ _ _ _ _ _ _ _) m (ble rfl) rfl ?_))); exact nilN hK))
  repeat (first | refine c_i ?_ | refine v_i rfl ?_ | refine fld_w m rfl rfl ?_ | refine cmpB_i ?_ | refine ck_is ?_ | refine tw_f ?_ | refine ifc_c ?_ | refine six_c ?_)
  refine six_w m h0 h1 ?_
  repeat (first | refine nilK ?_ | refine nilR ?_)
  have e := fg_set' (c := c) (z := z) (i := i) (d := d) (v := v) (n := nn) (o := (f b - 1) % 256) ⟨by omega, by omega⟩
  simp only [decide_eq_true_eq]
  rw [e]; exact q
theorem sp_INC {g : Nat} {b : Int} (hg : g < 300) (h0 : 0 ≤ b) (h1 : b < 65536) (hx : AddrOk C (n + 1) g σ k j (mfs exc add cyc j pc sp a x y (fg c z i d v nn)) (mem f) b) (q : Q (.at .none) (W σ k j (mfs exc add cyc j pc sp a x y (fg c (decide ((f b + 1) % 256 = 0)) i d v (decide (128 ≤ (f b + 1) % 256)))) (mem (upd f b ((f b + 1) % 256))))) : Sp C (n + 2) 42 [.ins k, .meth g k] (W σ k j (mfs exc add cyc j pc sp a x y (fg c z i d v nn)) (mem f)) Q := by
  refine ⟨rfl, ?_⟩
  unfold ir_opINCR
  refine start (ρ' := [_, _, _, _]) rfl ?_
  repeat (first | refine c_i ?_ | refine v_i rfl ?_ | refine cmpB_i ?_ | refine ck_is ?_ | refine tw_f ?_ | refine nilT ?_ | refine vc_i rfl ?_ | refine asg_c ?_ | refine ifc_c ?_)
  refine cw_meth hg (hx _ ?_)
  repeat (first | refine v_i rfl ?_ | refine nilT ?_ | refine consT ?_ | refine mc_i rfl (W_k m) ?_ | refine asg_c ?_ | (first | refine pl (ρ' := [_, _, _, _]) rfl ?_ | refine pls (ρ' := [_, _, _, _]) rfl ?_))
  refine sp_ByteAt m h0 h1 ?_
  repeat (first | refine c_i ?_ | refine v_i rfl ?_ | refine fld_w m rfl rfl ?_ | refine cat_i rfl (W_k m) ?_ | refine bin_i ?_ | refine inv_i ?_ | refine inv_k ?_ | refine bw_add ?_ | refine bw_and255 ?_ | refine bw_or ?_ | refine vB_i rfl ?_ | refine tk_int ?_ | refine asg_c ?_ | refine iw_and ?_ | refine ifc_c ?_ | refine nilK ?_ | refine aat_c rfl (W_k m) rfl ?_ | (first | refine pl (ρ' := [_, _, _, _]) rfl ?_ | refine pls (ρ' := [_, _, _, _]) rfl ?_) | (refine aat_w (fs' := mfs _ _ _ _ _ _ _ _ _ _) m (ble rfl) rfl ?_))
  rw [k130]
  apply joinW (b := decide _)
  · ((intro K hK; (repeat (first | refine v_i rfl ?_ | refine cat_i rfl (W_k m) ?_ | refine bin_i ?_ | refine bw_and ?_ | refine iw_or ?_ | refine aat_c rfl (W_k m) rfl ?_ | (refine aat_w (fs' := mfs _ _ _ _ _ _ _ _ _ _) m (ble rfl) rfl ?_))); exact nilN hK))
  · ((intro K hK; (repeat (first | refine cat_i rfl (W_k m) ?_ | refine iw_or ?_ | refine aat_c rfl (W_k m) rfl ?_ | (refine aat_w (fs' := mfs _ _ _ _ _ _ _ _ _ _) m (ble rfl) rfl ?_))); exact nilN hK))
  repeat (first | refine c_i ?_ | refine v_i rfl ?_ | refine fld_w m rfl rfl ?_ | refine cmpB_i ?_ | refine ck_is ?_ | refine tw_f ?_ | refine ifc_c ?_ | refine six_c ?_)
  refine six_w m h0 h1 ?_
  repeat (first | refine nilK ?_ | refine nilR ?_)
  have e := fg_set' (c := c) (z := z) (i := i) (d := d) (v := v) (n := nn) (o := (f b + 1) % 256) ⟨by omega, by omega⟩
  simp only [decide_eq_true_eq]
  rw [e]; exact q
noncomputable def goal (pc o : Int) : Int := (pc + 1 + (if o < 128 then o else o - 256)) % 65536
theorem sp_BRA {e : Int} (h0 : 0 ≤ pc) (h1 : pc < 65536) (ho : 0 ≤ f pc ∧ f pc < 256) (q : ∀ e', Q (.at .none) (W σ k j (mfs (I e') add cyc j (goal pc (f pc)) sp a x y p) (mem f))) : Sp C (n + 3) 17 [.ins k] (W σ k j (mfs (I e) add cyc j pc sp a x y p) (mem f)) Q := by
  refine ⟨rfl, ?_⟩
  unfold ir_BranchRelAddr
  refine start (ρ' := [_, _]) rfl ?_
  repeat (first | refine c_i ?_ | refine nilT ?_ | refine mc_i rfl (W_k m) ?_ | refine asg_c ?_ | refine iw_add ?_ | refine aat_c rfl (W_k m) rfl ?_ | (refine aat_w (fs' := mfs _ _ _ _ _ _ _ _ _ _) m (ble rfl) rfl ?_))
  refine sp_Imm m h0 h1 _ ?_
  repeat (first | refine c_i ?_ | refine v_i rfl ?_ | refine cat_i rfl (W_k m) ?_ | refine bw_and ?_ | refine binB_i ?_ | refine tk_int ?_ | refine iw_add ?_ | refine ifc_c ?_ | refine aat_c rfl (W_k m) rfl ?_ | (first | refine pl (ρ' := [_, _]) rfl ?_ | refine pls (ρ' := [_, _]) rfl ?_) | (refine aat_w (fs' := mfs _ _ _ _ _ _ _ _ _ _) m (ble rfl) rfl ?_))
  refine br (fun h => ?_) (fun h => ?_)
  · rw [bA128] at h
    repeat (first | refine c_i ?_ | refine v_i rfl ?_ | refine fld_w m rfl rfl ?_ | refine bin_i ?_ | refine bw_sub ?_ | refine bw_and ?_ | refine bw_xor ?_ | refine cmpB_i ?_ | refine ck_ne ?_ | refine asg_c ?_ | refine ifc_c ?_ | refine nilK ?_ | (first | refine pl (ρ' := [_, _]) rfl ?_ | refine pls (ρ' := [_, _]) rfl ?_))
    rw [bX255 ho]
    have e1 : (pc + 1 - (255 - f pc) - 1) % 65536 = goal pc (f pc) := by unfold goal; rw [if_neg (by omega)]; congr 1; omega
    refine br (fun _ => ?_) (fun _ => ?_)
    · repeat (first | refine c_i ?_ | refine v_i rfl ?_ | refine fld_w m rfl rfl ?_ | refine bin_i ?_ | refine bw_and16 ?_ | refine iw_add ?_ | refine nilK ?_ | refine nilR ?_ | refine sat_c ?_ | refine aat_c rfl (W_k m) rfl ?_ | (refine sat_w (fs' := mfs _ _ _ _ _ _ _ _ _ _) m rfl (ble rfl) rfl ?_) | (refine aat_w (fs' := mfs _ _ _ _ _ _ _ _ _ _) m (ble rfl) rfl ?_))
      rw [e1]; exact q _
    · repeat (first | refine v_i rfl ?_ | refine fld_w m rfl rfl ?_ | refine bin_i ?_ | refine bw_and16 ?_ | refine nilK ?_ | refine nilR ?_ | refine sat_c ?_ | (refine sat_w (fs' := mfs _ _ _ _ _ _ _ _ _ _) m rfl (ble rfl) rfl ?_))
      rw [e1]; exact q _
  · rw [bA128] at h
    repeat (first | refine v_i rfl ?_ | refine fld_w m rfl rfl ?_ | refine bin_i ?_ | refine bw_add ?_ | refine bw_and ?_ | refine cmpB_i ?_ | refine ck_ne ?_ | refine asg_c ?_ | refine ifc_c ?_ | refine nilK ?_ | (first | refine pl (ρ' := [_, _]) rfl ?_ | refine pls (ρ' := [_, _]) rfl ?_))
    have e1 : (pc + 1 + f pc) % 65536 = goal pc (f pc) := by unfold goal; rw [if_pos (by omega)]
    refine br (fun _ => ?_) (fun _ => ?_)
    · repeat (first | refine c_i ?_ | refine v_i rfl ?_ | refine fld_w m rfl rfl ?_ | refine bin_i ?_ | refine bw_and16 ?_ | refine iw_add ?_ | refine nilK ?_ | refine nilR ?_ | refine sat_c ?_ | refine aat_c rfl (W_k m) rfl ?_ | (refine sat_w (fs' := mfs _ _ _ _ _ _ _ _ _ _) m rfl (ble rfl) rfl ?_) | (refine aat_w (fs' := mfs _ _ _ _ _ _ _ _ _ _) m (ble rfl) rfl ?_))
      rw [e1]; exact q _
    · repeat (first | refine v_i rfl ?_ | refine fld_w m rfl rfl ?_ | refine bin_i ?_ | refine bw_and16 ?_ | refine nilK ?_ | refine nilR ?_ | refine sat_c ?_ | (refine sat_w (fs' := mfs _ _ _ _ _ _ _ _ _ _) m rfl (ble rfl) rfl ?_))
      rw [e1]; exact q _
theorem sp_BCL {e w : Int} {b : Bool} (hb : decide (bA p w ≠ 0) = b) (h0 : 0 ≤ pc) (h1 : pc < 65536) (ho : 0 ≤ f pc ∧ f pc < 256) (q : ∀ e', Q (.at .none) (W σ k j (mfs (I e') add cyc j (if b then pc + 1 else goal pc (f pc)) sp a x y p) (mem f))) : Sp C (n + 4) 26 [.ins k, I w] (W σ k j (mfs (I e) add cyc j pc sp a x y p) (mem f)) Q := by
  refine ⟨rfl, ?_⟩
  unfold ir_opBCL
  refine start (ρ' := [_, _]) rfl ?_
  repeat (first | refine v_i rfl ?_ | refine fld_w m rfl rfl ?_ | refine bw_and ?_ | refine binB_i ?_ | refine tk_int ?_ | refine ifc_c ?_)
  rw [hb]
  refine tw_b (fun t => ?_) (fun t => ?_) <;> subst t
  · repeat (first | refine c_i ?_ | refine iw_add ?_ | refine nilK ?_ | refine nilR ?_ | refine aat_c rfl (W_k m) rfl ?_ | (refine aat_w (fs' := mfs _ _ _ _ _ _ _ _ _ _) m (ble rfl) rfl ?_))
    exact q _
  · repeat (first | refine nilT ?_ | refine mc_i rfl (W_k m) ?_ | refine ex_c ?_)
    refine sp_BRA m h0 h1 ho fun e' => ?_
    repeat (first | refine nilK ?_ | refine nilR ?_)
    exact q _
theorem sp_BST {e w : Int} {b : Bool} (hb : decide (bA p w ≠ 0) = b) (h0 : 0 ≤ pc) (h1 : pc < 65536) (ho : 0 ≤ f pc ∧ f pc < 256) (q : ∀ e', Q (.at .none) (W σ k j (mfs (I e') add cyc j (if b then goal pc (f pc) else pc + 1) sp a x y p) (mem f))) : Sp C (n + 4) 27 [.ins k, I w] (W σ k j (mfs (I e) add cyc j pc sp a x y p) (mem f)) Q := by
  refine ⟨rfl, ?_⟩
  unfold ir_opBST
  refine start (ρ' := [_, _]) rfl ?_
  repeat (first | refine v_i rfl ?_ | refine fld_w m rfl rfl ?_ | refine bw_and ?_ | refine binB_i ?_ | refine tk_int ?_ | refine ifc_c ?_)
  rw [hb]
  refine tw_b (fun t => ?_) (fun t => ?_) <;> subst t
  · repeat (first | refine nilT ?_ | refine mc_i rfl (W_k m) ?_ | refine ex_c ?_)
    refine sp_BRA m h0 h1 ho fun e' => ?_
    repeat (first | refine nilK ?_ | refine nilR ?_)
    exact q _
  · repeat (first | refine c_i ?_ | refine iw_add ?_ | refine nilK ?_ | refine nilR ?_ | refine aat_c rfl (W_k m) rfl ?_ | (refine aat_w (fs' := mfs _ _ _ _ _ _ _ _ _ _) m (ble rfl) rfl ?_))
    exact q _
theorem sp_ADC {o : Int} (h0 : 0 ≤ pc) (h1 : pc < 65536) (ha : 0 ≤ a ∧ a < 256) (hi : f pc = o) (ho : 0 ≤ o ∧ o < 256) (q : Q (.at .none) (W σ k j (mfs exc add cyc j pc sp ((a + o) % 256) x y (fg (decide (a + o > 255)) (decide ((a + o) % 256 = 0)) i false (ovf a o) (decide (128 ≤ (a + o) % 256)))) (mem f))) :
    Sp C (n + 2) 34 [.ins k, .meth 7 k] (W σ k j (mfs exc add cyc j pc sp a x y (fg false z i false v nn)) (mem f)) Q := by
  refine ⟨rfl, ?_⟩
  unfold ir_opADC
  refine start (ρ' := [_, _, _, _, _, _, _, _, _, _, _, _]) rfl ?_
  repeat (first | refine nilT ?_ | refine consT ?_ | refine mc_i rfl (W_k m) ?_ | refine vc_i rfl ?_ | refine cw_meth (by decide) ?_ | refine asg_c ?_)
  refine sp_PC m _ ?_
  repeat (refine nilT ?_)
  refine sp_ByteAt m h0 h1 ?_
  rw [hi]
  repeat (first | refine fld_w m rfl rfl ?_ | refine cat_i rfl (W_k m) ?_ | refine bw_and ?_ | refine binB_i ?_ | refine tk_int ?_ | refine ifc_c ?_ | (first | refine pl (ρ' := [_, _, _, _, _, _, _, _, _, _, _, _]) rfl ?_ | refine pls (ρ' := [_, _, _, _, _, _, _, _, _, _, _, _]) rfl ?_))
  rw [fg_8]
  refine tw_f ?_
  repeat (first | refine fld_w m rfl rfl ?_ | refine cat_i rfl (W_k m) ?_ | refine bw_and ?_ | refine binB_i ?_ | refine tk_int ?_ | refine ifc_c ?_)
  rw [fg_1]
  refine tw_f ?_
  repeat (first | refine c_i ?_ | refine v_i rfl ?_ | refine fld_w m rfl rfl ?_ | refine cat_i rfl (W_k m) ?_ | refine bin_i ?_ | refine inv_i ?_ | refine inv_k ?_ | refine bw_add ?_ | refine bw_and ?_ | refine bw_or ?_ | refine bw_xor ?_ | refine binB_i ?_ | refine tk_int ?_ | refine asg_c ?_ | refine iw_and ?_ | refine ifc_c ?_ | refine nilK ?_ | refine aat_c rfl (W_k m) rfl ?_ | (first | refine pl (ρ' := [_, _, _, _, _, _, _, _, _, _, _, _]) rfl ?_ | refine pls (ρ' := [_, _, _, _, _, _, _, _, _, _, _, _]) rfl ?_) | (refine aat_w (fs' := mfs _ _ _ _ _ _ _ _ _ _) m (ble rfl) rfl ?_))
  rw [k196, fg_clr, ovf_is ha ho]
  apply joinW
  · ((intro K hK; (repeat (first | refine cat_i rfl (W_k m) ?_ | refine iw_or ?_ | refine aat_c rfl (W_k m) rfl ?_ | (refine aat_w (fs' := mfs _ _ _ _ _ _ _ _ _ _) m (ble rfl) rfl ?_))); exact nilN hK))
  · ((intro K hK; (repeat (fail)); exact nilN hK))
  repeat (first | refine v_i rfl ?_ | refine fld_w m rfl rfl ?_ | refine cmpB_i ?_ | refine ck_gt ?_ | refine asg_c ?_ | refine ifc_c ?_ | (first | refine pl (ρ' := [_, _, _, _, _, _, _, _, _, _, _, _]) rfl ?_ | refine pls (ρ' := [_, _, _, _, _, _, _, _, _, _, _, _]) rfl ?_))
  apply joinLW (b := decide _) 2 (ρ' := [_, _, _, _, _, _, _, _, _, _, _, _])
  · ((intro K hK; (repeat (first | refine fld_w m rfl rfl ?_ | refine cat_i rfl (W_k m) ?_ | refine aug_c rfl ?_ | refine iw_and255 ?_ | refine iw_or ?_ | refine aat_c rfl (W_k m) rfl ?_ | (first | refine pl (ρ' := [_, _, _, _, _, _, _, _, _, _, _, _]) rfl ?_ | refine pls (ρ' := [_, _, _, _, _, _, _, _, _, _, _, _]) rfl ?_) | (refine aat_w (fs' := mfs _ _ _ _ _ _ _ _ _ _) m (ble rfl) rfl ?_))); exact nilN hK))
  · ((intro K hK; (repeat (fail)); exact nilN hK))
  · rfl
  repeat (first | refine c_i ?_ | refine v_i rfl ?_ | refine cmpB_i ?_ | refine ck_eq ?_ | refine ifc_c ?_)
  have e1 : (if decide (o + a + 0 > 255) = true then (o + a + 0) % 256 else o + a + 0) = (a + o) % 256 := by
    simp only [decide_eq_true_eq]
    by_cases h : o + a + 0 > 255
    · rw [if_pos h]; omega
    · rw [if_neg h]; omega
  rw [e1]
  apply joinW (b := decide _)
  · ((intro K hK; (repeat (first | refine cat_i rfl (W_k m) ?_ | refine iw_or ?_ | refine aat_c rfl (W_k m) rfl ?_ | (refine aat_w (fs' := mfs _ _ _ _ _ _ _ _ _ _) m (ble rfl) rfl ?_))); exact nilN hK))
  · ((intro K hK; (repeat (first | refine v_i rfl ?_ | refine cat_i rfl (W_k m) ?_ | refine bin_i ?_ | refine bw_and ?_ | refine iw_or ?_ | refine aat_c rfl (W_k m) rfl ?_ | (refine aat_w (fs' := mfs _ _ _ _ _ _ _ _ _ _) m (ble rfl) rfl ?_))); exact nilN hK))
  repeat (first | refine v_i rfl ?_ | refine nilK ?_ | refine nilR ?_ | refine sat_c ?_ | (refine sat_w (fs' := mfs _ _ _ _ _ _ _ _ _ _) m rfl (ble rfl) rfl ?_))
  have e2 : ∀ t : Bool, (if t then bO (fg false false i false false false) 64 else fg false false i false false false) = fg false false i false t false := fun t => by cases t <;> simp [fg_o64]
  have e3 : ∀ t u : Bool, (if t then bO (fg false false i false u false) 1 else fg false false i false u false) = fg t false i false u false := fun t u => by cases t <;> simp [fg_o1]
  rw [e2, e3]
  have e4 := fg_set (c := decide (a + o > 255)) (z := false) (i := i) (d := false) (v := ovf a o) (n := false) (o := (a + o) % 256) ⟨by omega, by omega⟩
  rw [fg_nz] at e4
  rw [show decide (o + a + 0 > 255) = decide (a + o > 255) from decide_eq_decide.mpr (by omega)]
  simp only [decide_eq_true_eq]
  rw [e4]; exact q
end
end Mine.Mp
end
section
open PySem PySem.W
namespace Mine.Mp
open Mine.Hd Mine.Py Mine.Pu
structure Ms where
  pc : Int
  sp : Int
  a : Int
  x : Int
  y : Int
  c : Bool
  z : Bool
  i : Bool
  d : Bool
  v : Bool
  n : Bool
  f : Int → Int
noncomputable def Wm (σ : St) (k j : Nat) (exc add cyc : AV) (s : Ms) : St := W σ k j (mfs exc add cyc j s.pc s.sp s.a s.x s.y (fg s.c s.z s.i s.d s.v s.n)) (mem s.f)
noncomputable def Stp (C : Cfg) (σ : St) (k j : Nat) (s s' : Ms) : Prop := ∀ (e cyc : Int) (add : AV) (Q : AV → St → Prop), (∀ e' add' cyc', Q (.ins k) (Wm σ k j (I e') add' (I cyc') s')) → Sp C 7 0 [.ins k] (Wm σ k j (I e) add (I cyc) s) Q
noncomputable def Does (C : Cfg) (σ : St) (k j g : Nat) (ex : Int) (s s' : Ms) : Prop := ∀ (cyc : Int) (Q : AV → St → Prop), (∀ e', Q (.at .none) (Wm σ k j (I e') (I ex) (I cyc) s')) → Sp C 6 g [.ins k] (Wm σ k j (I 0) (I ex) (I cyc) s) Q
section
variable {C : Cfg} {σ : St} {k j : Nat} (m : Mk σ k j)
include m
theorem sp_step {code cy ex : Int} {g : Nat} {pc sp a x y : Int} {c z i d v n : Bool} {f : Int → Int} {s' : Ms} (hg : g < 300) (h0 : 0 ≤ pc) (h1 : pc < 65535) (hi : f pc = code) (k0 : idxL (C.klv 0) code = some (.fn g)) (k1 : idxL (C.klv 1) code = some (I cy)) (k2 : idxL (C.klv 2) code = some (I ex)) (h2 : 0 ≤ s'.pc) (h3 : s'.pc < 65536)
    (call : Does C σ k j g ex ⟨pc + 1, sp, a, x, y, c, z, i, d, v, n, f⟩ s') : Stp C σ k j ⟨pc, sp, a, x, y, c, z, i, d, v, n, f⟩ s' := fun e cyc add Q q => by
  refine ⟨rfl, ?_⟩
  unfold ir_step
  refine start (ρ' := [_, _]) rfl ?_
  show xpCs _ _ _ _ (W σ k j (mfs (I e) add (I cyc) j pc sp a x y (fg c z i d v n)) (mem f)) _
  repeat (first | refine fld_w m rfl rfl ?_ | refine idx_i ?_ | refine asg_c ?_)
  refine idx_w m h0 (by lia) ?_
  rw [hi]
  repeat (first | refine c_i ?_ | refine v_i rfl ?_ | refine fld_w m rfl rfl ?_ | refine cat_i rfl (W_k m) ?_ | refine bin_i ?_ | refine bw_add ?_ | refine bw_and16 ?_ | refine idx_i ?_ | refine sat_c ?_ | (first | refine pl (ρ' := [_, _]) rfl ?_ | refine pls (ρ' := [_, _]) rfl ?_) | (refine sat_w (fs' := mfs _ _ _ _ _ _ _ _ _ _) m rfl (ble rfl) rfl ?_))
  refine iw_kl k2 ?_
  repeat (first | refine v_i rfl ?_ | refine cat_i rfl (W_k m) ?_ | refine idx_i ?_ | refine tc_i ?_ | refine ex_c ?_ | (refine sat_w (fs' := mfs _ _ _ _ _ _ _ _ _ _) m rfl (ble rfl) rfl ?_))
  refine iw_kl k0 ?_
  repeat (first | refine v_i rfl ?_ | refine nilT ?_ | refine consT ?_)
  refine cw_fn hg ?_
  rw [Int.emod_eq_of_lt (by lia) (by lia)]
  refine call _ _ fun e' => ?_
  unfold Wm
  repeat (first | refine v_i rfl ?_ | refine fld_w m rfl rfl ?_ | refine cat_i rfl (W_k m) ?_ | refine bin_i ?_ | refine idx_i ?_ | refine iw_and16 ?_ | refine aat_c rfl (W_k m) rfl ?_ | (refine aat_w (fs' := mfs _ _ _ _ _ _ _ _ _ _) m (ble rfl) rfl ?_))
  refine iw_kl k1 ?_
  repeat (first | refine v_i rfl ?_ | refine fld_w m rfl rfl ?_ | refine bw_add ?_ | refine iw_add ?_ | refine ret_c ?_ | (refine aat_w (fs' := mfs _ _ _ _ _ _ _ _ _ _) m (ble rfl) rfl ?_))
  rw [Int.emod_eq_of_lt h2 h3]
  exact q _ _ _
end
end Mine.Mp
end
section
open PySem PySem.W
namespace Mine.Mp
open Mine.Hd Mine.Py Mine.Pu
section
variable {C : Cfg} {σ : St} {k j : Nat} (m : Mk σ k j) {pc sp a x y : Int} {c z i d v n : Bool} {f : Int → Int}
include m
theorem d_a9 (h0 : 0 ≤ pc) (h1 : pc < 65535) {o : Int} (e : f pc = o) (ho : 0 ≤ o ∧ o < 256) : Does C σ k j 144 0 ⟨pc, sp, a, x, y, c, z, i, d, v, n, f⟩ ⟨pc + 1, sp, o, x, y, c, decide (o = 0), i, d, v, decide (128 ≤ o), f⟩ := fun cyc Q q => by
  subst e
  refine ⟨rfl, ?_⟩
  unfold ir_inst_0xa9
  refine start (ρ' := [_]) rfl ?_
  show xpCs _ _ _ _ (W σ k j (mfs (I 0) (I 0) (I cyc) j pc sp a x y (fg c z i d v n)) (mem f)) _
  repeat (first | refine bm_i rfl (W_k m) ?_ | refine nilT ?_ | refine consT ?_ | refine mc_i rfl (W_k m) ?_ | refine ex_c ?_)
  refine sp_LDA m (by decide) h0 (by lia) ho (sp_PC m) ?_
  repeat (first | refine c_i ?_ | refine iw_add ?_ | refine nilR ?_ | refine aat_c rfl (W_k m) rfl ?_ | (refine aat_w (fs' := mfs _ _ _ _ _ _ _ _ _ _) m (ble rfl) rfl ?_))
  exact q _
theorem d_a2 (h0 : 0 ≤ pc) (h1 : pc < 65535) {o : Int} (e : f pc = o) (ho : 0 ≤ o ∧ o < 256) : Does C σ k j 139 0 ⟨pc, sp, a, x, y, c, z, i, d, v, n, f⟩ ⟨pc + 1, sp, a, o, y, c, decide (o = 0), i, d, v, decide (128 ≤ o), f⟩ := fun cyc Q q => by
  subst e
  refine ⟨rfl, ?_⟩
  unfold ir_inst_0xa2
  refine start (ρ' := [_]) rfl ?_
  show xpCs _ _ _ _ (W σ k j (mfs (I 0) (I 0) (I cyc) j pc sp a x y (fg c z i d v n)) (mem f)) _
  repeat (first | refine bm_i rfl (W_k m) ?_ | refine nilT ?_ | refine consT ?_ | refine mc_i rfl (W_k m) ?_ | refine ex_c ?_)
  refine sp_LDX m (by decide) h0 (by lia) ho (sp_PC m) ?_
  repeat (first | refine c_i ?_ | refine iw_add ?_ | refine nilR ?_ | refine aat_c rfl (W_k m) rfl ?_ | (refine aat_w (fs' := mfs _ _ _ _ _ _ _ _ _ _) m (ble rfl) rfl ?_))
  exact q _
theorem d_a6 (h0 : 0 ≤ pc) (h1 : pc < 65535) {b o : Int} (e : f pc = b) (hb : 0 ≤ b ∧ b < 256) (eo : f b = o) (ho : 0 ≤ o ∧ o < 256) : Does C σ k j 142 0 ⟨pc, sp, a, x, y, c, z, i, d, v, n, f⟩ ⟨pc + 1, sp, a, o, y, c, decide (o = 0), i, d, v, decide (128 ≤ o), f⟩ := fun cyc Q q => by
  subst eo
  refine ⟨rfl, ?_⟩
  unfold ir_inst_0xa6
  refine start (ρ' := [_]) rfl ?_
  show xpCs _ _ _ _ (W σ k j (mfs (I 0) (I 0) (I cyc) j pc sp a x y (fg c z i d v n)) (mem f)) _
  repeat (first | refine bm_i rfl (W_k m) ?_ | refine nilT ?_ | refine consT ?_ | refine mc_i rfl (W_k m) ?_ | refine ex_c ?_)
  refine sp_LDX m (b := b) (by decide) hb.1 (by lia) ho (by rw [← e]; exact sp_Zero m h0 (by lia)) ?_
  repeat (first | refine c_i ?_ | refine iw_add ?_ | refine nilR ?_ | refine aat_c rfl (W_k m) rfl ?_ | (refine aat_w (fs' := mfs _ _ _ _ _ _ _ _ _ _) m (ble rfl) rfl ?_))
  exact q _
theorem d_a4 (h0 : 0 ≤ pc) (h1 : pc < 65535) {b o : Int} (e : f pc = b) (hb : 0 ≤ b ∧ b < 256) (eo : f b = o) (ho : 0 ≤ o ∧ o < 256) : Does C σ k j 140 0 ⟨pc, sp, a, x, y, c, z, i, d, v, n, f⟩ ⟨pc + 1, sp, a, x, o, c, decide (o = 0), i, d, v, decide (128 ≤ o), f⟩ := fun cyc Q q => by
  subst eo
  refine ⟨rfl, ?_⟩
  unfold ir_inst_0xa4
  refine start (ρ' := [_]) rfl ?_
  show xpCs _ _ _ _ (W σ k j (mfs (I 0) (I 0) (I cyc) j pc sp a x y (fg c z i d v n)) (mem f)) _
  repeat (first | refine bm_i rfl (W_k m) ?_ | refine nilT ?_ | refine consT ?_ | refine mc_i rfl (W_k m) ?_ | refine ex_c ?_)
  refine sp_LDY m (b := b) (by decide) hb.1 (by lia) ho (by rw [← e]; exact sp_Zero m h0 (by lia)) ?_
  repeat (first | refine c_i ?_ | refine iw_add ?_ | refine nilR ?_ | refine aat_c rfl (W_k m) rfl ?_ | (refine aat_w (fs' := mfs _ _ _ _ _ _ _ _ _ _) m (ble rfl) rfl ?_))
  exact q _
theorem d_c6 (h0 : 0 ≤ pc) (h1 : pc < 65535) {b o : Int} (e : f pc = b) (hb : 0 ≤ b ∧ b < 256) (eo : (f b - 1) % 256 = o) {f' : Int → Int} (ef : upd f b o = f') : Does C σ k j 164 0 ⟨pc, sp, a, x, y, c, z, i, d, v, n, f⟩ ⟨pc + 1, sp, a, x, y, c, decide (o = 0), i, d, v, decide (128 ≤ o), f'⟩ := fun cyc Q q => by
  subst eo
  subst ef
  refine ⟨rfl, ?_⟩
  unfold ir_inst_0xc6
  refine start (ρ' := [_]) rfl ?_
  show xpCs _ _ _ _ (W σ k j (mfs (I 0) (I 0) (I cyc) j pc sp a x y (fg c z i d v n)) (mem f)) _
  repeat (first | refine bm_i rfl (W_k m) ?_ | refine nilT ?_ | refine consT ?_ | refine mc_i rfl (W_k m) ?_ | refine ex_c ?_)
  refine sp_DEC m (b := b) (by decide) hb.1 (by lia) (by rw [← e]; exact sp_Zero m h0 (by lia)) ?_
  repeat (first | refine c_i ?_ | refine iw_add ?_ | refine nilR ?_ | refine aat_c rfl (W_k m) rfl ?_ | (refine aat_w (fs' := mfs _ _ _ _ _ _ _ _ _ _) m (ble rfl) rfl ?_))
  exact q _
theorem d_e6 (h0 : 0 ≤ pc) (h1 : pc < 65535) {b o : Int} (e : f pc = b) (hb : 0 ≤ b ∧ b < 256) (eo : (f b + 1) % 256 = o) {f' : Int → Int} (ef : upd f b o = f') : Does C σ k j 183 0 ⟨pc, sp, a, x, y, c, z, i, d, v, n, f⟩ ⟨pc + 1, sp, a, x, y, c, decide (o = 0), i, d, v, decide (128 ≤ o), f'⟩ := fun cyc Q q => by
  subst eo
  subst ef
  refine ⟨rfl, ?_⟩
  unfold ir_inst_0xe6
  refine start (ρ' := [_]) rfl ?_
  show xpCs _ _ _ _ (W σ k j (mfs (I 0) (I 0) (I cyc) j pc sp a x y (fg c z i d v n)) (mem f)) _
  repeat (first | refine bm_i rfl (W_k m) ?_ | refine nilT ?_ | refine consT ?_ | refine mc_i rfl (W_k m) ?_ | refine ex_c ?_)
  refine sp_INC m (b := b) (by decide) hb.1 (by lia) (by rw [← e]; exact sp_Zero m h0 (by lia)) ?_
  repeat (first | refine c_i ?_ | refine iw_add ?_ | refine nilR ?_ | refine aat_c rfl (W_k m) rfl ?_ | (refine aat_w (fs' := mfs _ _ _ _ _ _ _ _ _ _) m (ble rfl) rfl ?_))
  exact q _
theorem d_9a  : Does C σ k j 135 0 ⟨pc, sp, a, x, y, c, z, i, d, v, n, f⟩ ⟨pc, x, a, x, y, c, z, i, d, v, n, f⟩ := fun cyc Q q => by
  refine ⟨rfl, ?_⟩
  unfold ir_inst_0x9a
  refine start (ρ' := [_]) rfl ?_
  show xpCs _ _ _ _ (W σ k j (mfs (I 0) (I 0) (I cyc) j pc sp a x y (fg c z i d v n)) (mem f)) _
  repeat (first | refine fld_w m rfl rfl ?_ | refine nilR ?_ | refine sat_c ?_ | (refine sat_w (fs' := mfs _ _ _ _ _ _ _ _ _ _) m rfl (ble rfl) rfl ?_))
  exact q _
theorem d_48 (hs : 0 ≤ sp ∧ sp < 256) (ha : 0 ≤ a ∧ a < 256) {f' : Int → Int} (ef : upd f (sp + 256) a = f') : Does C σ k j 87 0 ⟨pc, sp, a, x, y, c, z, i, d, v, n, f⟩ ⟨pc, (sp - 1) % 256, a, x, y, c, z, i, d, v, n, f'⟩ := fun cyc Q q => by
  subst ef
  refine ⟨rfl, ?_⟩
  unfold ir_inst_0x48
  refine start (ρ' := [_]) rfl ?_
  show xpCs _ _ _ _ (W σ k j (mfs (I 0) (I 0) (I cyc) j pc sp a x y (fg c z i d v n)) (mem f)) _
  repeat (first | refine fld_w m rfl rfl ?_ | refine nilT ?_ | refine consT ?_ | refine mc_i rfl (W_k m) ?_ | refine ex_c ?_)
  refine sp_push m hs.1 hs.2 ?_
  repeat (refine nilR ?_)
  rw [show a % 256 = a by lia]
  exact q _
theorem d_4c (h0 : 0 ≤ pc) (h1 : pc < 65535) {lo hi t : Int} (e1 : f pc = lo) (e2 : f (pc + 1) = hi) (ho : 0 ≤ hi ∧ hi < 256) (et : lo + hi * 256 = t) : Does C σ k j 90 0 ⟨pc, sp, a, x, y, c, z, i, d, v, n, f⟩ ⟨t, sp, a, x, y, c, z, i, d, v, n, f⟩ := fun cyc Q q => by
  subst e1
  subst e2
  subst et
  refine ⟨rfl, ?_⟩
  unfold ir_inst_0x4c
  refine start (ρ' := [_]) rfl ?_
  show xpCs _ _ _ _ (W σ k j (mfs (I 0) (I 0) (I cyc) j pc sp a x y (fg c z i d v n)) (mem f)) _
  repeat (first | refine fld_w m rfl rfl ?_ | refine nilT ?_ | refine consT ?_ | refine mc_i rfl (W_k m) ?_ | refine sat_c ?_)
  refine sp_WordAt m h0 h1 ho ?_
  repeat (first | refine nilR ?_ | (refine sat_w (fs' := mfs _ _ _ _ _ _ _ _ _ _) m rfl (ble rfl) rfl ?_))
  exact q _
theorem d_9d (h0 : 0 ≤ pc) (h1 : pc < 65535) {lo hi t : Int} (e1 : f pc = lo) (e2 : f (pc + 1) = hi) (ho : 0 ≤ hi ∧ hi < 256) (e : (lo + hi * 256 + x) % 65536 = t) {f' : Int → Int} (ef : upd f t a = f') : Does C σ k j 136 0 ⟨pc, sp, a, x, y, c, z, i, d, v, n, f⟩ ⟨pc + 1 + 1, sp, a, x, y, c, z, i, d, v, n, f'⟩ := fun cyc Q q => by
  subst e1
  subst e2
  subst ef
  refine ⟨rfl, ?_⟩
  unfold ir_inst_0x9d
  refine start (ρ' := [_]) rfl ?_
  show xpCs _ _ _ _ (W σ k j (mfs (I 0) (I 0) (I cyc) j pc sp a x y (fg c z i d v n)) (mem f)) _
  repeat (first | refine bm_i rfl (W_k m) ?_ | refine nilT ?_ | refine consT ?_ | refine mc_i rfl (W_k m) ?_ | refine ex_c ?_)
  refine sp_STA m (b := t) (by decide) (by lia) (by lia) (by rw [← e]; exact sp_AbsX m h0 h1 ho) ?_
  repeat (first | refine c_i ?_ | refine iw_add ?_ | refine nilR ?_ | refine aat_c rfl (W_k m) rfl ?_ | (refine aat_w (fs' := mfs _ _ _ _ _ _ _ _ _ _) m (ble rfl) rfl ?_))
  rw [show pc + 2 = pc + 1 + 1 by lia]
  exact q _
theorem d_99 (h0 : 0 ≤ pc) (h1 : pc < 65535) {lo hi t : Int} (e1 : f pc = lo) (e2 : f (pc + 1) = hi) (ho : 0 ≤ hi ∧ hi < 256) (e : (lo + hi * 256 + y) % 65536 = t) {f' : Int → Int} (ef : upd f t a = f') : Does C σ k j 134 0 ⟨pc, sp, a, x, y, c, z, i, d, v, n, f⟩ ⟨pc + 1 + 1, sp, a, x, y, c, z, i, d, v, n, f'⟩ := fun cyc Q q => by
  subst e1
  subst e2
  subst ef
  refine ⟨rfl, ?_⟩
  unfold ir_inst_0x99
  refine start (ρ' := [_]) rfl ?_
  show xpCs _ _ _ _ (W σ k j (mfs (I 0) (I 0) (I cyc) j pc sp a x y (fg c z i d v n)) (mem f)) _
  repeat (first | refine bm_i rfl (W_k m) ?_ | refine nilT ?_ | refine consT ?_ | refine mc_i rfl (W_k m) ?_ | refine ex_c ?_)
  refine sp_STA m (b := t) (by decide) (by lia) (by lia) (by rw [← e]; exact sp_AbsY m h0 h1 ho) ?_
  repeat (first | refine c_i ?_ | refine iw_add ?_ | refine nilR ?_ | refine aat_c rfl (W_k m) rfl ?_ | (refine aat_w (fs' := mfs _ _ _ _ _ _ _ _ _ _) m (ble rfl) rfl ?_))
  rw [show pc + 2 = pc + 1 + 1 by lia]
  exact q _
theorem d_91 (h0 : 0 ≤ pc) (h1 : pc < 65535) {w b lo hi : Int} (hw : f pc = w) (w0 : 0 ≤ w) (w1 : w < 256) (e1 : f w = lo) (e2 : f ((w + 1) % 256) = hi) (ho : 0 ≤ hi ∧ hi < 256) (e : (lo + hi * 256 + y) % 65536 = b) {f' : Int → Int} (ef : upd f b a = f') : Does C σ k j 129 0 ⟨pc, sp, a, x, y, c, z, i, d, v, n, f⟩ ⟨pc + 1, sp, a, x, y, c, z, i, d, v, n, f'⟩ := fun cyc Q q => by
  subst e1
  subst e2
  subst ef
  refine ⟨rfl, ?_⟩
  unfold ir_inst_0x91
  refine start (ρ' := [_]) rfl ?_
  show xpCs _ _ _ _ (W σ k j (mfs (I 0) (I 0) (I cyc) j pc sp a x y (fg c z i d v n)) (mem f)) _
  repeat (first | refine bm_i rfl (W_k m) ?_ | refine nilT ?_ | refine consT ?_ | refine mc_i rfl (W_k m) ?_ | refine ex_c ?_)
  refine sp_STA m (b := b) (by decide) (by lia) (by lia) (by rw [← e]; exact sp_IndY m h0 (by lia) hw w0 w1 ho) ?_
  repeat (first | refine c_i ?_ | refine iw_add ?_ | refine nilR ?_ | refine aat_c rfl (W_k m) rfl ?_ | (refine aat_w (fs' := mfs _ _ _ _ _ _ _ _ _ _) m (ble rfl) rfl ?_))
  exact q _
theorem d_6c (h0 : 0 ≤ pc) (h1 : pc < 65535) {lo hi t : Int} (e1 : f pc = lo) (e2 : f (pc + 1) = hi) (ho : 0 ≤ hi ∧ hi < 256) (et : lo + hi * 256 = t) (t0 : 0 ≤ t) (t1 : t < 65536) {l2 h2 u : Int} (e3 : f t = l2) (e4 : f (t / 256 * 256 + (t + 1) % 256) = h2) (ho2 : 0 ≤ h2 ∧ h2 < 256) (eu : l2 + h2 * 256 = u) : Does C σ k j 108 0 ⟨pc, sp, a, x, y, c, z, i, d, v, n, f⟩ ⟨u, sp, a, x, y, c, z, i, d, v, n, f⟩ := fun cyc Q q => by
  subst e1
  subst e2
  subst e3
  subst e4
  subst eu
  refine ⟨rfl, ?_⟩
  unfold ir_inst_0x6c
  refine start (ρ' := [_, _]) rfl ?_
  show xpCs _ _ _ _ (W σ k j (mfs (I 0) (I 0) (I cyc) j pc sp a x y (fg c z i d v n)) (mem f)) _
  repeat (first | refine fld_w m rfl rfl ?_ | refine nilT ?_ | refine consT ?_ | refine mc_i rfl (W_k m) ?_ | refine asg_c ?_)
  refine sp_WordAt m h0 h1 ho ?_
  repeat (first | refine v_i rfl ?_ | refine nilT ?_ | refine consT ?_ | refine mc_i rfl (W_k m) ?_ | refine sat_c ?_ | (first | refine pl (ρ' := [_, _]) rfl ?_ | refine pls (ρ' := [_, _]) rfl ?_))
  rw [et]
  refine sp_WrapAt m t0 t1 ho2 ?_
  repeat (first | refine nilR ?_ | (refine sat_w (fs' := mfs _ _ _ _ _ _ _ _ _ _) m rfl (ble rfl) rfl ?_))
  exact q _
theorem d_20 (h0 : 512 ≤ pc) (h1 : pc < 65535) {lo hi t : Int} (e1 : f pc = lo) (e2 : f (pc + 1) = hi) (ho : 0 ≤ hi ∧ hi < 256) (et : lo + hi * 256 = t) (hs : 0 ≤ sp ∧ sp < 256) {f' : Int → Int} (ef : upd (upd f (sp + 256) ((pc + 1) / 256)) ((sp - 1) % 256 + 256) ((pc + 1) % 256) = f') : Does C σ k j 64 0 ⟨pc, sp, a, x, y, c, z, i, d, v, n, f⟩ ⟨t, (sp - 2) % 256, a, x, y, c, z, i, d, v, n, f'⟩ := fun cyc Q q => by
  subst e1
  subst e2
  subst et
  subst ef
  refine ⟨rfl, ?_⟩
  unfold ir_inst_0x20
  refine start (ρ' := [_]) rfl ?_
  show xpCs _ _ _ _ (W σ k j (mfs (I 0) (I 0) (I cyc) j pc sp a x y (fg c z i d v n)) (mem f)) _
  repeat (first | refine c_i ?_ | refine fld_w m rfl rfl ?_ | refine bin_i ?_ | refine bw_add ?_ | refine bw_and16 ?_ | refine nilT ?_ | refine consT ?_ | refine mc_i rfl (W_k m) ?_ | refine ex_c ?_)
  rw [show (pc + 1) % 65536 = pc + 1 by lia]
  refine sp_pushW m hs.1 hs.2 (by lia) (by lia) ?_
  repeat (first | refine fld_w m rfl rfl ?_ | refine nilT ?_ | refine consT ?_ | refine mc_i rfl (W_k m) ?_ | refine sat_c ?_)
  have g : ∀ t, 512 ≤ t → (upd (upd f (sp + 256) ((pc + 1) / 256)) ((sp - 1) % 256 + 256) ((pc + 1) % 256)) t = f t := fun t ht => by unfold upd; rw [if_neg (by lia), if_neg (by lia)]
  refine sp_WordAt m (by lia) h1 (by rw [g _ (by lia)]; exact ho) ?_
  repeat (first | refine nilR ?_ | (refine sat_w (fs' := mfs _ _ _ _ _ _ _ _ _ _) m rfl (ble rfl) rfl ?_))
  rw [g pc h0, g (pc + 1) (by lia)]
  exact q _
theorem d_60 {lo hi t : Int} (e1 : f ((sp + 1) % 256 + 256) = lo) (e2 : f ((sp + 2) % 256 + 256) = hi) (ho : 0 ≤ hi ∧ hi < 256) (et : lo + hi * 256 = t) : Does C σ k j 101 0 ⟨pc, sp, a, x, y, c, z, i, d, v, n, f⟩ ⟨t + 1, (sp + 2) % 256, a, x, y, c, z, i, d, v, n, f⟩ := fun cyc Q q => by
  subst e1
  subst e2
  subst et
  refine ⟨rfl, ?_⟩
  unfold ir_inst_0x60
  refine start (ρ' := [_]) rfl ?_
  show xpCs _ _ _ _ (W σ k j (mfs (I 0) (I 0) (I cyc) j pc sp a x y (fg c z i d v n)) (mem f)) _
  repeat (first | refine nilT ?_ | refine mc_i rfl (W_k m) ?_ | refine sat_c ?_)
  refine sp_popW m ho ?_
  repeat (first | refine c_i ?_ | refine iw_add ?_ | refine nilR ?_ | refine aat_c rfl (W_k m) rfl ?_ | (refine sat_w (fs' := mfs _ _ _ _ _ _ _ _ _ _) m rfl (ble rfl) rfl ?_) | (refine aat_w (fs' := mfs _ _ _ _ _ _ _ _ _ _) m (ble rfl) rfl ?_))
  exact q _
theorem d_28 {w : Int} (e : f ((sp + 1) % 256 + 256) = w) (hw : 0 ≤ w ∧ w < 256) : Does C σ k j 69 0 ⟨pc, sp, a, x, y, c, z, i, d, v, n, f⟩ ⟨pc, (sp + 1) % 256, a, x, y, bit w 1, bit w 2, bit w 4, bit w 8, bit w 64, bit w 128, f⟩ := fun cyc Q q => by
  refine ⟨rfl, ?_⟩
  unfold ir_inst_0x28
  refine start (ρ' := [_]) rfl ?_
  show xpCs _ _ _ _ (W σ k j (mfs (I 0) (I 0) (I cyc) j pc sp a x y (fg c z i d v n)) (mem f)) _
  repeat (first | refine bin_i ?_ | refine nilT ?_ | refine mc_i rfl (W_k m) ?_ | refine sat_c ?_)
  refine sp_pop m ?_
  repeat (first | refine cat_i rfl (W_k m) ?_ | refine bw_or ?_ | refine nilR ?_ | (refine sat_w (fs' := mfs _ _ _ _ _ _ _ _ _ _) m rfl (ble rfl) rfl ?_))
  rw [e, fg_of hw]
  exact q _
theorem d_40 {w lo hi t : Int} (e : f ((sp + 1) % 256 + 256) = w) (hw : 0 ≤ w ∧ w < 256) (e1 : f ((sp + 2) % 256 + 256) = lo) (e2 : f ((sp + 3) % 256 + 256) = hi) (ho : 0 ≤ hi ∧ hi < 256) (et : lo + hi * 256 = t) : Does C σ k j 83 0 ⟨pc, sp, a, x, y, c, z, i, d, v, n, f⟩ ⟨t, (sp + 3) % 256, a, x, y, bit w 1, bit w 2, bit w 4, bit w 8, bit w 64, bit w 128, f⟩ := fun cyc Q q => by
  subst e1
  subst e2
  subst et
  refine ⟨rfl, ?_⟩
  unfold ir_inst_0x40
  refine start (ρ' := [_]) rfl ?_
  show xpCs _ _ _ _ (W σ k j (mfs (I 0) (I 0) (I cyc) j pc sp a x y (fg c z i d v n)) (mem f)) _
  repeat (first | refine bin_i ?_ | refine nilT ?_ | refine mc_i rfl (W_k m) ?_ | refine sat_c ?_)
  refine sp_pop m ?_
  repeat (first | refine cat_i rfl (W_k m) ?_ | refine bw_or ?_ | refine nilT ?_ | refine mc_i rfl (W_k m) ?_ | refine sat_c ?_ | (refine sat_w (fs' := mfs _ _ _ _ _ _ _ _ _ _) m rfl (ble rfl) rfl ?_))
  rw [e, fg_of hw]
  have e2 : ((sp + 1) % 256 + 2) % 256 = (sp + 3) % 256 := by lia
  refine sp_popW m (by rw [e2]; exact ho) ?_
  repeat (first | refine nilR ?_ | (refine sat_w (fs' := mfs _ _ _ _ _ _ _ _ _ _) m rfl (ble rfl) rfl ?_))
  rw [e2, show ((sp + 1) % 256 + 1) % 256 = (sp + 2) % 256 by lia]
  exact q _
theorem d_00 (h0 : 0 ≤ pc) (h1 : pc < 65535) (hs : 0 ≤ sp ∧ sp < 256) {lo hi t : Int} (e1 : f 65534 = lo) (e2 : f 65535 = hi) (ho : 0 ≤ hi ∧ hi < 256) (et : lo + hi * 256 = t) {f' : Int → Int} (ef : upd (upd (upd f (sp + 256) ((pc + 1) / 256)) ((sp - 1) % 256 + 256) ((pc + 1) % 256)) ((sp - 2) % 256 + 256) (fg c z i d v n) = f') : Does C σ k j 47 0 ⟨pc, sp, a, x, y, c, z, i, d, v, n, f⟩ ⟨t, (sp - 3) % 256, a, x, y, c, z, true, d, v, n, f'⟩ := fun cyc Q q => by
  subst e1
  subst e2
  subst et
  subst ef
  refine ⟨rfl, ?_⟩
  unfold ir_inst_0x00
  refine start (ρ' := [_, _]) rfl ?_
  show xpCs _ _ _ _ (W σ k j (mfs (I 0) (I 0) (I cyc) j pc sp a x y (fg c z i d v n)) (mem f)) _
  repeat (first | refine c_i ?_ | refine v_i rfl ?_ | refine fld_w m rfl rfl ?_ | refine bin_i ?_ | refine bw_add ?_ | refine bw_and16 ?_ | refine nilT ?_ | refine consT ?_ | refine mc_i rfl (W_k m) ?_ | refine asg_c ?_ | refine ex_c ?_ | (first | refine pl (ρ' := [_, _]) rfl ?_ | refine pls (ρ' := [_, _]) rfl ?_))
  rw [show (pc + 1) % 65536 = pc + 1 by lia]
  refine sp_pushW m hs.1 hs.2 (by lia) (by lia) ?_
  repeat (first | refine fld_w m rfl rfl ?_ | refine cat_i rfl (W_k m) ?_ | refine bin_i ?_ | refine bw_or ?_ | refine nilT ?_ | refine consT ?_ | refine mc_i rfl (W_k m) ?_ | refine iw_or ?_ | refine ex_c ?_ | refine aat_c rfl (W_k m) rfl ?_ | (refine aat_w (fs' := mfs _ _ _ _ _ _ _ _ _ _) m (ble rfl) rfl ?_))
  rw [fg_o16]
  repeat (fail)
  rw [fg_o16, fg_o32]
  refine sp_push m (by lia) (by lia) ?_
  repeat (first | refine cat_i rfl (W_k m) ?_ | refine nilT ?_ | refine consT ?_ | refine mc_i rfl (W_k m) ?_ | refine iw_or ?_ | refine sat_c ?_ | refine aat_c rfl (W_k m) rfl ?_ | (refine aat_w (fs' := mfs _ _ _ _ _ _ _ _ _ _) m (ble rfl) rfl ?_))
  have fo := fg_oct c z i d v n
  rw [fg_o4, show fg c z i d v n % 256 = fg c z i d v n by lia, show ((sp - 2) % 256 - 1) % 256 = (sp - 3) % 256 by lia]
  repeat (fail)
  have g : ∀ t, 512 ≤ t → (upd (upd (upd f (sp + 256) ((pc + 1) / 256)) ((sp - 1) % 256 + 256) ((pc + 1) % 256)) ((sp - 2) % 256 + 256) (fg c z i d v n)) t = f t := fun t ht => by unfold upd; rw [if_neg (by lia), if_neg (by lia), if_neg (by lia)]
  refine sp_WordAt m (by lia) (by lia) (by rw [g _ (by lia)]; exact ho) ?_
  repeat (first | refine nilR ?_ | (refine sat_w (fs' := mfs _ _ _ _ _ _ _ _ _ _) m rfl (ble rfl) rfl ?_))
  rw [g _ (by lia), g _ (by lia)]
  exact q _
theorem d_d8  : Does C σ k j 175 0 ⟨pc, sp, a, x, y, c, z, i, d, v, n, f⟩ ⟨pc, sp, a, x, y, c, z, i, false, v, n, f⟩ := fun cyc Q q => by
  refine ⟨rfl, ?_⟩
  unfold ir_inst_0xd8
  refine start (ρ' := [_]) rfl ?_
  show xpCs _ _ _ _ (W σ k j (mfs (I 0) (I 0) (I cyc) j pc sp a x y (fg c z i d v n)) (mem f)) _
  repeat (first | refine cat_i rfl (W_k m) ?_ | refine nilT ?_ | refine consT ?_ | refine mc_i rfl (W_k m) ?_ | refine ex_c ?_)
  refine sp_CLR m ?_
  repeat (refine nilR ?_)
  rw [kn8, fg_cld]
  exact q _
theorem d_18  : Does C σ k j 60 0 ⟨pc, sp, a, x, y, c, z, i, d, v, n, f⟩ ⟨pc, sp, a, x, y, false, z, i, d, v, n, f⟩ := fun cyc Q q => by
  refine ⟨rfl, ?_⟩
  unfold ir_inst_0x18
  refine start (ρ' := [_]) rfl ?_
  show xpCs _ _ _ _ (W σ k j (mfs (I 0) (I 0) (I cyc) j pc sp a x y (fg c z i d v n)) (mem f)) _
  repeat (first | refine cat_i rfl (W_k m) ?_ | refine nilT ?_ | refine consT ?_ | refine mc_i rfl (W_k m) ?_ | refine ex_c ?_)
  refine sp_CLR m ?_
  repeat (refine nilR ?_)
  rw [kn1, fg_clc]
  exact q _
theorem d_69 (h0 : 0 ≤ pc) (h1 : pc < 65535) {o : Int} (ha : 0 ≤ a ∧ a < 256) (e : f pc = o) (ho : 0 ≤ o ∧ o < 256) : Does C σ k j 106 0 ⟨pc, sp, a, x, y, false, z, i, false, v, n, f⟩ ⟨pc + 1, sp, (a + o) % 256, x, y, decide (a + o > 255), decide ((a + o) % 256 = 0), i, false, ovf a o, decide (128 ≤ (a + o) % 256), f⟩ := fun cyc Q q => by
  refine ⟨rfl, ?_⟩
  unfold ir_inst_0x69
  refine start (ρ' := [_]) rfl ?_
  show xpCs _ _ _ _ (W σ k j (mfs (I 0) (I 0) (I cyc) j pc sp a x y (fg false z i false v n)) (mem f)) _
  repeat (first | refine bm_i rfl (W_k m) ?_ | refine nilT ?_ | refine consT ?_ | refine mc_i rfl (W_k m) ?_ | refine ex_c ?_)
  refine sp_ADC m h0 (by lia) ha e ho ?_
  repeat (first | refine c_i ?_ | refine iw_add ?_ | refine nilR ?_ | refine aat_c rfl (W_k m) rfl ?_ | (refine aat_w (fs' := mfs _ _ _ _ _ _ _ _ _ _) m (ble rfl) rfl ?_))
  exact q _
theorem d_10 (h0 : 0 ≤ pc) (h1 : pc < 65535) {o : Int} (e : f pc = o) (ho : 0 ≤ o ∧ o < 256) : Does C σ k j 56 2 ⟨pc, sp, a, x, y, c, z, i, d, v, n, f⟩ ⟨if n then pc + 1 else goal pc o, sp, a, x, y, c, z, i, d, v, n, f⟩ := fun cyc Q q => by
  subst e
  refine ⟨rfl, ?_⟩
  unfold ir_inst_0x10
  refine start (ρ' := [_]) rfl ?_
  show xpCs _ _ _ _ (W σ k j (mfs (I 0) (I 2) (I cyc) j pc sp a x y (fg c z i d v n)) (mem f)) _
  repeat (first | refine cat_i rfl (W_k m) ?_ | refine nilT ?_ | refine consT ?_ | refine mc_i rfl (W_k m) ?_ | refine ex_c ?_)
  refine sp_BCL m (fg_128 c z i d v n) h0 (by lia) ho fun e => ?_
  repeat (refine nilR ?_)
  exact q _
theorem d_30 (h0 : 0 ≤ pc) (h1 : pc < 65535) {o : Int} (e : f pc = o) (ho : 0 ≤ o ∧ o < 256) : Does C σ k j 75 2 ⟨pc, sp, a, x, y, c, z, i, d, v, n, f⟩ ⟨if n then goal pc o else pc + 1, sp, a, x, y, c, z, i, d, v, n, f⟩ := fun cyc Q q => by
  subst e
  refine ⟨rfl, ?_⟩
  unfold ir_inst_0x30
  refine start (ρ' := [_]) rfl ?_
  show xpCs _ _ _ _ (W σ k j (mfs (I 0) (I 2) (I cyc) j pc sp a x y (fg c z i d v n)) (mem f)) _
  repeat (first | refine cat_i rfl (W_k m) ?_ | refine nilT ?_ | refine consT ?_ | refine mc_i rfl (W_k m) ?_ | refine ex_c ?_)
  refine sp_BST m (fg_128 c z i d v n) h0 (by lia) ho fun e => ?_
  repeat (refine nilR ?_)
  exact q _
theorem d_50 (h0 : 0 ≤ pc) (h1 : pc < 65535) {o : Int} (e : f pc = o) (ho : 0 ≤ o ∧ o < 256) : Does C σ k j 93 2 ⟨pc, sp, a, x, y, c, z, i, d, v, n, f⟩ ⟨if v then pc + 1 else goal pc o, sp, a, x, y, c, z, i, d, v, n, f⟩ := fun cyc Q q => by
  subst e
  refine ⟨rfl, ?_⟩
  unfold ir_inst_0x50
  refine start (ρ' := [_]) rfl ?_
  show xpCs _ _ _ _ (W σ k j (mfs (I 0) (I 2) (I cyc) j pc sp a x y (fg c z i d v n)) (mem f)) _
  repeat (first | refine cat_i rfl (W_k m) ?_ | refine nilT ?_ | refine consT ?_ | refine mc_i rfl (W_k m) ?_ | refine ex_c ?_)
  refine sp_BCL m (fg_64 c z i d v n) h0 (by lia) ho fun e => ?_
  repeat (refine nilR ?_)
  exact q _
theorem d_70 (h0 : 0 ≤ pc) (h1 : pc < 65535) {o : Int} (e : f pc = o) (ho : 0 ≤ o ∧ o < 256) : Does C σ k j 111 2 ⟨pc, sp, a, x, y, c, z, i, d, v, n, f⟩ ⟨if v then goal pc o else pc + 1, sp, a, x, y, c, z, i, d, v, n, f⟩ := fun cyc Q q => by
  subst e
  refine ⟨rfl, ?_⟩
  unfold ir_inst_0x70
  refine start (ρ' := [_]) rfl ?_
  show xpCs _ _ _ _ (W σ k j (mfs (I 0) (I 2) (I cyc) j pc sp a x y (fg c z i d v n)) (mem f)) _
  repeat (first | refine cat_i rfl (W_k m) ?_ | refine nilT ?_ | refine consT ?_ | refine mc_i rfl (W_k m) ?_ | refine ex_c ?_)
  refine sp_BST m (fg_64 c z i d v n) h0 (by lia) ho fun e => ?_
  repeat (refine nilR ?_)
  exact q _
theorem d_90 (h0 : 0 ≤ pc) (h1 : pc < 65535) {o : Int} (e : f pc = o) (ho : 0 ≤ o ∧ o < 256) : Does C σ k j 128 2 ⟨pc, sp, a, x, y, c, z, i, d, v, n, f⟩ ⟨if c then pc + 1 else goal pc o, sp, a, x, y, c, z, i, d, v, n, f⟩ := fun cyc Q q => by
  subst e
  refine ⟨rfl, ?_⟩
  unfold ir_inst_0x90
  refine start (ρ' := [_]) rfl ?_
  show xpCs _ _ _ _ (W σ k j (mfs (I 0) (I 2) (I cyc) j pc sp a x y (fg c z i d v n)) (mem f)) _
  repeat (first | refine cat_i rfl (W_k m) ?_ | refine nilT ?_ | refine consT ?_ | refine mc_i rfl (W_k m) ?_ | refine ex_c ?_)
  refine sp_BCL m (fg_1 c z i d v n) h0 (by lia) ho fun e => ?_
  repeat (refine nilR ?_)
  exact q _
theorem d_b0 (h0 : 0 ≤ pc) (h1 : pc < 65535) {o : Int} (e : f pc = o) (ho : 0 ≤ o ∧ o < 256) : Does C σ k j 149 2 ⟨pc, sp, a, x, y, c, z, i, d, v, n, f⟩ ⟨if c then goal pc o else pc + 1, sp, a, x, y, c, z, i, d, v, n, f⟩ := fun cyc Q q => by
  subst e
  refine ⟨rfl, ?_⟩
  unfold ir_inst_0xb0
  refine start (ρ' := [_]) rfl ?_
  show xpCs _ _ _ _ (W σ k j (mfs (I 0) (I 2) (I cyc) j pc sp a x y (fg c z i d v n)) (mem f)) _
  repeat (first | refine cat_i rfl (W_k m) ?_ | refine nilT ?_ | refine consT ?_ | refine mc_i rfl (W_k m) ?_ | refine ex_c ?_)
  refine sp_BST m (fg_1 c z i d v n) h0 (by lia) ho fun e => ?_
  repeat (refine nilR ?_)
  exact q _
theorem d_d0 (h0 : 0 ≤ pc) (h1 : pc < 65535) {o : Int} (e : f pc = o) (ho : 0 ≤ o ∧ o < 256) : Does C σ k j 171 2 ⟨pc, sp, a, x, y, c, z, i, d, v, n, f⟩ ⟨if z then pc + 1 else goal pc o, sp, a, x, y, c, z, i, d, v, n, f⟩ := fun cyc Q q => by
  subst e
  refine ⟨rfl, ?_⟩
  unfold ir_inst_0xd0
  refine start (ρ' := [_]) rfl ?_
  show xpCs _ _ _ _ (W σ k j (mfs (I 0) (I 2) (I cyc) j pc sp a x y (fg c z i d v n)) (mem f)) _
  repeat (first | refine cat_i rfl (W_k m) ?_ | refine nilT ?_ | refine consT ?_ | refine mc_i rfl (W_k m) ?_ | refine ex_c ?_)
  refine sp_BCL m (fg_2 c z i d v n) h0 (by lia) ho fun e => ?_
  repeat (refine nilR ?_)
  exact q _
theorem d_f0 (h0 : 0 ≤ pc) (h1 : pc < 65535) {o : Int} (e : f pc = o) (ho : 0 ≤ o ∧ o < 256) : Does C σ k j 190 2 ⟨pc, sp, a, x, y, c, z, i, d, v, n, f⟩ ⟨if z then goal pc o else pc + 1, sp, a, x, y, c, z, i, d, v, n, f⟩ := fun cyc Q q => by
  subst e
  refine ⟨rfl, ?_⟩
  unfold ir_inst_0xf0
  refine start (ρ' := [_]) rfl ?_
  show xpCs _ _ _ _ (W σ k j (mfs (I 0) (I 2) (I cyc) j pc sp a x y (fg c z i d v n)) (mem f)) _
  repeat (first | refine cat_i rfl (W_k m) ?_ | refine nilT ?_ | refine consT ?_ | refine mc_i rfl (W_k m) ?_ | refine ex_c ?_)
  refine sp_BST m (fg_2 c z i d v n) h0 (by lia) ho fun e => ?_
  repeat (refine nilR ?_)
  exact q _
end
end Mine.Mp
end
section
open PySem PySem.W
namespace Mine.Mp
open Mine.Hd Mine.Py Mine.Pu
noncomputable def full (B stk lg : Int → Int) (lf cn : Int) : Int → Int := fun a => if a = 16 then lf else if a = 17 then cn else if 256 ≤ a ∧ a < 512 then stk (a - 256) else if 640 ≤ a ∧ a < 672 then lg (a - 640) else B a
noncomputable def Co (n : Nat) (pc : Int) : Prop := (512 ≤ pc ∧ pc + n < 600) ∨ (672 ≤ pc ∧ pc + n < 65530)
theorem Co.s {n : Nat} {pc : Int} (h : Co (n + 1) pc) : Co n (pc + 1) := by unfold Co at *; lia
theorem Co.p {n : Nat} {pc : Int} (h : Co n pc) : 512 ≤ pc := by unfold Co at h; lia
theorem Co.z {n : Nat} {pc : Int} (h : Co n pc) : 0 ≤ pc := Int.le_trans (by decide) h.p
theorem Co.q {n : Nat} {pc : Int} (h : Co n pc) : pc < 65535 := by unfold Co at h; lia
theorem Co.e {n : Nat} {pc : Int} (h : Co n pc) : 0 ≤ pc + 1 ∧ pc + 1 < 65536 := by unfold Co at h; lia
theorem Co.ne {n : Nat} {pc : Int} (h : Co n pc) : pc ≠ 600 := by unfold Co at h; lia
theorem Co.of {pc : Int} (h : 672 ≤ pc ∧ pc < 65000) : Co 20 pc := by unfold Co; lia
theorem lt256 {t : Int} (h : 0 ≤ t ∧ t < 32) : 0 ≤ t ∧ t < 256 := ⟨h.1, Int.lt_trans h.2 (by decide)⟩
theorem o2 : (0 : Int) ≤ 2 ∧ (2 : Int) < 256 := by decide
theorem o16 : (0 : Int) ≤ 16 ∧ (16 : Int) < 256 := by decide
theorem o17 : (0 : Int) ≤ 17 ∧ (17 : Int) < 256 := by decide
theorem mo (t : Int) : 0 ≤ t % 256 ∧ t % 256 < 256 := by lia
theorem l640 {x : Int} (h : 0 ≤ x ∧ x < 32) : (128 + 2 * 256 + x) % 65536 = 640 + x := by lia
theorem pc2 {t : Int} : t + 1 + 1 = t + 2 := Int.add_assoc t 1 1
section
variable {B stk lg : Int → Int} {lf cn : Int}
theorem full_B {t : Int} (h : (512 ≤ t ∧ t < 640) ∨ 672 ≤ t ∨ t = 0 ∨ t = 255) : full B stk lg lf cn t = B t := by
  unfold full
  rw [if_neg (by lia), if_neg (by lia), if_neg (by lia), if_neg (by lia)]
theorem full_s {t : Int} (h : 0 ≤ t ∧ t < 256) : full B stk lg lf cn (t + 256) = stk t := by
  unfold full
  rw [if_neg (by lia), if_neg (by lia), if_pos (by lia), show t + 256 - 256 = t by lia]
theorem upd_16 {v : Int} : upd (full B stk lg lf cn) 16 v = full B stk lg v cn := by
  funext t; unfold upd full; (try dsimp only)
  by_cases h : t = 16 <;> simp [h]
theorem upd_17 {v : Int} : upd (full B stk lg lf cn) 17 v = full B stk lg lf v := by
  funext t; unfold upd full; (try dsimp only)
  by_cases h : t = 17
  · subst h; rfl
  · simp [h]
theorem upd_s {s v : Int} (h : 0 ≤ s ∧ s < 256) : upd (full B stk lg lf cn) (s + 256) v = full B (upd stk s v) lg lf cn := by
  funext t; unfold upd full; (try dsimp only)
  by_cases q : t = s + 256
  · rw [if_pos q, if_neg (by lia), if_neg (by lia), if_pos (by lia), if_pos (by lia)]
  · rw [if_neg q]
    by_cases r : 256 ≤ t ∧ t < 512
    · rw [if_pos r, if_pos r, if_neg (show ¬ t - 256 = s by lia)]
    · rw [if_neg r, if_neg r]
theorem upd_l {s v : Int} (h : 0 ≤ s ∧ s < 32) : upd (full B stk lg lf cn) (640 + s) v = full B stk (upd lg s v) lf cn := by
  funext t; unfold upd full; (try dsimp only)
  by_cases q : t = 640 + s
  · rw [if_pos q, if_neg (by lia), if_neg (by lia), if_neg (by lia), if_pos (by lia), if_pos (by lia)]
  · rw [if_neg q]
    by_cases r : 640 ≤ t ∧ t < 672
    · rw [if_pos r, if_pos r, if_neg (show ¬ t - 640 = s by lia)]
    · rw [if_neg r, if_neg r]
theorem Co.in' {n : Nat} {t : Int} (h : Co n t) : (512 ≤ t ∧ t < 640) ∨ 672 ≤ t ∨ t = 0 ∨ t = 255 := by unfold Co at h; lia
theorem Co.rd {n : Nat} {t : Int} (h : Co n t) : full B stk lg lf cn t = B t := full_B h.in'
theorem Co.r {n : Nat} {t : Int} (h : Co n t) : t + 1 < 65535 := by unfold Co at h; lia
theorem pick_ok {b : Bool} {x y : Int} (h : 0 ≤ x ∧ x < 65536) (g : 0 ≤ y ∧ y < 65536) : 0 ≤ (if b then x else y) ∧ (if b then x else y) < 65536 := by cases b <;> assumption
theorem go_ok {n : Nat} {t o : Int} (h : Co n t) (ho : 0 ≤ o ∧ o < 256) : 0 ≤ goal t o ∧ goal t o < 65536 := by unfold Co at h; unfold goal; split <;> lia
end
section
variable {w : World} {l : Nat} {ns : List Int} {h₀ : Heap} {hw : ∃ o, h₀.get? 80 = some o} {gens : Array GenState} {os : OsState} {σ : St} {k j : Nat} (m : Mk σ k j) {pc sp a x y : Int} {c z i d v n : Bool} {B stk lg : Int → Int} {lf cn : Int}
include m
theorem sx {nn g : Nat} {code cy ex : Int} {s' : Ms} (hc : Co nn pc) (e0 : B pc = code) (hg : g < 300) (k0 : idxL (insL.map fun a => .fn ((a - 43) / 7)) code = some (.fn g)) (k1 : idxL (cycL.map fun i => .at (.int i)) code = some (I cy)) (k2 : idxL (extL.map fun i => .at (.int i)) code = some (I ex)) (h : 0 ≤ s'.pc ∧ s'.pc < 65536)
    (call : Does (cfg w l ns h₀ hw gens os) σ k j g ex ⟨pc + 1, sp, a, x, y, c, z, i, d, v, n, full B stk lg lf cn⟩ s') : Stp (cfg w l ns h₀ hw gens os) σ k j ⟨pc, sp, a, x, y, c, z, i, d, v, n, full B stk lg lf cn⟩ s' :=
  sp_step m hg hc.z hc.q ((full_B hc.in').trans e0) k0 k1 k2 h.1 h.2 call
theorem x_a9 {nn : Nat} (hc : Co (nn + 1) pc) (e0 : B pc = 169) {o : Int} (e1 : B (pc + 1) = o) (ho : 0 ≤ o ∧ o < 256) : Stp (cfg w l ns h₀ hw gens os) σ k j ⟨pc, sp, a, x, y, c, z, i, d, v, n, full B stk lg lf cn⟩ ⟨pc + 1 + 1, sp, o, x, y, c, decide (o = 0), i, d, v, decide (128 ≤ o), full B stk lg lf cn⟩ :=
  sx m hc e0 (by decide) (cy := 2) (by kernel_rfl) (by kernel_rfl) (by kernel_rfl) hc.s.e (d_a9 m hc.s.z hc.s.q (hc.s.rd.trans e1) ho)
theorem x_a2 {nn : Nat} (hc : Co (nn + 1) pc) (e0 : B pc = 162) {o : Int} (e1 : B (pc + 1) = o) (ho : 0 ≤ o ∧ o < 256) : Stp (cfg w l ns h₀ hw gens os) σ k j ⟨pc, sp, a, x, y, c, z, i, d, v, n, full B stk lg lf cn⟩ ⟨pc + 1 + 1, sp, a, o, y, c, decide (o = 0), i, d, v, decide (128 ≤ o), full B stk lg lf cn⟩ :=
  sx m hc e0 (by decide) (cy := 2) (by kernel_rfl) (by kernel_rfl) (by kernel_rfl) hc.s.e (d_a2 m hc.s.z hc.s.q (hc.s.rd.trans e1) ho)
theorem x_9a {nn : Nat} (hc : Co (nn + 0) pc) (e0 : B pc = 154)  : Stp (cfg w l ns h₀ hw gens os) σ k j ⟨pc, sp, a, x, y, c, z, i, d, v, n, full B stk lg lf cn⟩ ⟨pc + 1, x, a, x, y, c, z, i, d, v, n, full B stk lg lf cn⟩ :=
  sx m hc e0 (by decide) (cy := 2) (by kernel_rfl) (by kernel_rfl) (by kernel_rfl) hc.e (d_9a m )
theorem x_48 {nn : Nat} (hc : Co (nn + 0) pc) (e0 : B pc = 72) (hs : 0 ≤ sp ∧ sp < 256) (ha : 0 ≤ a ∧ a < 256) : Stp (cfg w l ns h₀ hw gens os) σ k j ⟨pc, sp, a, x, y, c, z, i, d, v, n, full B stk lg lf cn⟩ ⟨pc + 1, (sp - 1) % 256, a, x, y, c, z, i, d, v, n, full B (upd stk sp a) lg lf cn⟩ :=
  sx m hc e0 (by decide) (cy := 3) (by kernel_rfl) (by kernel_rfl) (by kernel_rfl) hc.e (d_48 m hs ha (upd_s hs))
theorem x_4c {nn : Nat} (hc : Co (nn + 2) pc) (e0 : B pc = 76) {lo hi t : Int} (e1 : B (pc + 1) = lo) (e2 : B (pc + 1 + 1) = hi) (hh : 0 ≤ hi ∧ hi < 256) (et : lo + hi * 256 = t) (ht : 0 ≤ t ∧ t < 65536) : Stp (cfg w l ns h₀ hw gens os) σ k j ⟨pc, sp, a, x, y, c, z, i, d, v, n, full B stk lg lf cn⟩ ⟨t, sp, a, x, y, c, z, i, d, v, n, full B stk lg lf cn⟩ :=
  sx m hc e0 (by decide) (cy := 3) (by kernel_rfl) (by kernel_rfl) (by kernel_rfl) ht (d_4c m hc.s.z hc.s.q (hc.s.rd.trans e1) (hc.s.s.rd.trans e2) hh et)
theorem x_c6 {nn : Nat} (hc : Co (nn + 1) pc) (e0 : B pc = 198) (e1 : B (pc + 1) = 16) : Stp (cfg w l ns h₀ hw gens os) σ k j ⟨pc, sp, a, x, y, c, z, i, d, v, n, full B stk lg lf cn⟩ ⟨pc + 1 + 1, sp, a, x, y, c, decide ((lf - 1) % 256 = 0), i, d, v, decide (128 ≤ (lf - 1) % 256), full B stk lg ((lf - 1) % 256) cn⟩ :=
  sx m hc e0 (by decide) (cy := 5) (by kernel_rfl) (by kernel_rfl) (by kernel_rfl) hc.s.e (d_c6 m hc.s.z hc.s.q (hc.s.rd.trans e1) o16 rfl upd_16)
theorem x_e6 {nn : Nat} (hc : Co (nn + 1) pc) (e0 : B pc = 230) (e1 : B (pc + 1) = 17) : Stp (cfg w l ns h₀ hw gens os) σ k j ⟨pc, sp, a, x, y, c, z, i, d, v, n, full B stk lg lf cn⟩ ⟨pc + 1 + 1, sp, a, x, y, c, decide ((cn + 1) % 256 = 0), i, d, v, decide (128 ≤ (cn + 1) % 256), full B stk lg lf ((cn + 1) % 256)⟩ :=
  sx m hc e0 (by decide) (cy := 5) (by kernel_rfl) (by kernel_rfl) (by kernel_rfl) hc.s.e (d_e6 m hc.s.z hc.s.q (hc.s.rd.trans e1) o17 rfl upd_17)
theorem x_a6 {nn : Nat} (hc : Co (nn + 1) pc) (e0 : B pc = 166) (e1 : B (pc + 1) = 17) (hn : 0 ≤ cn ∧ cn < 32) : Stp (cfg w l ns h₀ hw gens os) σ k j ⟨pc, sp, a, x, y, c, z, i, d, v, n, full B stk lg lf cn⟩ ⟨pc + 1 + 1, sp, a, cn, y, c, decide (cn = 0), i, d, v, decide (128 ≤ cn), full B stk lg lf cn⟩ :=
  sx m hc e0 (by decide) (cy := 3) (by kernel_rfl) (by kernel_rfl) (by kernel_rfl) hc.s.e (d_a6 m hc.s.z hc.s.q (hc.s.rd.trans e1) o17 rfl (lt256 hn))
theorem x_a4 {nn : Nat} (hc : Co (nn + 1) pc) (e0 : B pc = 164) (e1 : B (pc + 1) = 17) (hn : 0 ≤ cn ∧ cn < 32) : Stp (cfg w l ns h₀ hw gens os) σ k j ⟨pc, sp, a, x, y, c, z, i, d, v, n, full B stk lg lf cn⟩ ⟨pc + 1 + 1, sp, a, x, cn, c, decide (cn = 0), i, d, v, decide (128 ≤ cn), full B stk lg lf cn⟩ :=
  sx m hc e0 (by decide) (cy := 3) (by kernel_rfl) (by kernel_rfl) (by kernel_rfl) hc.s.e (d_a4 m hc.s.z hc.s.q (hc.s.rd.trans e1) o17 rfl (lt256 hn))
theorem x_9d {nn : Nat} (hc : Co (nn + 2) pc) (e0 : B pc = 157) (e1 : B (pc + 1) = 128) (e2 : B (pc + 1 + 1) = 2) (hx : 0 ≤ x ∧ x < 32) : Stp (cfg w l ns h₀ hw gens os) σ k j ⟨pc, sp, a, x, y, c, z, i, d, v, n, full B stk lg lf cn⟩ ⟨pc + 1 + 1 + 1, sp, a, x, y, c, z, i, d, v, n, full B stk (upd lg x a) lf cn⟩ :=
  sx m hc e0 (by decide) (cy := 5) (by kernel_rfl) (by kernel_rfl) (by kernel_rfl) hc.s.s.e (d_9d m hc.s.z hc.s.q (hc.s.rd.trans e1) (hc.s.s.rd.trans e2) o2 (l640 hx) (upd_l hx))
theorem x_99 {nn : Nat} (hc : Co (nn + 2) pc) (e0 : B pc = 153) (e1 : B (pc + 1) = 128) (e2 : B (pc + 1 + 1) = 2) (hx : 0 ≤ y ∧ y < 32) : Stp (cfg w l ns h₀ hw gens os) σ k j ⟨pc, sp, a, x, y, c, z, i, d, v, n, full B stk lg lf cn⟩ ⟨pc + 1 + 1 + 1, sp, a, x, y, c, z, i, d, v, n, full B stk (upd lg y a) lf cn⟩ :=
  sx m hc e0 (by decide) (cy := 5) (by kernel_rfl) (by kernel_rfl) (by kernel_rfl) hc.s.s.e (d_99 m hc.s.z hc.s.q (hc.s.rd.trans e1) (hc.s.s.rd.trans e2) o2 (l640 hx) (upd_l hx))
theorem x_91 {nn : Nat} (hc : Co (nn + 1) pc) (e0 : B pc = 145) (e1 : B (pc + 1) = 255) (p1 : B 255 = 128) (p0 : B 0 = 2) (hx : 0 ≤ y ∧ y < 32) : Stp (cfg w l ns h₀ hw gens os) σ k j ⟨pc, sp, a, x, y, c, z, i, d, v, n, full B stk lg lf cn⟩ ⟨pc + 1 + 1, sp, a, x, y, c, z, i, d, v, n, full B stk (upd lg y a) lf cn⟩ :=
  sx m hc e0 (by decide) (cy := 6) (by kernel_rfl) (by kernel_rfl) (by kernel_rfl) hc.s.e (d_91 m hc.s.z hc.s.q (hc.s.rd.trans e1) (by decide) (by decide) ((full_B (by lia)).trans p1) ((full_B (t := 0) (by lia)).trans p0) o2 (l640 hx) (upd_l hx))
theorem x_6c {nn : Nat} (hc : Co (nn + 2) pc) (e0 : B pc = 108) {lo hi t : Int} (e1 : B (pc + 1) = lo) (e2 : B (pc + 1 + 1) = hi) (hh : 0 ≤ hi ∧ hi < 256) (et : lo + hi * 256 = t) (ht : 672 ≤ t ∧ t < 65280) {l2 h2 u : Int} (e3 : B t = l2) (t2 : 672 ≤ t / 256 * 256 + (t + 1) % 256) (e4 : B (t / 256 * 256 + (t + 1) % 256) = h2) (ho : 0 ≤ h2 ∧ h2 < 256) (eu : l2 + h2 * 256 = u) (hv : 0 ≤ u ∧ u < 65536) : Stp (cfg w l ns h₀ hw gens os) σ k j ⟨pc, sp, a, x, y, c, z, i, d, v, n, full B stk lg lf cn⟩ ⟨u, sp, a, x, y, c, z, i, d, v, n, full B stk lg lf cn⟩ :=
  sx m hc e0 (by decide) (cy := 5) (by kernel_rfl) (by kernel_rfl) (by kernel_rfl) hv (d_6c m hc.s.z hc.s.q (hc.s.rd.trans e1) (hc.s.s.rd.trans e2) hh et (by lia) (by lia) ((full_B (.inr (.inl ht.1))).trans e3) ((full_B (.inr (.inl t2))).trans e4) ho eu)
theorem x_20 {nn : Nat} (hc : Co (nn + 2) pc) (e0 : B pc = 32) {lo hi t : Int} (e1 : B (pc + 1) = lo) (e2 : B (pc + 1 + 1) = hi) (hh : 0 ≤ hi ∧ hi < 256) (et : lo + hi * 256 = t) (ht : 0 ≤ t ∧ t < 65536) (hs : 0 ≤ sp ∧ sp < 256) : Stp (cfg w l ns h₀ hw gens os) σ k j ⟨pc, sp, a, x, y, c, z, i, d, v, n, full B stk lg lf cn⟩ ⟨t, (sp - 2) % 256, a, x, y, c, z, i, d, v, n, full B (upd (upd stk sp ((pc + 2) / 256)) ((sp - 1) % 256) ((pc + 2) % 256)) lg lf cn⟩ :=
  sx m hc e0 (by decide) (cy := 6) (by kernel_rfl) (by kernel_rfl) (by kernel_rfl) ht (d_20 m hc.s.p hc.s.q (hc.s.rd.trans e1) (hc.s.s.rd.trans e2) hh et hs (by rw [upd_s hs, upd_s (mo _), pc2]))
theorem x_60 {nn : Nat} (hc : Co (nn + 0) pc) (e0 : B pc = 96) {lo hi t : Int} (e1 : stk ((sp + 1) % 256) = lo) (e2 : stk ((sp + 2) % 256) = hi) (hh : 0 ≤ hi ∧ hi < 256) (et : lo + hi * 256 = t) (ht : 0 ≤ t + 1 ∧ t + 1 < 65536) : Stp (cfg w l ns h₀ hw gens os) σ k j ⟨pc, sp, a, x, y, c, z, i, d, v, n, full B stk lg lf cn⟩ ⟨t + 1, (sp + 2) % 256, a, x, y, c, z, i, d, v, n, full B stk lg lf cn⟩ :=
  sx m hc e0 (by decide) (cy := 6) (by kernel_rfl) (by kernel_rfl) (by kernel_rfl) ht (d_60 m ((full_s (mo _)).trans e1) ((full_s (mo _)).trans e2) hh et)
theorem x_28 {nn : Nat} (hc : Co (nn + 0) pc) (e0 : B pc = 40) {q : Int} (e1 : stk ((sp + 1) % 256) = q) (hq : 0 ≤ q ∧ q < 256) : Stp (cfg w l ns h₀ hw gens os) σ k j ⟨pc, sp, a, x, y, c, z, i, d, v, n, full B stk lg lf cn⟩ ⟨pc + 1, (sp + 1) % 256, a, x, y, bit q 1, bit q 2, bit q 4, bit q 8, bit q 64, bit q 128, full B stk lg lf cn⟩ :=
  sx m hc e0 (by decide) (cy := 4) (by kernel_rfl) (by kernel_rfl) (by kernel_rfl) hc.e (d_28 m ((full_s (mo _)).trans e1) hq)
theorem x_40 {nn : Nat} (hc : Co (nn + 0) pc) (e0 : B pc = 64) {q lo hi t : Int} (e1 : stk ((sp + 1) % 256) = q) (hq : 0 ≤ q ∧ q < 256) (e2 : stk ((sp + 2) % 256) = lo) (e3 : stk ((sp + 3) % 256) = hi) (hh : 0 ≤ hi ∧ hi < 256) (et : lo + hi * 256 = t) (ht : 0 ≤ t ∧ t < 65536) : Stp (cfg w l ns h₀ hw gens os) σ k j ⟨pc, sp, a, x, y, c, z, i, d, v, n, full B stk lg lf cn⟩ ⟨t, (sp + 3) % 256, a, x, y, bit q 1, bit q 2, bit q 4, bit q 8, bit q 64, bit q 128, full B stk lg lf cn⟩ :=
  sx m hc e0 (by decide) (cy := 6) (by kernel_rfl) (by kernel_rfl) (by kernel_rfl) ht (d_40 m ((full_s (mo _)).trans e1) hq ((full_s (mo _)).trans e2) ((full_s (mo _)).trans e3) hh et)
theorem x_00 {nn : Nat} (hc : Co (nn + 0) pc) (e0 : B pc = 0) (hs : 0 ≤ sp ∧ sp < 256) (b4 : B 65534 = 48) (b5 : B 65535 = 2) : Stp (cfg w l ns h₀ hw gens os) σ k j ⟨pc, sp, a, x, y, c, z, i, d, v, n, full B stk lg lf cn⟩ ⟨560, (sp - 3) % 256, a, x, y, c, z, true, d, v, n, full B (upd (upd (upd stk sp ((pc + 2) / 256)) ((sp - 1) % 256) ((pc + 2) % 256)) ((sp - 2) % 256) (fg c z i d v n)) lg lf cn⟩ :=
  sx m hc e0 (by decide) (cy := 7) (by kernel_rfl) (by kernel_rfl) (by kernel_rfl) (show (0 : Int) ≤ 560 ∧ (560 : Int) < 65536 by decide) (d_00 m hc.e.1 hc.r hs ((full_B (by lia)).trans b4) ((full_B (by lia)).trans b5) o2 rfl (by rw [upd_s hs, upd_s (mo _), upd_s (mo _), pc2]))
theorem x_d8 {nn : Nat} (hc : Co (nn + 0) pc) (e0 : B pc = 216)  : Stp (cfg w l ns h₀ hw gens os) σ k j ⟨pc, sp, a, x, y, c, z, i, d, v, n, full B stk lg lf cn⟩ ⟨pc + 1, sp, a, x, y, c, z, i, false, v, n, full B stk lg lf cn⟩ :=
  sx m hc e0 (by decide) (cy := 2) (by kernel_rfl) (by kernel_rfl) (by kernel_rfl) hc.e (d_d8 m )
theorem x_18 {nn : Nat} (hc : Co (nn + 0) pc) (e0 : B pc = 24)  : Stp (cfg w l ns h₀ hw gens os) σ k j ⟨pc, sp, a, x, y, c, z, i, d, v, n, full B stk lg lf cn⟩ ⟨pc + 1, sp, a, x, y, false, z, i, d, v, n, full B stk lg lf cn⟩ :=
  sx m hc e0 (by decide) (cy := 2) (by kernel_rfl) (by kernel_rfl) (by kernel_rfl) hc.e (d_18 m )
theorem x_69 {nn : Nat} (hc : Co (nn + 1) pc) (e0 : B pc = 105) {o : Int} (e1 : B (pc + 1) = o) (ho : 0 ≤ o ∧ o < 256) (ha : 0 ≤ a ∧ a < 256) : Stp (cfg w l ns h₀ hw gens os) σ k j ⟨pc, sp, a, x, y, false, z, i, false, v, n, full B stk lg lf cn⟩ ⟨pc + 1 + 1, sp, (a + o) % 256, x, y, decide (a + o > 255), decide ((a + o) % 256 = 0), i, false, ovf a o, decide (128 ≤ (a + o) % 256), full B stk lg lf cn⟩ :=
  sx m hc e0 (by decide) (cy := 2) (by kernel_rfl) (by kernel_rfl) (by kernel_rfl) hc.s.e (d_69 m hc.s.z hc.s.q ha (hc.s.rd.trans e1) ho)
theorem x_10 {nn : Nat} (hc : Co (nn + 1) pc) (e0 : B pc = 16) {o : Int} (e1 : B (pc + 1) = o) (ho : 0 ≤ o ∧ o < 256) : Stp (cfg w l ns h₀ hw gens os) σ k j ⟨pc, sp, a, x, y, c, z, i, d, v, n, full B stk lg lf cn⟩ ⟨if n then pc + 1 + 1 else goal (pc + 1) o, sp, a, x, y, c, z, i, d, v, n, full B stk lg lf cn⟩ :=
  sx m hc e0 (by decide) (cy := 2) (by kernel_rfl) (by kernel_rfl) (by kernel_rfl) (pick_ok hc.s.e (go_ok hc.s ho)) (d_10 m hc.s.z hc.s.q (hc.s.rd.trans e1) ho)
theorem x_30 {nn : Nat} (hc : Co (nn + 1) pc) (e0 : B pc = 48) {o : Int} (e1 : B (pc + 1) = o) (ho : 0 ≤ o ∧ o < 256) : Stp (cfg w l ns h₀ hw gens os) σ k j ⟨pc, sp, a, x, y, c, z, i, d, v, n, full B stk lg lf cn⟩ ⟨if n then goal (pc + 1) o else pc + 1 + 1, sp, a, x, y, c, z, i, d, v, n, full B stk lg lf cn⟩ :=
  sx m hc e0 (by decide) (cy := 2) (by kernel_rfl) (by kernel_rfl) (by kernel_rfl) (pick_ok (go_ok hc.s ho) hc.s.e) (d_30 m hc.s.z hc.s.q (hc.s.rd.trans e1) ho)
theorem x_50 {nn : Nat} (hc : Co (nn + 1) pc) (e0 : B pc = 80) {o : Int} (e1 : B (pc + 1) = o) (ho : 0 ≤ o ∧ o < 256) : Stp (cfg w l ns h₀ hw gens os) σ k j ⟨pc, sp, a, x, y, c, z, i, d, v, n, full B stk lg lf cn⟩ ⟨if v then pc + 1 + 1 else goal (pc + 1) o, sp, a, x, y, c, z, i, d, v, n, full B stk lg lf cn⟩ :=
  sx m hc e0 (by decide) (cy := 2) (by kernel_rfl) (by kernel_rfl) (by kernel_rfl) (pick_ok hc.s.e (go_ok hc.s ho)) (d_50 m hc.s.z hc.s.q (hc.s.rd.trans e1) ho)
theorem x_70 {nn : Nat} (hc : Co (nn + 1) pc) (e0 : B pc = 112) {o : Int} (e1 : B (pc + 1) = o) (ho : 0 ≤ o ∧ o < 256) : Stp (cfg w l ns h₀ hw gens os) σ k j ⟨pc, sp, a, x, y, c, z, i, d, v, n, full B stk lg lf cn⟩ ⟨if v then goal (pc + 1) o else pc + 1 + 1, sp, a, x, y, c, z, i, d, v, n, full B stk lg lf cn⟩ :=
  sx m hc e0 (by decide) (cy := 2) (by kernel_rfl) (by kernel_rfl) (by kernel_rfl) (pick_ok (go_ok hc.s ho) hc.s.e) (d_70 m hc.s.z hc.s.q (hc.s.rd.trans e1) ho)
theorem x_90 {nn : Nat} (hc : Co (nn + 1) pc) (e0 : B pc = 144) {o : Int} (e1 : B (pc + 1) = o) (ho : 0 ≤ o ∧ o < 256) : Stp (cfg w l ns h₀ hw gens os) σ k j ⟨pc, sp, a, x, y, c, z, i, d, v, n, full B stk lg lf cn⟩ ⟨if c then pc + 1 + 1 else goal (pc + 1) o, sp, a, x, y, c, z, i, d, v, n, full B stk lg lf cn⟩ :=
  sx m hc e0 (by decide) (cy := 2) (by kernel_rfl) (by kernel_rfl) (by kernel_rfl) (pick_ok hc.s.e (go_ok hc.s ho)) (d_90 m hc.s.z hc.s.q (hc.s.rd.trans e1) ho)
theorem x_b0 {nn : Nat} (hc : Co (nn + 1) pc) (e0 : B pc = 176) {o : Int} (e1 : B (pc + 1) = o) (ho : 0 ≤ o ∧ o < 256) : Stp (cfg w l ns h₀ hw gens os) σ k j ⟨pc, sp, a, x, y, c, z, i, d, v, n, full B stk lg lf cn⟩ ⟨if c then goal (pc + 1) o else pc + 1 + 1, sp, a, x, y, c, z, i, d, v, n, full B stk lg lf cn⟩ :=
  sx m hc e0 (by decide) (cy := 2) (by kernel_rfl) (by kernel_rfl) (by kernel_rfl) (pick_ok (go_ok hc.s ho) hc.s.e) (d_b0 m hc.s.z hc.s.q (hc.s.rd.trans e1) ho)
theorem x_d0 {nn : Nat} (hc : Co (nn + 1) pc) (e0 : B pc = 208) {o : Int} (e1 : B (pc + 1) = o) (ho : 0 ≤ o ∧ o < 256) : Stp (cfg w l ns h₀ hw gens os) σ k j ⟨pc, sp, a, x, y, c, z, i, d, v, n, full B stk lg lf cn⟩ ⟨if z then pc + 1 + 1 else goal (pc + 1) o, sp, a, x, y, c, z, i, d, v, n, full B stk lg lf cn⟩ :=
  sx m hc e0 (by decide) (cy := 2) (by kernel_rfl) (by kernel_rfl) (by kernel_rfl) (pick_ok hc.s.e (go_ok hc.s ho)) (d_d0 m hc.s.z hc.s.q (hc.s.rd.trans e1) ho)
theorem x_f0 {nn : Nat} (hc : Co (nn + 1) pc) (e0 : B pc = 240) {o : Int} (e1 : B (pc + 1) = o) (ho : 0 ≤ o ∧ o < 256) : Stp (cfg w l ns h₀ hw gens os) σ k j ⟨pc, sp, a, x, y, c, z, i, d, v, n, full B stk lg lf cn⟩ ⟨if z then goal (pc + 1) o else pc + 1 + 1, sp, a, x, y, c, z, i, d, v, n, full B stk lg lf cn⟩ :=
  sx m hc e0 (by decide) (cy := 2) (by kernel_rfl) (by kernel_rfl) (by kernel_rfl) (pick_ok (go_ok hc.s ho) hc.s.e) (d_f0 m hc.s.z hc.s.q (hc.s.rd.trans e1) ho)
end
end Mine.Mp
end
section
open PySem PySem.W
namespace Mine.Mp
open Mine.Hd Mine.Py Mine.Pu
inductive Run (C : Cfg) (σ : St) (k j : Nat) : Nat → Ms → Ms → Prop
  | nil {s : Ms} : Run C σ k j 0 s s
  | cons {t : Nat} {s s1 s2 : Ms} : s.pc ≠ 600 → Stp C σ k j s s1 → Run C σ k j t s1 s2 → Run C σ k j (t + 1) s s2
theorem Run.app {C : Cfg} {σ : St} {k j t u : Nat} {s s1 s2 : Ms} (h : Run C σ k j t s s1) (g : Run C σ k j u s1 s2) : Run C σ k j (t + u) s s2 := by
  induction h with
  | nil => rw [Nat.zero_add]; exact g
  | cons n st _ ih => rw [Nat.add_right_comm]; exact .cons n st (ih g)
noncomputable def Go (C : Cfg) (σ : St) (k j t : Nat) (s : Ms) (T : Ms → Prop) : Prop := ∃ t' s', t' ≤ t ∧ Run C σ k j t' s s' ∧ T s'
section
variable {C : Cfg} {σ : St} {k j t u : Nat} {s s1 : Ms} {T U : Ms → Prop}
theorem Go.here (h : T s) : Go C σ k j t s T := ⟨0, s, Nat.zero_le _, .nil, h⟩
theorem Go.step (n : s.pc ≠ 600) (st : Stp C σ k j s s1) (g : Go C σ k j t s1 T) : Go C σ k j (t + 1) s T := let ⟨t', s', l, r, h⟩ := g; ⟨t' + 1, s', Nat.succ_le_succ l, .cons n st r, h⟩
theorem Go.bind (g : Go C σ k j t s T) (h : ∀ s', T s' → Go C σ k j u s' U) : Go C σ k j (t + u) s U := by
  obtain ⟨t', s', l, r, hT⟩ := g
  obtain ⟨u', s'', l', r', hU⟩ := h s' hT
  exact ⟨t' + u', s'', Nat.add_le_add l l', r.app r', hU⟩
theorem Go.le {v : Nat} (g : Go C σ k j t s T) (h : t ≤ v) : Go C σ k j v s T := let ⟨t', s', l, r, q⟩ := g; ⟨t', s', Nat.le_trans l h, r, q⟩
end
noncomputable def Is (B stk lg : Int → Int) (lf cn pc sp : Int) (s : Ms) : Prop := ∃ a x y c z i d v n, s = ⟨pc, sp, a, x, y, c, z, i, d, v, n, full B stk lg lf cn⟩
theorem is_pc {B stk lg : Int → Int} {lf cn pc pc' sp a x y : Int} {c z i d v n : Bool} (e : pc' = pc) : Is B stk lg lf cn pc sp ⟨pc', sp, a, x, y, c, z, i, d, v, n, full B stk lg lf cn⟩ := e ▸ ⟨_, _, _, _, _, _, _, _, _, rfl⟩
theorem is_sp {B stk lg : Int → Int} {lf cn pc sp sp' a x y : Int} {c z i d v n : Bool} (e : sp' = sp) : Is B stk lg lf cn pc sp ⟨pc, sp', a, x, y, c, z, i, d, v, n, full B stk lg lf cn⟩ := e ▸ ⟨_, _, _, _, _, _, _, _, _, rfl⟩
noncomputable def At (B : Int → Int) : Int → List Int → Prop
  | _, [] => True
  | p, v :: l => B p = v ∧ At B (p + 1) l
theorem At.at {B : Int → Int} : ∀ {l : List Int} {p : Int}, At B p l → ∀ (i : Nat) v, l[i]? = some v → B (p + (i : Int)) = v
  | [], _, _, _, _, e => by cases e
  | _ :: _, p, h, 0, v, e => by cases e; rw [show p + ((0 : Nat) : Int) = p from Int.add_zero p]; exact h.1
  | _ :: l, p, h, i + 1, v, e => by rw [← h.2.at i v e]; congr 1; lia
theorem At.of {B : Int → Int} : ∀ {l : List Int} {p : Int}, (∀ (i : Nat) v, l[i]? = some v → B (p + (i : Int)) = v) → At B p l
  | [], _, _ => trivial
  | v :: l, p, h => ⟨by rw [← h 0 v rfl]; congr 1; lia, .of fun i u e => by rw [← h (i + 1) u e]; congr 1; lia⟩
theorem At.app {B : Int → Int} {p : Int} {l r : List Int} (h : At B p (l ++ r)) : At B p l ∧ At B (p + (l.length : Int)) r := by
  refine ⟨.of fun i v e => h.at i v ?_, .of fun i v e => ?_⟩
  · rw [List.getElem?_append_left (List.getElem?_eq_some_iff.mp e).1]; exact e
  · have := h.at (l.length + i) v (by rw [List.getElem?_append_right (by lia), Nat.add_sub_cancel_left]; exact e)
    rw [← this]; congr 1; push_cast; lia
section
variable {w : World} {l : Nat} {ns : List Int} {h₀ : Heap} {hw : ∃ o, h₀.get? 80 = some o} {gens : Array GenState} {os : OsState} {σ : St} {k j : Nat} (m : Mk σ k j) {p sp : Int} {B stk lg : Int → Int} {lf cn : Int} {T : Ms → Prop} {s : Ms}
include m
theorem g_on (hp : 672 ≤ p ∧ p < 65000) (h : At B p [198, 16, 208, 3, 76, 88, 2]) (hl : 2 ≤ lf ∧ lf < 256) (hs : Is B stk lg lf cn p sp s) : Go (cfg w l ns h₀ hw gens os) σ k j 2 s (Is B stk lg (lf - 1) cn (p + 7) sp) := by
  obtain ⟨a, x, y, c, z, i, d, v, n, rfl⟩ := hs
  have hc := Co.of hp
  refine .step hc.ne (x_c6 m hc h.1 h.2.1) ?_
  refine .step hc.s.s.ne (x_d0 m hc.s.s h.2.2.1 h.2.2.2.1 (by decide)) (.here ?_)
  have e : (lf - 1) % 256 = lf - 1 := by lia
  rw [decide_eq_false (by lia), if_neg Bool.false_ne_true, e]
  exact is_pc (by unfold goal; lia)
theorem g_out (hp : 672 ≤ p ∧ p < 65000) (h : At B p [198, 16, 208, 3, 76, 88, 2]) (hl : lf = 1) (hs : Is B stk lg lf cn p sp s) : Go (cfg w l ns h₀ hw gens os) σ k j 3 s (Is B stk lg 0 cn 600 sp) := by
  obtain ⟨a, x, y, c, z, i, d, v, n, rfl⟩ := hs
  subst hl
  have hc := Co.of hp
  refine .step hc.ne (x_c6 m hc h.1 h.2.1) (.step hc.s.s.ne (x_d0 m hc.s.s h.2.2.1 h.2.2.2.1 (by decide)) ?_)
  exact .step hc.s.s.s.s.ne (x_4c m hc.s.s.s.s h.2.2.2.2.1 h.2.2.2.2.2.1 h.2.2.2.2.2.2.1 o2 rfl (by decide)) (.here (is_pc rfl))
end
end Mine.Mp
end
section
open PySem PySem.W
namespace Mine.Mp
open Mine.Hd Mine.Py Mine.Pu
theorem At.to {B : Int → Int} {p q : Int} {l : List Int} (h : At B p l) (e : p = q) : At B q l := e ▸ h
theorem upd_at {f : Int → Int} {i v : Int} : upd f i v i = v := if_pos rfl
theorem upd_off {f : Int → Int} {i v t : Int} (h : t ≠ i) : upd f i v t = f t := if_neg h
noncomputable def logc (how s : Int) : List Int := if how = 0 then [166, 17, 169, s, 157, 128, 2, 230, 17] else if how = 1 then [164, 17, 169, s, 153, 128, 2, 230, 17] else [164, 17, 169, s, 145, 255, 230, 17]
noncomputable def logn (how : Int) : Int := if how = 2 then 8 else 9
noncomputable def seen (kind a o : Int) : Bool := if kind / 2 = 0 then decide (128 ≤ (a + o) % 256) else if kind / 2 = 1 then ovf a o else if kind / 2 = 2 then decide (a + o > 255) else decide ((a + o) % 256 = 0)
noncomputable def taken (kind a o : Int) : Bool := seen kind a o == decide (kind % 2 = 1)
section
variable {w : World} {l : Nat} {ns : List Int} {h₀ : Heap} {hw : ∃ o, h₀.get? 80 = some o} {gens : Array GenState} {os : OsState} {σ : St} {k j : Nat} (m : Mk σ k j) {p sp : Int} {B stk lg : Int → Int} {lf cn : Int} {T : Ms → Prop} {s : Ms}
include m
theorem g_log {how q : Int} (hh : 0 ≤ how ∧ how < 3) (hp : 672 ≤ p ∧ p < 65000) (h : At B p (logc how q)) (p1 : B 255 = 128) (p0 : B 0 = 2) (hq : 0 ≤ q ∧ q < 256) (hn : 0 ≤ cn ∧ cn < 31) (hs : Is B stk lg lf cn p sp s) :
    Go (cfg w l ns h₀ hw gens os) σ k j 4 s (Is B stk (upd lg cn q) lf (cn + 1) (p + logn how) sp) := by
  obtain ⟨a, x, y, c, z, i, d, v, n, rfl⟩ := hs
  have e : (cn + 1) % 256 = cn + 1 := by lia
  have hc := Co.of hp
  have hn : 0 ≤ cn ∧ cn < 32 := ⟨hn.1, Int.lt_trans hn.2 (by decide)⟩
  rw [← e]
  unfold logc at h
  unfold logn
  by_cases h0 : how = 0
  · rw [if_pos h0] at h
    rw [if_neg (by lia)]
    exact .step hc.ne (x_a6 m hc h.1 h.2.1 hn) <| .step hc.s.s.ne (x_a9 m hc.s.s h.2.2.1 h.2.2.2.1 hq) <| .step hc.s.s.s.s.ne (x_9d m hc.s.s.s.s h.2.2.2.2.1 h.2.2.2.2.2.1 h.2.2.2.2.2.2.1 hn) <|
      .step hc.s.s.s.s.s.s.s.ne (x_e6 m hc.s.s.s.s.s.s.s h.2.2.2.2.2.2.2.1 h.2.2.2.2.2.2.2.2.1) (.here (is_pc (by lia)))
  · rw [if_neg h0] at h
    by_cases h1 : how = 1
    · rw [if_pos h1] at h
      rw [if_neg (by lia)]
      exact .step hc.ne (x_a4 m hc h.1 h.2.1 hn) <| .step hc.s.s.ne (x_a9 m hc.s.s h.2.2.1 h.2.2.2.1 hq) <| .step hc.s.s.s.s.ne (x_99 m hc.s.s.s.s h.2.2.2.2.1 h.2.2.2.2.2.1 h.2.2.2.2.2.2.1 hn) <|
        .step hc.s.s.s.s.s.s.s.ne (x_e6 m hc.s.s.s.s.s.s.s h.2.2.2.2.2.2.2.1 h.2.2.2.2.2.2.2.2.1) (.here (is_pc (by lia)))
    · rw [if_neg h1] at h
      rw [if_pos (by lia)]
      exact .step hc.ne (x_a4 m hc h.1 h.2.1 hn) <| .step hc.s.s.ne (x_a9 m hc.s.s h.2.2.1 h.2.2.2.1 hq) <| .step hc.s.s.s.s.ne (x_91 m hc.s.s.s.s h.2.2.2.2.1 h.2.2.2.2.2.1 p1 p0 hn) <|
        .step hc.s.s.s.s.s.s.ne (x_e6 m hc.s.s.s.s.s.s h.2.2.2.2.2.2.1 h.2.2.2.2.2.2.2.1) (.here (is_pc (by lia)))
omit m in
theorem hb {t : Int} (h : 0 ≤ t ∧ t < 65536) : 0 ≤ t / 256 ∧ t / 256 < 256 := by lia
omit m in
theorem hbs {t : Int} : t % 256 + t / 256 * 256 = t := by lia
omit m in
theorem m1 {t : Int} (h : 0 ≤ t ∧ t < 256) : ((t - 1) % 256 + 1) % 256 = t := by lia
omit m in
theorem m2 {t : Int} : ((t - 1) % 256 - 1) % 256 = (t - 2) % 256 := by lia
omit m in
theorem m3 {t : Int} : ((t - 2) % 256 - 1) % 256 = (t - 3) % 256 := by lia
omit m in
theorem n1 {t : Int} : ((t - 3) % 256 + 1) % 256 = (t - 2) % 256 := by lia
omit m in
theorem n2 {t : Int} : ((t - 3) % 256 + 2) % 256 = (t - 1) % 256 := by lia
omit m in
theorem n3 {t : Int} (h : 0 ≤ t ∧ t < 256) : ((t - 3) % 256 + 3) % 256 = t := by lia
omit m in
theorem u1 {t : Int} : (t - 1) % 256 ≠ (t - 2) % 256 := by lia
omit m in
theorem u2 {t : Int} (h : 0 ≤ t ∧ t < 256) : t ≠ (t - 1) % 256 := by lia
omit m in
theorem u3 {t : Int} (h : 0 ≤ t ∧ t < 256) : t ≠ (t - 2) % 256 := by lia
theorem g_jmp {t : Int} {r : List Int} (hp : 672 ≤ p ∧ p < 65000) (h : At B p (76 :: t % 256 :: t / 256 :: r)) (ht : 0 ≤ t ∧ t < 65536) (hs : Is B stk lg lf cn p sp s) : Go (cfg w l ns h₀ hw gens os) σ k j 1 s (Is B stk lg lf cn t sp) := by
  obtain ⟨a, x, y, c, z, i, d, v, n, rfl⟩ := hs
  exact .step (Co.of hp).ne (x_4c m (Co.of hp) h.1 h.2.1 h.2.2.1 (hb ht) hbs ht) (.here (is_pc rfl))
theorem g_ind {t u : Int} (hp : 672 ≤ p ∧ p < 65000) (h : At B p [108, u % 256, u / 256]) (hu : 1024 ≤ u ∧ u < 4000) (h1 : B u = t % 256) (h2 : B (u / 256 * 256 + (u + 1) % 256) = t / 256) (ht : 0 ≤ t ∧ t < 65536) (hs : Is B stk lg lf cn p sp s) : Go (cfg w l ns h₀ hw gens os) σ k j 1 s (Is B stk lg lf cn t sp) := by
  obtain ⟨a, x, y, c, z, i, d, v, n, rfl⟩ := hs
  exact .step (Co.of hp).ne (x_6c m (Co.of hp) h.1 h.2.1 h.2.2.1 (hb (by lia)) hbs (by lia) h1 (by lia) h2 (hb ht) hbs ht) (.here (is_pc rfl))
theorem g_jsr {t : Int} {r : List Int} (hp : 672 ≤ p ∧ p < 65000) (h : At B p (32 :: t % 256 :: t / 256 :: r)) (ht : 0 ≤ t ∧ t < 65536) (hsp : 0 ≤ sp ∧ sp < 256) (hs : Is B stk lg lf cn p sp s) : Go (cfg w l ns h₀ hw gens os) σ k j 1 s (Is B (upd (upd stk sp ((p + 2) / 256)) ((sp - 1) % 256) ((p + 2) % 256)) lg lf cn t ((sp - 2) % 256)) := by
  obtain ⟨a, x, y, c, z, i, d, v, n, rfl⟩ := hs
  exact .step (Co.of hp).ne (x_20 m (Co.of hp) h.1 h.2.1 h.2.2.1 (hb ht) hbs ht hsp) (.here (is_pc rfl))
theorem g_rts {nn : Nat} {t : Int} (hc : Co nn p) (h : B p = 96) (h1 : stk ((sp + 1) % 256) = t % 256) (h2 : stk ((sp + 2) % 256) = t / 256) (ht : 0 ≤ t ∧ t < 65535) (hs : Is B stk lg lf cn p sp s) : Go (cfg w l ns h₀ hw gens os) σ k j 1 s (Is B stk lg lf cn (t + 1) ((sp + 2) % 256)) := by
  obtain ⟨a, x, y, c, z, i, d, v, n, rfl⟩ := hs
  exact .step hc.ne (x_60 m hc h h1 h2 (hb (by lia)) hbs (by lia)) (.here (is_pc rfl))
theorem g_pl {nn tt : Nat} {t v0 : Int} {rest : List Int} (hc : Co (nn + 6) p) (h : At B p (169 :: t / 256 :: 72 :: 169 :: t % 256 :: 72 :: rest)) (ht : 0 ≤ t ∧ t < 65536) (hsp : 0 ≤ sp ∧ sp < 256) (hs : Is B stk lg lf cn p sp s)
    (k' : ∀ s', At B (p + 1 + 1 + 1 + 1 + 1 + 1) rest → Co nn (p + 1 + 1 + 1 + 1 + 1 + 1) → Is B (upd (upd stk sp (t / 256)) ((sp - 1) % 256) (t % 256)) lg lf cn (p + 1 + 1 + 1 + 1 + 1 + 1) ((sp - 2) % 256) s' → Go (cfg w l ns h₀ hw gens os) σ k j tt s' T) : Go (cfg w l ns h₀ hw gens os) σ k j (tt + 4) s T := by
  obtain ⟨a, x, y, c, z, i, d, v, n, rfl⟩ := hs
  exact .step hc.ne (x_a9 m hc h.1 h.2.1 (hb ht)) <| .step hc.s.s.ne (x_48 m hc.s.s h.2.2.1 hsp (hb ht)) <| .step hc.s.s.s.ne (x_a9 m hc.s.s.s h.2.2.2.1 h.2.2.2.2.1 (mo t)) <|
    .step hc.s.s.s.s.s.ne (x_48 m hc.s.s.s.s.s h.2.2.2.2.2.1 (mo _) (mo t)) (k' _ h.2.2.2.2.2.2 hc.s.s.s.s.s.s (is_sp m2))
theorem g_psh {t : Int} (hp : 672 ≤ p ∧ p < 64000) (h : At B p [169, t / 256, 72, 169, t % 256, 72, 96]) (ht : 0 ≤ t ∧ t < 65535) (hsp : 0 ≤ sp ∧ sp < 256) (hs : Is B stk lg lf cn p sp s) : Go (cfg w l ns h₀ hw gens os) σ k j 5 s (Is B (upd (upd stk sp (t / 256)) ((sp - 1) % 256) (t % 256)) lg lf cn (t + 1) sp) := by
  have e1 : ((sp - 2) % 256 + 1) % 256 = (sp - 1) % 256 := by lia
  have e2 : ((sp - 2) % 256 + 2) % 256 = sp := by lia
  refine g_pl (v0 := 0) m (Co.of ⟨hp.1, Int.lt_trans hp.2 (by decide)⟩) h (by lia) hsp hs fun s' h' hc hs' => ?_
  have g := g_rts (t := t) (w := w) (l := l) (ns := ns) (hw := hw) (gens := gens) (os := os) m hc h'.1 (by rw [e1]; exact upd_at) (by rw [e2]; exact (upd_off (u2 hsp)).trans upd_at) ht hs'
  rw [e2] at g
  exact g
theorem g_rti {t f : Int} (hp : 672 ≤ p ∧ p < 64000) (h : At B p [169, t / 256, 72, 169, t % 256, 72, 169, f, 72, 64]) (ht : 0 ≤ t ∧ t < 65535) (hf : 0 ≤ f ∧ f < 256) (hsp : 0 ≤ sp ∧ sp < 256) (hs : Is B stk lg lf cn p sp s) :
    Go (cfg w l ns h₀ hw gens os) σ k j 7 s (Is B (upd (upd (upd stk sp (t / 256)) ((sp - 1) % 256) (t % 256)) ((sp - 2) % 256) f) lg lf cn t sp) := by
  refine g_pl (v0 := 0) m (Co.of ⟨hp.1, Int.lt_trans hp.2 (by decide)⟩) h (by lia) hsp hs fun s' h' hc hs' => ?_
  obtain ⟨a, x, y, c, z, i, d, v, n, rfl⟩ := hs'
  refine .step hc.ne (x_a9 m hc h'.1 h'.2.1 hf) <| .step hc.s.s.ne (x_48 m hc.s.s h'.2.2.1 (mo _) hf) ?_
  rw [m3]
  exact .step hc.s.s.s.ne (x_40 (q := f) (t := t) m hc.s.s.s h'.2.2.2.1 (by rw [n1]; exact upd_at) hf (by rw [n2]; exact (upd_off u1).trans upd_at) (by rw [n3 hsp]; exact (upd_off (u3 hsp)).trans ((upd_off (u2 hsp)).trans upd_at)) (hb (by lia)) hbs (by lia)) (.here (is_sp (n3 hsp)))
theorem g_brk {t f : Int} (hp : 672 ≤ p ∧ p < 64000) (h : At B p [169, f, 72, 40, 0, 234, 76, t % 256, t / 256]) (hb' : At B 560 [166, 17, 169, 99, 157, 128, 2, 230, 17, 64]) (b4 : B 65534 = 48) (b5 : B 65535 = 2) (ht : 0 ≤ t ∧ t < 65536) (hf : 0 ≤ f ∧ f < 256) (hsp : 0 ≤ sp ∧ sp < 256) (hn : 0 ≤ cn ∧ cn < 31) (hs : Is B stk lg lf cn p sp s) :
    Go (cfg w l ns h₀ hw gens os) σ k j 10 s (Is B (upd (upd (upd (upd stk sp f) sp ((p + 6) / 256)) ((sp - 1) % 256) ((p + 6) % 256)) ((sp - 2) % 256) (f / 64 * 64 + 48 + f % 16)) (upd lg cn 99) lf (cn + 1) t sp) := by
  obtain ⟨a, x, y, c, z, i, d, v, n, rfl⟩ := hs
  have e : (cn + 1) % 256 = cn + 1 := by lia
  have hc := Co.of (pc := p) ⟨hp.1, Int.lt_trans hp.2 (by decide)⟩
  have hd : Co 11 560 := .inl (by decide)
  have hn : 0 ≤ cn ∧ cn < 32 := ⟨hn.1, Int.lt_trans hn.2 (by decide)⟩
  rw [← e]
  refine .step hc.ne (x_a9 m hc h.1 h.2.1 hf) <| .step hc.s.s.ne (x_48 m hc.s.s h.2.2.1 hsp hf) <| .step hc.s.s.s.ne (x_28 (q := f) m hc.s.s.s h.2.2.2.1 (by rw [m1 hsp]; exact upd_at) hf) ?_
  rw [m1 hsp]
  refine .step hc.s.s.s.s.ne (x_00 m hc.s.s.s.s h.2.2.2.2.1 hsp b4 b5) ?_
  rw [fg_val hf, show p + 1 + 1 + 1 + 1 + 2 = p + 6 by lia]
  refine .step hd.ne (x_a6 m hd hb'.1 hb'.2.1 hn) <| .step hd.s.s.ne (x_a9 m hd.s.s hb'.2.2.1 hb'.2.2.2.1 (by decide)) <| .step hd.s.s.s.s.ne (x_9d m hd.s.s.s.s hb'.2.2.2.2.1 hb'.2.2.2.2.2.1 hb'.2.2.2.2.2.2.1 hn) <|
    .step hd.s.s.s.s.s.s.s.ne (x_e6 m hd.s.s.s.s.s.s.s hb'.2.2.2.2.2.2.2.1 hb'.2.2.2.2.2.2.2.2.1) ?_
  refine .step hd.s.s.s.s.s.s.s.s.s.ne (x_40 (q := f / 64 * 64 + 48 + f % 16) (t := p + 6) m hd.s.s.s.s.s.s.s.s.s hb'.2.2.2.2.2.2.2.2.2.1 (by rw [n1]; exact upd_at) (by lia) (by rw [n2]; exact (upd_off u1).trans upd_at) (by rw [n3 hsp]; exact (upd_off (u3 hsp)).trans ((upd_off (u2 hsp)).trans upd_at)) (hb (by lia)) hbs (by lia)) ?_
  rw [n3 hsp]
  exact g_jmp (r := []) m (p := p + 6) (by lia) (h.2.2.2.2.2.2.to (by lia)) ht (is_pc rfl)
end
end Mine.Mp
end
section
open PySem PySem.W
namespace Mine.Mp
open Mine.Hd Mine.Py Mine.Pu
section
variable {w : World} {l : Nat} {ns : List Int} {h₀ : Heap} {hw : ∃ o, h₀.get? 80 = some o} {gens : Array GenState} {os : OsState} {σ : St} {k j : Nat} (m : Mk σ k j) {p sp : Int} {B stk lg : Int → Int} {lf cn : Int} {T : Ms → Prop} {s : Ms}
include m
theorem g_br {kind a o u : Int} {r : List Int} (hk : 0 ≤ kind ∧ kind < 8) (hp : 672 ≤ p ∧ p < 64000) (h : At B p (216 :: 24 :: 169 :: a :: 105 :: o :: (16 + 32 * kind) :: u :: r)) (ha : 0 ≤ a ∧ a < 256) (ho : 0 ≤ o ∧ o < 256) (hu : 0 ≤ u ∧ u < 256) (hs : Is B stk lg lf cn p sp s) :
    Go (cfg w l ns h₀ hw gens os) σ k j 5 s (Is B stk lg lf cn (if taken kind a o then goal (p + 7) u else p + 8) sp) := by
  obtain ⟨a', x, y, c, z, i, d, v, n, rfl⟩ := hs
  have hc := Co.of (pc := p) ⟨hp.1, Int.lt_trans hp.2 (by decide)⟩
  refine .step hc.ne (x_d8 m hc h.1) <| .step hc.s.ne (x_18 m hc.s h.2.1) <| .step hc.s.s.ne (x_a9 m hc.s.s h.2.2.1 h.2.2.2.1 ha) <| .step hc.s.s.s.s.ne (x_69 m hc.s.s.s.s h.2.2.2.2.1 h.2.2.2.2.2.1 ho ha) ?_
  have e0 : p + 1 + 1 + 1 + 1 + 1 + 1 + 1 = p + 7 := by lia
  have e1 : p + 7 + 1 = p + 8 := by lia
  have r0 := h.2.2.2.2.2.2.1
  have r1 := h.2.2.2.2.2.2.2.1
  have hco := hc.s.s.s.s.s.s
  rw [← e1, ← e0]
  clear e0 e1 h hc hp
  revert r0 r1 hco
  generalize p + 1 + 1 + 1 + 1 + 1 + 1 = q
  intro r0 r1 hco
  unfold taken
  rcases (by lia : kind = 0 ∨ kind = 1 ∨ kind = 2 ∨ kind = 3 ∨ kind = 4 ∨ kind = 5 ∨ kind = 6 ∨ kind = 7) with rfl | rfl | rfl | rfl | rfl | rfl | rfl | rfl
  · exact .step hco.ne (x_10 m hco r0 r1 hu) (.here (is_pc (by unfold seen; cases decide (128 ≤ (a + o) % 256) <;> rfl)))
  · exact .step hco.ne (x_30 m hco r0 r1 hu) (.here (is_pc (by unfold seen; cases decide (128 ≤ (a + o) % 256) <;> rfl)))
  · exact .step hco.ne (x_50 m hco r0 r1 hu) (.here (is_pc (by unfold seen; cases ovf a o <;> rfl)))
  · exact .step hco.ne (x_70 m hco r0 r1 hu) (.here (is_pc (by unfold seen; cases ovf a o <;> rfl)))
  · exact .step hco.ne (x_90 m hco r0 r1 hu) (.here (is_pc (by unfold seen; cases decide (a + o > 255) <;> rfl)))
  · exact .step hco.ne (x_b0 m hco r0 r1 hu) (.here (is_pc (by unfold seen; cases decide (a + o > 255) <;> rfl)))
  · exact .step hco.ne (x_d0 m hco r0 r1 hu) (.here (is_pc (by unfold seen; cases decide ((a + o) % 256 = 0) <;> rfl)))
  · exact .step hco.ne (x_f0 m hco r0 r1 hu) (.here (is_pc (by unfold seen; cases decide ((a + o) % 256 = 0) <;> rfl)))
theorem g_ini {t u : Int} (h : At B 512 [162, u, 154, 169, 2, 72, 169, 87, 72, 76, t % 256, t / 256]) (hu : 0 ≤ u ∧ u < 256) (ht : 0 ≤ t ∧ t < 65536) (hs : Is B stk lg lf cn 512 sp s) :
    Go (cfg w l ns h₀ hw gens os) σ k j 7 s (Is B (upd (upd stk u 2) ((u - 1) % 256) 87) lg lf cn t (((u - 1) % 256 - 1) % 256)) := by
  obtain ⟨a, x, y, c, z, i, d, v, n, rfl⟩ := hs
  have hc : Co 20 512 := .inl (by decide)
  exact .step hc.ne (x_a2 m hc h.1 h.2.1 hu) <| .step hc.s.s.ne (x_9a m hc.s.s h.2.2.1) <| .step hc.s.s.s.ne (x_a9 m hc.s.s.s h.2.2.2.1 h.2.2.2.2.1 o2) <| .step hc.s.s.s.s.s.ne (x_48 m hc.s.s.s.s.s h.2.2.2.2.2.1 hu o2) <|
    .step hc.s.s.s.s.s.s.ne (x_a9 m hc.s.s.s.s.s.s h.2.2.2.2.2.2.1 h.2.2.2.2.2.2.2.1 (by decide)) <| .step hc.s.s.s.s.s.s.s.s.ne (x_48 m hc.s.s.s.s.s.s.s.s h.2.2.2.2.2.2.2.2.1 (mo _) (by decide)) <|
    .step hc.s.s.s.s.s.s.s.s.s.ne (x_4c m hc.s.s.s.s.s.s.s.s.s h.2.2.2.2.2.2.2.2.2.1 h.2.2.2.2.2.2.2.2.2.2.1 h.2.2.2.2.2.2.2.2.2.2.2.1 (hb ht) hbs ht) (.here (is_pc rfl))
end
end Mine.Mp
end
section
open PySem PySem.W
namespace Mine.Mp
open Mine.Hd Mine.Py Mine.Pu
structure Pl where
  wy : Int
  go : Int
  ot : Int
  mi : Int
  mo : Int
  kd : Int
  ho : Int
structure Pl.Ok (p : Pl) : Prop where
  wy : 0 ≤ p.wy ∧ p.wy < 8
  go : 0 ≤ p.go ∧ p.go < 10
  ot : 0 ≤ p.ot ∧ p.ot < 10
  mi : 0 ≤ p.mi ∧ p.mi < 256
  mo : 0 ≤ p.mo ∧ p.mo < 256
  kd : 0 ≤ p.kd ∧ p.kd < 8
  ho : 0 ≤ p.ho ∧ p.ho < 3
noncomputable def ptr (p : Pl) (s : Int) : Int := 1024 + 256 * s + (if p.kd % 2 = 0 then 255 else p.mo % 255)
noncomputable def wayW (w : Int) (p : Pl) (s g o : Int) : List Int :=
  if w = 0 then [76, (g + 3) % 256, (g + 3) / 256]
  else if w = 1 then [108, ptr p s % 256, ptr p s / 256]
  else if w = 2 then [32, (g + 3) % 256, (g + 3) / 256, 76, (o + 3) % 256, (o + 3) / 256]
  else if w = 3 then [96]
  else if w = 4 then [169, (g + 2) / 256, 72, 169, (g + 2) % 256, 72, 96]
  else if w = 5 then [169, (g + 3) / 256, 72, 169, (g + 3) % 256, 72, 169, p.mi, 72, 64]
  else if w = 6 then [169, p.mi, 72, 40, 0, 234, 76, (g + 3) % 256, (g + 3) / 256]
  else if p.mo % 2 = 0 then [216, 24, 169, p.mi, 105, p.mo, 16 + 32 * p.kd, 3, 76, (o + 3) % 256, (o + 3) / 256, 76, (g + 3) % 256, (g + 3) / 256]
  else [216, 24, 169, p.mi, 105, p.mo, 16 + 32 * p.kd, if p.ho = 2 then 230 else 229, 76, (o + 3) % 256, (o + 3) / 256]
noncomputable def wayc (p : Pl) (s g o : Int) : List Int := wayW p.wy p s g o
theorem way7 {p : Pl} {s g o : Int} : wayW 7 p s g o = if p.mo % 2 = 0 then [216, 24, 169, p.mi, 105, p.mo, 16 + 32 * p.kd, 3, 76, (o + 3) % 256, (o + 3) / 256, 76, (g + 3) % 256, (g + 3) / 256] else [216, 24, 169, p.mi, 105, p.mo, 16 + 32 * p.kd, if p.ho = 2 then 230 else 229, 76, (o + 3) % 256, (o + 3) / 256] := rfl
theorem way_is {p : Pl} {w s g o : Int} (e : p.wy = w) : wayc p s g o = wayW w p s g o := congrArg (wayW · p s g o) e
noncomputable def code (p : Pl) (s g o : Int) : List Int := [76, (g + 3) % 256, (g + 3) / 256] ++ ([198, 16, 208, 3, 76, 88, 2] ++ (logc p.ho s ++ wayc p s g o))
structure Lay (B b : Int → Int) (P : Int → Pl) : Prop where
  blk : ∀ s, 0 ≤ s ∧ s < 10 → At B (b s) (code (P s) s (b (P s).go) (b (P s).ot))
  ptr : ∀ s, 0 ≤ s ∧ s < 10 → B (ptr (P s) s) = (b (P s).go + 3) % 256 ∧ B (ptr (P s) s / 256 * 256 + (ptr (P s) s + 1) % 256) = (b (P s).go + 3) / 256
  hnd : At B 560 [166, 17, 169, 99, 157, 128, 2, 230, 17, 64]
  b0 : B 0 = 2
  b1 : B 255 = 128
  v0 : B 65534 = 48
  v1 : B 65535 = 2
  rng : ∀ s, 0 ≤ s ∧ s < 10 → 4400 ≤ b s ∧ b s < 58000
  ok : ∀ s, 0 ≤ s ∧ s < 10 → (P s).Ok
structure Ps where
  top : Int
  stk : Int → Int
  log : List Int
  cs : List Int
noncomputable def lays : (Int → Int) → Int → List Int → (Int → Int)
  | f, _, [] => f
  | f, t, o :: r => lays (upd f t o) ((t - 1) % 256) r
noncomputable def layt : Int → List Int → Int
  | t, [] => t
  | t, _ :: r => layt ((t - 1) % 256) r
noncomputable def lv (b : Int → Int) (P : Int → Pl) (h : Int) : Int := b h + (if (P h).ho = 2 then 18 else 19)
noncomputable def back3 (t : Int) (f : Int → Int) (lg : List Int) : List Int → Option Int × Ps
  | [] => (none, ⟨t, f, lg, []⟩)
  | o :: r => (some o, ⟨t, f, lg, r⟩)
noncomputable def stepW (w : Int) (b : Int → Int) (P : Int → Pl) (h : Int) (s : Ps) : Option Int × Ps :=
  if w = 2 then (some (P h).go, ⟨layt s.top [(lv b P h + 2) / 256, (lv b P h + 2) % 256], lays s.stk s.top [(lv b P h + 2) / 256, (lv b P h + 2) % 256], s.log ++ [h], (P h).ot :: s.cs⟩)
  else if w = 3 then back3 ((s.top + 2) % 256) s.stk (s.log ++ [h]) s.cs
  else if w = 7 then (some (if taken (P h).kd (P h).mi (P h).mo then (P h).go else (P h).ot), ⟨s.top, s.stk, s.log ++ [h], s.cs⟩)
  else if w = 4 then (some (P h).go, ⟨s.top, lays s.stk s.top [(b (P h).go + 2) / 256, (b (P h).go + 2) % 256], s.log ++ [h], s.cs⟩)
  else if w = 5 then (some (P h).go, ⟨s.top, lays s.stk s.top [(b (P h).go + 3) / 256, (b (P h).go + 3) % 256, (P h).mi], s.log ++ [h], s.cs⟩)
  else if w = 6 then (some (P h).go, ⟨s.top, lays (lays s.stk s.top [(P h).mi]) s.top [(lv b P h + 6) / 256, (lv b P h + 6) % 256, (P h).mi / 64 * 64 + 48 + (P h).mi % 16], s.log ++ [h] ++ [99], s.cs⟩)
  else (some (P h).go, ⟨s.top, s.stk, s.log ++ [h], s.cs⟩)
noncomputable def bstep (b : Int → Int) (P : Int → Pl) (h : Int) (s : Ps) : Option Int × Ps := stepW (P h).wy b P h s
noncomputable def lgs (f : Int → Int) (log : List Int) : Int → Int := fun t => if 0 ≤ t then (log[t.toNat]?).getD (f t) else f t
theorem lgs_add {f : Int → Int} {log : List Int} {v : Int} : upd (lgs f log) (log.length : Int) v = lgs f (log ++ [v]) := by
  funext t
  unfold upd lgs
  by_cases h : t = (log.length : Int)
  · subst h; rw [if_pos rfl, if_pos (by lia), Int.toNat_natCast]; simp
  · rw [if_neg h]
    by_cases g : 0 ≤ t
    · rw [if_pos g, if_pos g]
      by_cases q : t.toNat < log.length
      · rw [List.getElem?_append_left q]
      · rw [List.getElem?_eq_none (by lia), List.getElem?_eq_none (by simp; lia)]
    · rw [if_neg g, if_neg g]
noncomputable def Fr (b : Int → Int) (P : Int → Pl) (f : Int → Int) : Int → List Int → Prop
  | t, [] => f ((t + 1) % 256) = 87 ∧ f ((t + 2) % 256) = 2
  | t, o :: r => (∃ q, (0 ≤ q ∧ q < 10) ∧ (P q).wy = 2 ∧ (P q).ot = o ∧ f ((t + 1) % 256) = (lv b P q + 2) % 256 ∧ f ((t + 2) % 256) = (lv b P q + 2) / 256) ∧ Fr b P f ((t + 2) % 256) r
theorem Fr.upd {b : Int → Int} {P : Int → Pl} {f : Int → Int} {i v : Int} : ∀ {cs : List Int} {t j : Int}, Fr b P f t cs → 0 ≤ j → j + 2 * ((cs.length : Int) + 1) < 256 → i = (t - j) % 256 → Fr b P (upd f i v) t cs
  | [], t, j, ⟨h1, h2⟩, h0, hl, hi => by
    have hl' : j + 2 * ((0 : Int) + 1) < 256 := hl
    exact ⟨(upd_off (by lia)).trans h1, (upd_off (by lia)).trans h2⟩
  | o :: r, t, j, ⟨⟨q, hq, hw, ho, h1, h2⟩, hr⟩, h0, hl, hi => by
    have e : ((o :: r).length : Int) = (r.length : Int) + 1 := by simp
    rw [e] at hl
    exact ⟨⟨q, hq, hw, ho, (upd_off (by lia)).trans h1, (upd_off (by lia)).trans h2⟩, hr.upd (j := j + 2) (by lia) (by lia) (by lia)⟩
structure Inv (b : Int → Int) (P : Int → Pl) (n : Nat) (s : Ps) : Prop where
  top : 0 ≤ s.top ∧ s.top < 256
  fr : Fr b P s.stk s.top s.cs
  cs : s.cs.length + n ≤ 9
  log : s.log.length + 2 * n ≤ 18
theorem Fr.mem {b : Int → Int} {P : Int → Pl} {f : Int → Int} (ok : ∀ s, 0 ≤ s ∧ s < 10 → (P s).Ok) : ∀ {cs : List Int} {t : Int}, Fr b P f t cs → ∀ o ∈ cs, 0 ≤ o ∧ o < 10
  | _ :: _, _, ⟨⟨q, hq, _, ho, _⟩, hr⟩, o, h => by
    cases h with
    | head => rw [← ho]; exact (ok q hq).ot
    | tail _ h => exact hr.mem ok o h
section
variable {b : Int → Int} {P : Int → Pl} {h : Int} {s : Ps} {n : Nat}
theorem bs_is {w : Int} (e : (P h).wy = w) : bstep b P h s = stepW w b P h s := congrArg (stepW · b P h s) e
theorem bs2 (e : (P h).wy = 2) : bstep b P h s = (some (P h).go, ⟨((s.top - 1) % 256 - 1) % 256, upd (upd s.stk s.top ((lv b P h + 2) / 256)) ((s.top - 1) % 256) ((lv b P h + 2) % 256), s.log ++ [h], (P h).ot :: s.cs⟩) := bs_is e
theorem bs3 (e : (P h).wy = 3) : bstep b P h s = back3 ((s.top + 2) % 256) s.stk (s.log ++ [h]) s.cs := bs_is e
theorem bs7 (e : (P h).wy = 7) : bstep b P h s = (some (if taken (P h).kd (P h).mi (P h).mo then (P h).go else (P h).ot), ⟨s.top, s.stk, s.log ++ [h], s.cs⟩) := bs_is e
theorem bs4 (e : (P h).wy = 4) : bstep b P h s = (some (P h).go, ⟨s.top, upd (upd s.stk s.top ((b (P h).go + 2) / 256)) ((s.top - 1) % 256) ((b (P h).go + 2) % 256), s.log ++ [h], s.cs⟩) := bs_is e
theorem bs5 (e : (P h).wy = 5) : bstep b P h s = (some (P h).go, ⟨s.top, upd (upd (upd s.stk s.top ((b (P h).go + 3) / 256)) ((s.top - 1) % 256) ((b (P h).go + 3) % 256)) (((s.top - 1) % 256 - 1) % 256) (P h).mi, s.log ++ [h], s.cs⟩) := bs_is e
theorem bs6 (e : (P h).wy = 6) : bstep b P h s = (some (P h).go, ⟨s.top, upd (upd (upd (upd s.stk s.top (P h).mi) s.top ((lv b P h + 6) / 256)) ((s.top - 1) % 256) ((lv b P h + 6) % 256)) (((s.top - 1) % 256 - 1) % 256) ((P h).mi / 64 * 64 + 48 + (P h).mi % 16), s.log ++ [h] ++ [99], s.cs⟩) := bs_is e
theorem bs0 (e : (P h).wy = 0 ∨ (P h).wy = 1) : bstep b P h s = (some (P h).go, ⟨s.top, s.stk, s.log ++ [h], s.cs⟩) := e.elim (fun e => bs_is e) fun e => bs_is e
theorem wy_el {p : Pl} {M : Prop} (o : p.Ok) (c2 : p.wy = 2 → M) (c3 : p.wy = 3 → M) (c7 : p.wy = 7 → M) (c4 : p.wy = 4 → M) (c5 : p.wy = 5 → M) (c6 : p.wy = 6 → M) (c0 : p.wy = 0 ∨ p.wy = 1 → M) : M := by
  have := o.wy
  have h : p.wy = 2 ∨ p.wy = 3 ∨ p.wy = 7 ∨ p.wy = 4 ∨ p.wy = 5 ∨ p.wy = 6 ∨ p.wy = 0 ∨ p.wy = 1 := by lia
  exact h.elim c2 fun h => h.elim c3 fun h => h.elim c7 fun h => h.elim c4 fun h => h.elim c5 fun h => h.elim c6 c0
theorem len_snoc {l : List Int} {x : Int} : (l ++ [x]).length = l.length + 1 := by simp
theorem tw1 {t : Int} : ((t - 1) % 256 - 1) % 256 = (t - 2) % 256 := by lia
theorem tw2 {t : Int} (h : 0 ≤ t ∧ t < 256) : ((t - 2) % 256 + 2) % 256 = t := by lia
theorem tw3 {t : Int} : ((t - 2) % 256 + 1) % 256 = (t - 1) % 256 := by lia
theorem inv_fin {x t : Int} {f : Int → Int} {l c : List Int} (a1 : l.length + 2 * n ≤ 18) (a2 : 0 ≤ x ∧ x < 10) (a3 : 0 ≤ t ∧ t < 256) (a4 : Fr b P f t c) (a5 : c.length + n ≤ 9) : (⟨t, f, l, c⟩ : Ps).log.length + 2 * n ≤ 18 ∧ ∀ h', some x = some h' → (0 ≤ h' ∧ h' < 10) ∧ Inv b P n ⟨t, f, l, c⟩ := ⟨a1, fun h' q => by cases q; exact ⟨a2, a3, a4, a5, a1⟩⟩
theorem inv_u {f : Int → Int} {i v j : Int} (hc : s.cs.length + (n + 1) ≤ 9) (h0 : 0 ≤ j ∧ j ≤ 3) (hi : i = (s.top - j) % 256) (F : Fr b P f s.top s.cs) : Fr b P (upd f i v) s.top s.cs := F.upd (j := j) h0.1 (by lia) hi
theorem inv_step (hP : ∀ s, 0 ≤ s ∧ s < 10 → (P s).Ok) (hh : 0 ≤ h ∧ h < 10) (I : Inv b P (n + 1) s) : (bstep b P h s).2.log.length + 2 * n ≤ 18 ∧ ∀ h', (bstep b P h s).1 = some h' → (0 ≤ h' ∧ h' < 10) ∧ Inv b P n (bstep b P h s).2 := by
  have o := hP h hh
  obtain ⟨top, fr, hc, hl⟩ := I
  have l1 : (s.log ++ [h]).length + 2 * n ≤ 18 := by rw [len_snoc]; lia
  have c1 : s.cs.length + n ≤ 9 := Nat.le_trans (Nat.le_succ _) hc
  have e0 : s.top = (s.top - 0) % 256 := by lia
  have z : ∀ {f : Int → Int} {v : Int}, Fr b P f s.top s.cs → Fr b P (upd f s.top v) s.top s.cs := inv_u hc (j := 0) (by decide) e0
  have y : ∀ {f : Int → Int} {v : Int}, Fr b P f s.top s.cs → Fr b P (upd f ((s.top - 1) % 256) v) s.top s.cs := inv_u hc (by decide) rfl
  have x : ∀ {f : Int → Int} {v : Int}, Fr b P f s.top s.cs → Fr b P (upd f (((s.top - 1) % 256 - 1) % 256) v) s.top s.cs := inv_u hc (by decide) tw1
  refine wy_el o (fun e => ?_) (fun e => ?_) (fun e => ?_) (fun e => bs4 e ▸ inv_fin l1 o.go top (y (z fr)) c1) (fun e => bs5 e ▸ inv_fin l1 o.go top (x (y (z fr))) c1) (fun e => bs6 e ▸ inv_fin (by rw [len_snoc, len_snoc]; lia) o.go top (x (y (z (z fr)))) c1) (fun e => bs0 e ▸ inv_fin l1 o.go top fr c1)
  · rw [bs2 e, tw1]
    exact inv_fin l1 o.go ⟨by lia, by lia⟩ ⟨⟨h, hh, e, rfl, by rw [tw3]; exact upd_at, by rw [tw2 top, upd_off (by lia)]; exact upd_at⟩, by rw [tw2 top]; exact y (z fr)⟩ (by rw [List.length_cons]; lia)
  · rw [bs3 e]
    have M := fr.mem hP
    revert fr hc M
    cases s.cs with
    | nil => exact fun fr hc M => ⟨l1, fun h' q => by cases q⟩
    | cons o r => exact fun fr hc M => inv_fin l1 (M _ (.head _)) ⟨by lia, by lia⟩ fr.2 (by rw [List.length_cons] at hc; lia)
  · rw [bs7 e]
    refine inv_fin l1 ?_ top fr c1
    cases taken (P h).kd (P h).mi (P h).mo
    · exact o.ot
    · exact o.go
end
end Mine.Mp
end
section
open PySem PySem.W
namespace Mine.Mp
open Mine.Hd Mine.Py Mine.Pu
theorem Is.to {B stk lg : Int → Int} {lf cn pc sp pc' sp' : Int} {s : Ms} (h : Is B stk lg lf cn pc sp s) (e1 : pc = pc') (e2 : sp = sp') : Is B stk lg lf cn pc' sp' s := by subst e1 e2; exact h
noncomputable def dst (b : Int → Int) : Option Int → Int
  | some h => b h + 3
  | none => 600
theorem Go.mono {C : Cfg} {σ : St} {k j t v : Nat} {s : Ms} {T U : Ms → Prop} (g : Go C σ k j t s T) (h : t ≤ v) (f : ∀ s', T s' → U s') : Go C σ k j v s U := let ⟨t', s', l, r, q⟩ := g; ⟨t', s', Nat.le_trans l h, r, f s' q⟩
theorem logc_len {ho s : Int} (hh : 0 ≤ ho ∧ ho < 3) : ((logc ho s).length : Int) = logn ho := by
  unfold logc logn
  by_cases h0 : ho = 0
  · subst h0; rfl
  · rw [if_neg h0]
    by_cases h1 : ho = 1
    · subst h1; rfl
    · rw [if_neg h1, if_pos (by lia)]; rfl
section
variable {B b : Int → Int} {P : Int → Pl} {h : Int}
theorem Lay.t3 (L : Lay B b P) (hh : 0 ≤ h ∧ h < 10) : 0 ≤ b h + 3 ∧ b h + 3 < 65535 := by have := L.rng h hh; lia
theorem Lay.t2 (L : Lay B b P) (hh : 0 ≤ h ∧ h < 10) : 0 ≤ b h + 2 ∧ b h + 2 < 65535 := by have := L.rng h hh; lia
theorem Lay.p3 (L : Lay B b P) (hh : 0 ≤ h ∧ h < 10) : 672 ≤ b h + 3 ∧ b h + 3 < 65000 := by have := L.rng h hh; lia
theorem t36 {t : Int} (h : 0 ≤ t ∧ t < 65535) : 0 ≤ t ∧ t < 65536 := ⟨h.1, Int.lt_trans h.2 (by decide)⟩
theorem p65 {t : Int} (h : 672 ≤ t ∧ t < 64000) : 672 ≤ t ∧ t < 65000 := ⟨h.1, Int.lt_trans h.2 (by decide)⟩
theorem Lay.pp (L : Lay B b P) (hh : 0 ≤ h ∧ h < 10) : 672 ≤ lv b P h ∧ lv b P h < 64000 := by
  have := L.rng h hh
  unfold lv
  split <;> lia
theorem lv_is : b h + 10 + logn (P h).ho = lv b P h := by
  unfold lv logn
  by_cases e : (P h).ho = 2
  · rw [if_pos e, if_pos e]; lia
  · rw [if_neg e, if_neg e]; lia
theorem b37 {t : Int} : t + 3 + 7 = t + 10 := by lia
theorem Lay.bud (L : Lay B b P) (hh : 0 ≤ h ∧ h < 10) : At B (b h + 3) [198, 16, 208, 3, 76, 88, 2] := (L.blk h hh).app.2.app.1
theorem Lay.lg (L : Lay B b P) (hh : 0 ≤ h ∧ h < 10) : At B (b h + 10) (logc (P h).ho h) := At.to ((L.blk h hh).app.2.app.2.app.1) b37
theorem Lay.way (L : Lay B b P) (hh : 0 ≤ h ∧ h < 10) : At B (lv b P h) (wayc (P h) h (b (P h).go) (b (P h).ot)) := by
  have := (L.blk h hh).app.2.app.2.app.2
  rw [logc_len (L.ok h hh).ho] at this
  exact this.to (by rw [← lv_is]; exact congrArg (· + _) b37)
theorem Lay.wq (L : Lay B b P) (hh : 0 ≤ h ∧ h < 10) {w : Int} (e : (P h).wy = w) : At B (lv b P h) (wayW w (P h) h (b (P h).go) (b (P h).ot)) := way_is e ▸ L.way hh
end
noncomputable def Aft (b B lg0 : Int → Int) (lf : Int) (r : Option Int × Ps) : Ms → Prop := Is B r.2.stk (lgs lg0 r.2.log) lf (r.2.log.length : Int) (dst b r.1) r.2.top
section
variable {w : World} {l : Nat} {ns : List Int} {h₀ : Heap} {hw : ∃ o, h₀.get? 80 = some o} {gens : Array GenState} {os : OsState} {σ : St} {k j : Nat} (m : Mk σ k j) {B b : Int → Int} {P : Int → Pl} {lg0 : Int → Int}
section
variable (L : Lay B b P) {h : Int} {n : Nat} {st : Ps} {s : Ms} {lf : Int} (hh : 0 ≤ h ∧ h < 10) (I : Inv b P (n + 1) st) (hs : Is B st.stk (lgs lg0 (st.log ++ [h])) lf ((st.log ++ [h]).length : Int) (lv b P h) st.top s)
include m L hh I hs
theorem w2 (e : (P h).wy = 2) : Go (cfg w l ns h₀ hw gens os) σ k j 10 s (Aft b B lg0 lf (bstep b P h st)) := bs2 e ▸ (g_jsr m (p65 (L.pp hh)) (L.wq hh e) (t36 (L.t3 (L.ok h hh).go)) I.top hs).mono (by decide) fun s' q => q.to rfl tw1.symm
theorem w3 (e : (P h).wy = 3) : Go (cfg w l ns h₀ hw gens os) σ k j 10 s (Aft b B lg0 lf (bstep b P h st)) := by
  rw [bs3 e]
  have c := (L.wq hh e).1
  have lq := Co.of (p65 (L.pp hh))
  have fr := I.fr
  have F := fr.mem L.ok
  revert fr F
  cases st.cs with
  | nil => exact fun fr F => (g_rts (t := 599) m lq c fr.1 fr.2 (by decide) hs).mono (by decide) fun s' q => q
  | cons x r =>
    intro fr F
    obtain ⟨⟨q, hq, qw, qo, f1, f2⟩, _⟩ := fr
    have q5 := (L.wq hq qw).2.2.2
    have lq' := L.pp hq
    rw [qo] at q5
    exact (Go.bind (t := 1) (u := 1) (g_rts (t := lv b P q + 2) m lq c f1 f2 (by lia) hs) fun s' q => g_jmp (r := []) m (by lia) (q5.to (by lia)) (t36 (L.t3 (F x (.head _)))) q).mono (by decide) fun s' q => q
theorem w7 (e : (P h).wy = 7) : Go (cfg w l ns h₀ hw gens os) σ k j 10 s (Aft b B lg0 lf (bstep b P h st)) := by
  rw [bs7 e]
  have o := L.ok h hh
  have W := L.wq hh e
  rw [way7] at W
  have lp := L.pp hh
  have j1 := t36 (L.t3 o.ot)
  have j2 := t36 (L.t3 o.go)
  by_cases c : (P h).mo % 2 = 0
  · rw [if_pos c] at W
    refine (Go.bind (t := 5) (u := 1) (g_br m o.kd lp W o.mi o.mo (by decide) hs) fun s' q => ?_).mono (by decide) fun s' q => q
    have a2 := W.2.2.2.2.2.2.2.2
    have a3 := a2.2.2.2
    clear W
    revert q a2 a3 lp
    generalize lv b P h = p
    intro lp q a2 a3
    revert q
    cases taken (P h).kd (P h).mi (P h).mo
    · exact fun q => g_jmp m (show 672 ≤ p + 8 ∧ p + 8 < 65000 by lia) (a2.to (by lia)) j1 q
    · exact fun q => g_jmp (r := []) m (show 672 ≤ p + 11 ∧ p + 11 < 65000 by lia) (a3.to (by lia)) j2 (q.to (by rw [if_pos rfl]; unfold goal; rw [if_pos (by decide)]; lia) rfl)
  · rw [if_neg c] at W
    refine (Go.bind (t := 5) (u := 1) (g_br m o.kd lp W o.mi o.mo (by split <;> decide) hs) fun s' q => ?_).mono (by decide) fun s' q => q
    have a2 := W.2.2.2.2.2.2.2.2
    clear W
    have k0 := (L.blk h hh).app.1
    have rb := L.rng h hh
    revert q
    cases taken (P h).kd (P h).mi (P h).mo
    · exact fun q => g_jmp (r := []) m (show 672 ≤ lv b P h + 8 ∧ lv b P h + 8 < 65000 by lia) (a2.to (by lia)) j1 q
    · refine fun q => g_jmp (r := []) m (show 672 ≤ b h ∧ b h < 65000 by lia) k0 j2 (q.to ?_ rfl)
      rw [if_pos rfl]
      clear a2 k0 q
      unfold goal lv
      split <;> rw [if_neg (by decide)] <;> lia
theorem w4 (e : (P h).wy = 4) : Go (cfg w l ns h₀ hw gens os) σ k j 10 s (Aft b B lg0 lf (bstep b P h st)) := bs4 e ▸ (g_psh (t := b (P h).go + 2) m (L.pp hh) (L.wq hh e) (L.t2 (L.ok h hh).go) I.top hs).mono (by decide) fun s' q => q.to (show _ = b (P h).go + 3 from Int.add_assoc _ 2 1) rfl
theorem w5 (e : (P h).wy = 5) : Go (cfg w l ns h₀ hw gens os) σ k j 10 s (Aft b B lg0 lf (bstep b P h st)) := by
  rw [bs5 e, tw1]
  exact (g_rti (t := b (P h).go + 3) m (L.pp hh) (L.wq hh e) (L.t3 (L.ok h hh).go) (L.ok h hh).mi I.top hs).mono (by decide) fun s' q => q
theorem w6 (e : (P h).wy = 6) : Go (cfg w l ns h₀ hw gens os) σ k j 10 s (Aft b B lg0 lf (bstep b P h st)) := by
  rw [bs6 e, tw1]
  have e5 : ((st.log ++ [h]).length : Int) + 1 = ((st.log ++ [h] ++ [99]).length : Int) := by rw [len_snoc (l := st.log ++ [h])]; rfl
  have ll : (0 : Int) ≤ ((st.log ++ [h]).length : Int) ∧ ((st.log ++ [h]).length : Int) < 31 := by have := I.log; rw [len_snoc]; lia
  unfold Aft
  dsimp only
  rw [← lgs_add, ← e5]
  exact g_brk (t := b (P h).go + 3) m (L.pp hh) (L.wq hh e) L.hnd L.v0 L.v1 (t36 (L.t3 (L.ok h hh).go)) (L.ok h hh).mi I.top ll hs
theorem w0 (e : (P h).wy = 0 ∨ (P h).wy = 1) : Go (cfg w l ns h₀ hw gens os) σ k j 10 s (Aft b B lg0 lf (bstep b P h st)) := bs0 e ▸ e.elim
  (fun e => (g_jmp (r := []) m (p65 (L.pp hh)) (L.wq hh e) (t36 (L.t3 (L.ok h hh).go)) hs).mono (by decide) fun s' q => q)
  fun e => (g_ind m (p65 (L.pp hh)) (L.wq hh e) (by unfold ptr; split <;> lia) (L.ptr h hh).1 (L.ptr h hh).2 (t36 (L.t3 (L.ok h hh).go)) hs).mono (by decide) fun s' q => q
end
include m
theorem sim1 (L : Lay B b P) {h : Int} {n : Nat} {st : Ps} {s : Ms} (hh : 0 ≤ h ∧ h < 10) (hn : n ≤ 8) (I : Inv b P (n + 1) st) (hs : Is B st.stk (lgs lg0 st.log) ((n : Int) + 2) (st.log.length : Int) (b h + 3) st.top s) :
    Go (cfg w l ns h₀ hw gens os) σ k j 16 s (Aft b B lg0 ((n : Int) + 1) (bstep b P h st)) := by
  have o := L.ok h hh
  refine (Go.bind (t := 2) (u := 14) (g_on m (L.p3 hh) (L.bud hh) (by lia) hs) fun s1 h1 => ?_)
  refine (Go.bind (t := 4) (u := 10) (g_log m o.ho (by have := L.rng h hh; lia) (L.lg hh) L.b1 L.b0 (by lia) (by have := I.log; lia) (h1.to b37 rfl)) fun s2 h2 => ?_)
  have e1 : (n : Int) + 2 - 1 = (n : Int) + 1 := by lia
  have e3 : (st.log.length : Int) + 1 = ((st.log ++ [h]).length : Int) := by rw [len_snoc]; rfl
  rw [lgs_add, e1, e3] at h2
  have h2 := h2.to lv_is rfl
  exact wy_el o (w2 m L hh I h2) (w3 m L hh I h2) (w7 m L hh I h2) (w4 m L hh I h2) (w5 m L hh I h2) (w6 m L hh I h2) (w0 m L hh I h2)
end
end Mine.Mp
end
section
open PySem PySem.W
namespace Mine.Mp
open Mine.Hd Mine.Py Mine.Pu
noncomputable def pgo (n : Nat) (f : Int → Ps → Ps × Nat) : Option Int × Ps → Ps × Nat
  | (none, s) => (s, n + 1)
  | (some h, s) => f h s
noncomputable def prun (b : Int → Int) (P : Int → Pl) : Nat → Int → Ps → Ps × Nat
  | 0, _, s => (s, 0)
  | n + 1, h, s => pgo n (prun b P n) (bstep b P h s)
section
variable {b : Int → Int} {P : Int → Pl}
theorem prun_len (ok : ∀ s, 0 ≤ s ∧ s < 10 → (P s).Ok) : ∀ (n : Nat) (h : Int) (st : Ps), (0 ≤ h ∧ h < 10) → Inv b P n st → (prun b P n h st).1.log.length ≤ 18 ∧ (prun b P n h st).2 ≤ n
  | 0, h, st, hh, I => ⟨I.log, Nat.le_refl _⟩
  | n + 1, h, st, hh, I => by
    obtain ⟨a1, a2⟩ := inv_step ok hh I
    show (pgo n (prun b P n) (bstep b P h st)).1.log.length ≤ 18 ∧ (pgo n (prun b P n) (bstep b P h st)).2 ≤ n + 1
    revert a1 a2
    generalize bstep b P h st = r
    obtain ⟨x, st'⟩ := r
    cases x with
    | none => exact fun a1 _ => ⟨by show st'.log.length ≤ 18; dsimp only at a1; omega, Nat.le_refl _⟩
    | some x => exact fun a1 a2 => let ⟨y1, y2⟩ := a2 x rfl; let ⟨z1, z2⟩ := prun_len ok n x st' y1 y2; ⟨z1, Nat.le_succ_of_le z2⟩
theorem lgs_nil {f : Int → Int} : lgs f [] = f := by
  funext t
  unfold lgs
  split <;> rfl
theorem inv_ini {u : Int} {n : Nat} {f : Int → Int} (hu : 0 ≤ u ∧ u < 256) (hn : n ≤ 9) : Inv b P n ⟨((u - 1) % 256 - 1) % 256, Mine.Mp.upd (Mine.Mp.upd f u 2) ((u - 1) % 256) 87, [], []⟩ := by
  refine ⟨by dsimp only; omega, ⟨?_, ?_⟩, by dsimp only [List.length_nil]; omega, by dsimp only [List.length_nil]; omega⟩
  · dsimp only
    rw [show (((u - 1) % 256 - 1) % 256 + 1) % 256 = (u - 1) % 256 by omega]; exact upd_at
  · dsimp only
    rw [show (((u - 1) % 256 - 1) % 256 + 2) % 256 = u by omega, upd_off (by omega)]; exact upd_at
end
section
variable {w : World} {l : Nat} {ns : List Int} {h₀ : Heap} {hw : ∃ o, h₀.get? 80 = some o} {gens : Array GenState} {os : OsState} {σ : St} {k j : Nat} (m : Mk σ k j) {B b : Int → Int} {P : Int → Pl} {lg0 stk0 : Int → Int}
include m
theorem sim (L : Lay B b P) : ∀ (n : Nat) (h : Int) (st : Ps) (s : Ms), n ≤ 9 → (0 ≤ h ∧ h < 10) → Inv b P n st → Is B st.stk (lgs lg0 st.log) ((n : Int) + 1) (st.log.length : Int) (b h + 3) st.top s →
    Go (cfg w l ns h₀ hw gens os) σ k j (16 * n + 3) s (Is B (prun b P n h st).1.stk (lgs lg0 (prun b P n h st).1.log) ((prun b P n h st).2 : Int) ((prun b P n h st).1.log.length : Int) 600 (prun b P n h st).1.top)
  | 0, h, st, s, hn, hh, I, hs => by
    exact g_out m (L.p3 hh) (L.bud hh) rfl hs
  | n + 1, h, st, s, hn, hh, I, hs => by
    have e : ((n + 1 : Nat) : Int) + 1 = (n : Int) + 2 := by omega
    rw [e] at hs
    have g := sim1 (w := w) (l := l) (ns := ns) (h₀ := h₀) (hw := hw) (gens := gens) (os := os) m L hh (by omega) I hs
    obtain ⟨a1, a2⟩ := inv_step L.ok hh I
    show Go _ _ _ _ _ _ (Is B (pgo n (prun b P n) (bstep b P h st)).1.stk (lgs lg0 (pgo n (prun b P n) (bstep b P h st)).1.log) ((pgo n (prun b P n) (bstep b P h st)).2 : Int) ((pgo n (prun b P n) (bstep b P h st)).1.log.length : Int) 600 (pgo n (prun b P n) (bstep b P h st)).1.top)
    revert a1 a2 g
    generalize bstep b P h st = r
    obtain ⟨x, st'⟩ := r
    cases x with
    | none => exact fun g a1 _ => g.mono (by omega) fun s' q => q
    | some x => exact fun g a1 a2 => let ⟨y1, y2⟩ := a2 x rfl; (Go.bind (u := 16 * n + 3) g fun s' q => sim L n x st' s' (by omega) y1 y2 q).le (by omega)
theorem whole (L : Lay B b P) {u : Int} {n : Nat} {s : Ms} (hi : At B 512 [162, u, 154, 169, 2, 72, 169, 87, 72, 76, (b 0 + 3) % 256, (b 0 + 3) / 256]) (hu : 0 ≤ u ∧ u < 256) (hn : n ≤ 9) (hs : Is B stk0 lg0 ((n : Int) + 1) 0 512 255 s) :
    let r := prun b P n 0 ⟨((u - 1) % 256 - 1) % 256, upd (upd stk0 u 2) ((u - 1) % 256) 87, [], []⟩
    Go (cfg w l ns h₀ hw gens os) σ k j 160 s (Is B r.1.stk (lgs lg0 r.1.log) (r.2 : Int) (r.1.log.length : Int) 600 r.1.top) := by
  intro r
  have r0 := L.rng 0 (by decide)
  refine (Go.bind (u := 16 * n + 3) (g_ini m hi hu (by omega) hs) fun s' q => ?_).le (by omega)
  exact sim m L n 0 ⟨((u - 1) % 256 - 1) % 256, upd (upd stk0 u 2) ((u - 1) % 256) 87, [], []⟩ s' hn (by decide) (inv_ini hu hn) (by rw [lgs_nil]; exact q)
end
end Mine.Mp
end
section
open PySem PySem.W
namespace Mine.Mp
open Mine.Hd Mine.Py Mine.Pu
noncomputable def ovr (f : Int → Int) (a : Int) (ys : List Int) : Int → Int := fun t => if a ≤ t ∧ t < a + (ys.length : Int) then (ys[(t - a).toNat]?).getD 0 else f t
theorem ovr_off {f : Int → Int} {a t : Int} {ys : List Int} (h : t < a ∨ a + (ys.length : Int) ≤ t) : ovr f a ys t = f t := if_neg (by lia)
theorem ovr_at {f : Int → Int} {a v : Int} {i : Nat} {ys : List Int} (h : ys[i]? = some v) : ovr f a ys (a + (i : Int)) = v := by
  have := (List.getElem?_eq_some_iff.mp h).1
  unfold ovr
  rw [if_pos (by lia), show (a + (i : Int) - a).toNat = i by lia, h]; rfl
theorem mem_ovr {f : Int → Int} {a b : Nat} {ys : List Int} (h : b = a + ys.length) (hb : b ≤ 65536) : (mem f).take a ++ ys.map I ++ (mem f).drop b = mem (ovr f a ys) := by
  have la : ((mem f).take a).length = a := by rw [List.length_take, mem_len]; lia
  apply List.ext_getElem?
  intro n
  by_cases h1 : n < a
  · rw [List.append_assoc, List.getElem?_append_left (by lia), List.getElem?_take_of_lt h1, mem_at (by lia), mem_at (by lia), ovr_off (by lia)]
  · by_cases h2 : n < b
    · rw [List.getElem?_append_left (by rw [List.length_append, la, List.length_map]; lia), List.getElem?_append_right (by lia), la, mem_at (by lia), List.getElem?_map]
      obtain ⟨y, hy⟩ : ∃ y, ys[n - a]? = some y := ⟨_, List.getElem?_eq_getElem (by lia)⟩
      rw [hy, show (n : Int) = (a : Int) + ((n - a : Nat) : Int) by lia, ovr_at hy]; rfl
    · rw [List.getElem?_append_right (by rw [List.length_append, la, List.length_map]; lia), List.length_append, la, List.length_map, List.getElem?_drop]
      rw [show b + (n - (a + ys.length)) = n by lia]
      by_cases h3 : n < 65536
      · rw [mem_at h3, mem_at h3, ovr_off (by lia)]
      · rw [List.getElem?_eq_none (by rw [mem_len]; lia), List.getElem?_eq_none (by rw [mem_len]; lia)]
theorem code_len {p : Pl} {s g o : Int} : (code p s g o).length ≤ 33 := by
  unfold code
  rw [List.length_append, List.length_append, List.length_append]
  have a : (logc p.ho s).length ≤ 9 := by
    unfold logc
    split
    · exact Nat.le_refl _
    · split
      · exact Nat.le_refl _
      · exact Nat.le_of_ble_eq_true rfl
  have b : (wayc p s g o).length ≤ 14 := by
    unfold wayc wayW
    repeat' split
    all_goals exact Nat.le_of_ble_eq_true rfl
  show 3 + (7 + _) ≤ 33
  lia
noncomputable def ptr2 (p : Pl) (s : Int) : Int := ptr p s / 256 * 256 + (ptr p s + 1) % 256
noncomputable def lay1 (b : Int → Int) (P : Int → Pl) (s : Int) (f : Int → Int) : Int → Int := upd (upd (ovr f (b s) (code (P s) s (b (P s).go) (b (P s).ot))) (ptr (P s) s) ((b (P s).go + 3) % 256)) (ptr2 (P s) s) ((b (P s).go + 3) / 256)
noncomputable def memN (b : Int → Int) (P : Int → Pl) (f : Int → Int) : Nat → Int → Int
  | 0 => f
  | n + 1 => lay1 b P n (memN b P f n)
section
variable {b : Int → Int} {P : Int → Pl} {f : Int → Int}
theorem ptr_in {p : Pl} {s : Int} : (1024 + 256 * s ≤ ptr p s ∧ ptr p s < 1280 + 256 * s) ∧ (1024 + 256 * s ≤ ptr2 p s ∧ ptr2 p s < 1280 + 256 * s) ∧ ptr p s ≠ ptr2 p s := by
  have h : 1024 + 256 * s ≤ ptr p s ∧ ptr p s < 1280 + 256 * s := by
    unfold ptr
    split <;> lia
  unfold ptr2
  lia
theorem lay1_off {s t : Int} (h1 : t < b s ∨ b s + 33 ≤ t) (h2 : t < 1024 + 256 * s ∨ 1280 + 256 * s ≤ t) : lay1 b P s f t = f t := by
  have := ptr_in (p := P s) (s := s)
  have c := code_len (p := P s) (s := s) (g := b (P s).go) (o := b (P s).ot)
  unfold lay1
  rw [upd_off (by lia), upd_off (by lia), ovr_off (by lia)]
theorem memN_off {t : Int} : ∀ {m : Nat} (n : Nat), (∀ i : Nat, n ≤ i → i < n + m → (t < b i ∨ b i + 33 ≤ t) ∧ (t < 1024 + 256 * (i : Int) ∨ 1280 + 256 * (i : Int) ≤ t)) → memN b P f (n + m) t = memN b P f n t
  | 0, n, _ => rfl
  | m + 1, n, h => by
    have a := h (n + m) (by lia) (by lia)
    show lay1 b P ((n + m : Nat) : Int) (memN b P f (n + m)) t = _
    rw [lay1_off a.1 a.2]
    exact memN_off n fun i h1 h2 => h i h1 (by lia)
structure Bs (b : Int → Int) : Prop where
  rng : ∀ s, 0 ≤ s ∧ s < 10 → 4400 ≤ b s ∧ b s < 58000
  dis : ∀ s t, (0 ≤ s ∧ s < 10) → (0 ≤ t ∧ t < 10) → s ≠ t → b s + 48 ≤ b t ∨ b t + 48 ≤ b s
theorem memN_low (hb : Bs b) {t : Int} (h : t < 1024 ∨ 58100 ≤ t) : memN b P f 10 t = f t := memN_off (m := 10) 0 fun i _ h2 => by have := hb.rng i (by lia); lia
theorem memN_blk (hb : Bs b) {s : Nat} (hs : s < 10) : At (memN b P f 10) (b s) (code (P s) s (b (P s).go) (b (P s).ot)) := .of fun i v e => by
  have c := code_len (p := P s) (s := s) (g := b (P s).go) (o := b (P s).ot)
  have l := (List.getElem?_eq_some_iff.mp e).1
  have r := hb.rng s (by lia)
  have g := ptr_in (p := P s) (s := s)
  have : memN b P f (s + 1 + (9 - s)) (b s + (i : Int)) = memN b P f (s + 1) (b s + (i : Int)) := memN_off (s + 1) fun i' h1 h2 => by
    have := hb.dis s i' (by lia) (by lia) (by lia)
    lia
  rw [show s + 1 + (9 - s) = 10 by lia] at this
  rw [this]
  show lay1 b P (s : Int) (memN b P f s) _ = v
  unfold lay1
  rw [upd_off (by lia), upd_off (by lia)]
  exact ovr_at e
theorem memN_ptr (hb : Bs b) {s : Nat} (hs : s < 10) : memN b P f 10 (ptr (P s) s) = (b (P s).go + 3) % 256 ∧ memN b P f 10 (ptr2 (P s) s) = (b (P s).go + 3) / 256 := by
  have g := ptr_in (p := P s) (s := s)
  have r : ∀ {t : Int}, (1024 + 256 * (s : Int) ≤ t ∧ t < 1280 + 256 * (s : Int)) → memN b P f 10 t = memN b P f (s + 1) t := fun {t} ht => by
    have : memN b P f (s + 1 + (9 - s)) t = memN b P f (s + 1) t := memN_off (s + 1) fun i h1 h2 => by
      have := hb.rng i (by lia)
      lia
    rwa [show s + 1 + (9 - s) = 10 by lia] at this
  rw [r g.1, r g.2.1]
  show lay1 b P (s : Int) (memN b P f s) _ = _ ∧ lay1 b P (s : Int) (memN b P f s) _ = _
  unfold lay1
  exact ⟨(upd_off g.2.2).trans upd_at, upd_at⟩
end
noncomputable def g0 (b0 u lf : Int) : Int → Int := ovr (ovr (ovr (upd (upd (upd (fun _ => 0) 0 2) 255 128) 16 lf) 512 [162, u, 154, 169, 2, 72, 169, 87, 72, 76, (b0 + 3) % 256, (b0 + 3) / 256]) 560 [166, 17, 169, 99, 157, 128, 2, 230, 17, 64]) 65534 [48, 2]
section
variable {b : Int → Int} {P : Int → Pl} {b0 u lf : Int}
theorem g0_hnd : At (g0 b0 u lf) 560 [166, 17, 169, 99, 157, 128, 2, 230, 17, 64] := .of fun i v e => by
  have l : i < 10 := (List.getElem?_eq_some_iff.mp e).1
  unfold g0
  rw [ovr_off (by lia)]
  exact ovr_at e
theorem g0_ini : At (g0 b0 u lf) 512 [162, u, 154, 169, 2, 72, 169, 87, 72, 76, (b0 + 3) % 256, (b0 + 3) / 256] := .of fun i v e => by
  have l : i < 12 := (List.getElem?_eq_some_iff.mp e).1
  unfold g0
  rw [ovr_off (by lia), ovr_off (by lia)]
  exact ovr_at e
theorem At.low {t : Int} {l : List Int} {f : Int → Int} (hb : Bs b) (h : At f t l) (ht : t + l.length ≤ 1024) : At (memN b P f 10) t l := .of fun i v e => by
  have := (List.getElem?_eq_some_iff.mp e).1
  rw [memN_low hb (by lia)]
  exact h.at i v e
theorem lay_ok (hb : Bs b) (ok : ∀ s, 0 ≤ s ∧ s < 10 → (P s).Ok) : Lay (memN b P (g0 b0 u lf) 10) b P := by
  have nat : ∀ {s : Int}, 0 ≤ s ∧ s < 10 → ∃ n : Nat, n < 10 ∧ s = (n : Int) := fun {s} h => ⟨s.toNat, by lia, by lia⟩
  refine ⟨fun s hs => ?_, fun s hs => ?_, g0_hnd.low hb (by decide), (memN_low hb (by decide)).trans rfl, (memN_low hb (by decide)).trans rfl, (memN_low hb (by decide)).trans rfl, (memN_low hb (by decide)).trans rfl, hb.rng, ok⟩
  · obtain ⟨n, hn, rfl⟩ := nat hs
    exact memN_blk hb hn
  · obtain ⟨n, hn, rfl⟩ := nat hs
    exact memN_ptr hb hn
theorem mem_low {t : Int} {v : Int} (hb : Bs b) (h : t < 1024) (e : g0 b0 u lf t = v) : memN b P (g0 b0 u lf) 10 t = v := (memN_low hb (.inl h)).trans e
end
noncomputable def pln (g stk : Int → Int) : Int → Int := fun t => if 256 ≤ t ∧ t < 512 then stk (t - 256) else g t
theorem pln_upd {g stk : Int → Int} {t v : Int} (h : 0 ≤ t ∧ t < 256) : upd (pln g stk) (256 + t) v = pln g (upd stk t v) := by
  funext i
  unfold upd pln
  by_cases e : i = 256 + t
  · rw [if_pos e, if_pos (by lia)]; dsimp only; rw [if_pos (by lia)]
  · rw [if_neg e]
    by_cases r : 256 ≤ i ∧ i < 512
    · rw [if_pos r, if_pos r]; dsimp only; rw [if_neg (by lia)]
    · rw [if_neg r, if_neg r]
theorem pln_ini {g : Int → Int} : pln g (fun t => g (t + 256)) = g := by
  funext i
  unfold pln
  split
  · dsimp only; rw [show i - 256 + 256 = i by lia]
  · rfl
theorem full_ini {g : Int → Int} {lf : Int} (h1 : g 16 = lf) (h2 : g 17 = 0) : full g (fun t => g (t + 256)) (fun t => g (640 + t)) lf 0 = g := by
  funext i
  unfold full
  by_cases a : i = 16
  · rw [if_pos a, a, h1]
  · rw [if_neg a]
    by_cases c : i = 17
    · rw [if_pos c, c, h2]
    · rw [if_neg c]
      split
      · dsimp only; rw [show i - 256 + 256 = i by lia]
      · split
        · dsimp only; rw [show 640 + (i - 640) = i by lia]
        · rfl
theorem full_end {g stk : Int → Int} {log : List Int} {lf cn : Int} (h : log.length ≤ 18) : full g stk (lgs (fun t => g (640 + t)) log) lf cn = ovr (upd (upd (pln g stk) 16 lf) 17 cn) 640 log := by
  funext i
  unfold full ovr upd pln lgs
  dsimp only
  by_cases a : i = 16
  · subst a; rfl
  · rw [if_neg a]
    by_cases c : i = 17
    · subst c; rfl
    · rw [if_neg c, if_neg c, if_neg a]
      by_cases d : 256 ≤ i ∧ i < 512
      · rw [if_pos d, if_pos d, if_neg (by lia)]
      · rw [if_neg d, if_neg d]
        by_cases e : 640 ≤ i ∧ i < 672
        · rw [if_pos e, if_pos (by lia)]
          by_cases q : i < 640 + (log.length : Int)
          · rw [if_pos ⟨e.1, q⟩, List.getElem?_eq_getElem (by lia)]; rfl
          · rw [if_neg (by lia), List.getElem?_eq_none (by lia), show 640 + (i - 640) = i by lia]; rfl
        · rw [if_neg e, if_neg (by lia)]
end Mine.Mp
end
section
open PySem PySem.W
namespace Mine.Mp
open Mine.Hd Mine.Py Mine.Pu
@[irreducible] noncomputable def tupW (vs : List AV) (σ : St) (Q : AV → St → Prop) : Prop := ∃ l, vs = l.map AV.at ∧ l.length ≤ 1000 ∧ Q (.tup l) σ
@[irreducible] noncomputable def untW (n : Nat) (v : AV) (X : List Py.At → Prop) : Prop := ∃ l, v = .tup l ∧ l.length = n ∧ X l
@[irreducible] noncomputable def orTW (C : Cfg) (S : Nat → Py.Spec) (b : Tm) (ρ : Py.Loc) (σ : St) (Q : AV → St → Prop) (v : AV) (r : Bool) : Prop := (r = true → Q v σ) ∧ (r = false → xpT C S b ρ σ Q)
@[irreducible] noncomputable def lstW (vs : List AV) (σ : St) (Q : AV → St → Prop) : Prop := vs.length ≤ 1000 ∧ Q (.lst σ.length) (σ ++ [.list vs])
@[irreducible] noncomputable def appW (k : Nat) (v : AV) (σ : St) (X : St → Prop) : Prop := ∃ xs, σ[k]? = some (.list xs) ∧ xs.length ≤ 2 ^ 23 ∧ X (σ.set k (.list (xs ++ [v])))
@[irreducible] noncomputable def forW (C : Cfg) (S : Nat → Py.Spec) (g : Tgt) (b : Cs) (v : AV) (ρ : Py.Loc) (σ : St) (Q : Fl → Py.Loc → St → Prop) : Prop := ∃ xs, listAt C σ v = some xs ∧ ∃ Inv : Nat → Py.Loc → St → Prop, Inv 0 ρ σ ∧ ∀ n ρ' σ', Inv n ρ' σ' → listAt C σ' v = some xs ∧
      (∀ a, xs[n]? = some a → bindW g n a ρ' fun ρ₂ => xpCs C S b ρ₂ σ' fun fl ρ₃ σ₃ => match fl with | .next => Inv (n + 1) ρ₃ σ₃ | .cont => Inv (n + 1) ρ₃ σ₃ | .brk => Q .next ρ₃ σ₃ | .ret v => Q (.ret v) ρ₃ σ₃) ∧
      (n = xs.length → Q .next ρ' σ')
@[irreducible] noncomputable def cutW (C : Cfg) (hi : Option Nat) (v : AV) (σ : St) (Q : AV → St → Prop) : Prop := ∃ xs, listAt C σ v = some xs ∧ xs.length ≤ 2 ^ 24 ∧ Q (.lst σ.length) (σ ++ [.list (cutG hi xs)])
@[irreducible] noncomputable def leqW (C : Cfg) (va vb : AV) (σ : St) (Q : AV → St → Prop) : Prop := ∃ xs ys, listAt C σ va = some xs ∧ listAt C σ vb = some ys ∧ xs.all isIntV = true ∧ ys.all isIntV = true ∧ Q (.at (.bool (decide (xs = ys)))) σ
theorem at_end {σ : St} {x : AO} : (σ ++ [x])[σ.length]? = some x := by simp
theorem set_end {σ : St} {x y : AO} : (σ ++ [x]).set σ.length y = σ ++ [y] := by simp
theorem app_two {σ : St} {i : Nat} {x y : AO} (h : σ[i]? = some x) : (σ ++ [y])[i]? = some x := by rw [List.getElem?_append_left (lt_of_at h)]; exact h
theorem set_ne {σ : St} {i j : Nat} {x y : AO} (h : σ[i]? = some x) (n : j ≠ i) : (σ.set j y)[i]? = some x := by rw [List.getElem?_set_ne n]; exact h
section
variable {C : Cfg} {S : Nat → Py.Spec} {ρ : Py.Loc} {σ : St} {n k j i f : Nat} {Q : AV → St → Prop} {QB : Bool → St → Prop} {QC : Fl → Py.Loc → St → Prop} {a b t : Tm} {r ca cb : Cs} {v : AV} {fs : List AV}
theorem orT_i (q : xpT C S a ρ σ fun va σ₁ => truW σ₁ va fun r => orTW C S b ρ σ₁ Q va r) : xpT C S (.or a b) ρ σ Q := by with_unfolding_all exact q
theorem join_i {r : Bool} {u v : Int} (ha : ∀ Q : AV → St → Prop, Q (I u) σ → xpT C S a ρ σ Q) (hb : ∀ Q : AV → St → Prop, Q (I v) σ → xpT C S b ρ σ Q) (q : Q (I (if r then u else v)) σ) : twoW r (xpT C S a ρ σ Q) (xpT C S b ρ σ Q) := by with_unfolding_all exact
  ⟨fun h => ha _ (by rw [if_pos h] at q; exact q), fun h => hb _ (by rw [if_neg (by rw [h]; decide)] at q; exact q)⟩
theorem join_orT {r₁ r₂ : Bool} (hb : ∀ Q : AV → St → Prop, Q (.at (.bool r₂)) σ → xpT C S b ρ σ Q) (q : Q (.at (.bool (r₁ || r₂))) σ) : orTW C S b ρ σ Q (.at (.bool r₁)) r₁ := by with_unfolding_all exact
  ⟨fun h => by rw [h]; rw [h] at q; exact q, fun h => hb _ (by rw [h] at q; exact q)⟩
theorem tup_i {as : Ts} (q : xpTs C S as ρ σ fun vs σ₁ => tupW vs σ₁ Q) : xpT C S (.tup as) ρ σ Q := by with_unfolding_all exact q
theorem tup_k {vs : List AV} {l : List Py.At} (h : vs = l.map AV.at) (hl : l.length ≤ 1000) (q : Q (.tup l) σ) : tupW vs σ Q := by unfold tupW; exact ⟨l, h, hl, q⟩
theorem tas_c {is : List Nat} (q : xpT C S t ρ σ fun v σ₁ => untW is.length v fun l => putsW ρ is l fun ρ' => xpCs C S r ρ' σ₁ QC) : xpCs C S (.cons (.tas is t) r) ρ σ QC := by with_unfolding_all exact q
theorem tar_c {is : List Nat} (q : xpT C S t ρ σ fun v σ₁ => untW is.length v fun l => putsW ρ is.reverse l.reverse fun ρ' => xpCs C S r ρ' σ₁ QC) : xpCs C S (.cons (.tar is t) r) ρ σ QC := by with_unfolding_all exact q
theorem unt_k {n : Nat} {l : List Py.At} {X : List Py.At → Prop} (h : l.length = n) (q : X l) : untW n (.tup l) X := by unfold untW; exact ⟨l, rfl, h, q⟩
theorem mul_r {i j : Int} (h : Builtin.Int.intBits j ≤ 64) (q : Q (I (i * j)) σ) : xbin .Mult (I i) (I j) σ Q := by unfold xbin; exact ⟨IntMulOk.of_right h, q⟩
theorem mul_l {i j : Int} (h : Builtin.Int.intBits i ≤ 64) (q : Q (I (i * j)) σ) : xbin .Mult (I i) (I j) σ Q := by unfold xbin; exact ⟨IntMulOk.of_left h, q⟩
theorem lst_i {as : Ts} (q : xpTs C S as ρ σ fun vs σ₁ => lstW vs σ₁ Q) : xpT C S (.lst as) ρ σ Q := by with_unfolding_all exact q
theorem lst_k {vs : List AV} (h : vs.length ≤ 1000) (q : Q (.lst σ.length) (σ ++ [.list vs])) : lstW vs σ Q := by unfold lstW; exact ⟨h, q⟩
theorem app_c {xs : List AV} (h1 : ρ[i]? = some (some (.lst k))) (h2 : σ[k]? = some (.list xs)) (q : xpT C S t ρ σ fun v σ₁ => appW k v σ₁ fun σ₂ => xpCs C S r ρ σ₂ QC) : xpCs C S (.cons (.app i t) r) ρ σ QC := by with_unfolding_all exact ⟨k, xs, h1, h2, q⟩
theorem app_k {xs : List AV} {X : St → Prop} (h1 : σ[k]? = some (.list xs)) (h2 : xs.length ≤ 2 ^ 23) (q : X (σ.set k (.list (xs ++ [v])))) : appW k v σ X := by unfold appW; exact ⟨xs, h1, h2, q⟩
theorem forc_c {g : Tgt} {b : Cs} (q : xpT C S t ρ σ fun v σ₁ => forW C S g b v ρ σ₁ (seqK C S r QC)) : xpCs C S (.cons (.forc g t b) r) ρ σ QC := by with_unfolding_all exact q
theorem six_k {xs : List AV} {i : Int} {X : St → Prop} (h1 : σ[k]? = some (.list xs)) (h2 : 0 ≤ i) (h3 : i < xs.length) (h4 : i < 2 ^ 63) (q : X (σ.set k (.list (xs.set i.toNat v)))) : sixW v (.lst k) (I i) σ X := by unfold sixW; exact ⟨k, xs, i, rfl, rfl, h1, h2, h3, h4, q⟩
theorem six_m {g : Int → Int} {i v : Int} {X : St → Prop} (h1 : σ[k]? = some (.list (mem g))) (h2 : 0 ≤ i) (h3 : i < 65536) (q : X (σ.set k (.list (mem (upd g i v))))) : sixW (I v) (.lst k) (I i) σ X := six_k h1 h2 (by rw [mem_len]; lia) (by lia) (by rw [mem_set h2 h3]; exact q)
theorem cut_i {hi : Option Nat} (q : xpT C S a ρ σ fun v σ₁ => cutW C hi v σ₁ Q) : xpT C S (.cut a hi) ρ σ Q := by with_unfolding_all exact q
theorem cut_k {hi : Option Nat} {xs : List AV} (h1 : listAt C σ v = some xs) (h2 : xs.length ≤ 2 ^ 24) (q : Q (.lst σ.length) (σ ++ [.list (cutG hi xs)])) : cutW C hi v σ Q := by unfold cutW; exact ⟨xs, h1, h2, q⟩
theorem leq_i (q : xpT C S a ρ σ fun va σ₁ => xpT C S b ρ σ₁ fun vb σ₂ => leqW C va vb σ₂ Q) : xpT C S (.leq a b) ρ σ Q := by with_unfolding_all exact q
theorem new_i (q : xpT C S a ρ σ fun va σ₁ => xpT C S b ρ σ₁ fun vb σ₂ => S 300 [va, vb] σ₂ Q) : xpT C S (.new a b) ρ σ Q := by with_unfolding_all exact q
theorem bindE {i j n : Nat} {a : AV} {X : Py.Loc → Prop} {ρ' : Py.Loc} (h : (ρ.set i (some (.at (.int n)))).set j (some a) = ρ') (q : X ρ') : bindW (.enum i j) n a ρ X := by subst h; exact q
theorem bind1 {i n : Nat} {a : AV} {X : Py.Loc → Prop} {ρ' : Py.Loc} (h : ρ.set i (some a) = ρ') (q : X ρ') : bindW (.one i) n a ρ X := by subst h; exact q
theorem for_k {g : Tgt} {b : Cs} {xs : List AV} {Q : Fl → Py.Loc → St → Prop} (h1 : listAt C σ v = some xs) (Inv : Nat → Py.Loc → St → Prop) (i0 : Inv 0 ρ σ) (st : ∀ n ρ' σ', Inv n ρ' σ' → listAt C σ' v = some xs ∧
      (∀ a, xs[n]? = some a → bindW g n a ρ' fun ρ₂ => xpCs C S b ρ₂ σ' fun fl ρ₃ σ₃ => match fl with | .next => Inv (n + 1) ρ₃ σ₃ | .cont => Inv (n + 1) ρ₃ σ₃ | .brk => Q .next ρ₃ σ₃ | .ret v => Q (.ret v) ρ₃ σ₃) ∧
      (n = xs.length → Q .next ρ' σ')) : forW C S g b v ρ σ Q := by unfold forW; exact ⟨xs, h1, Inv, i0, st⟩
theorem listAt_lst {xs : List AV} (h : σ[k]? = some (.list xs)) : listAt C σ (.lst k) = some xs := by show listOf σ[k]? = some xs; rw [h]; rfl
theorem ck_eqb {X : Bool → Prop} {a b : Bool} (q : X (a == b)) : cmpW .Eq (.at (.bool a)) (.at (.bool b)) X := by unfold cmpW; exact ⟨_, rfl, q⟩
theorem seq_n (q : xpCs C S r ρ σ QC) : seqK C S r QC .next ρ σ := by with_unfolding_all exact q
theorem ladd_c (h : ρ[i]? = some (some (.lst k))) (q : xpT C S t ρ σ fun v σ₁ => ∃ j xs ys, v = .lst j ∧ σ₁[k]? = some (.list xs) ∧ σ₁[j]? = some (.list ys) ∧ xs.length + ys.length ≤ 2 ^ 24 ∧ xpCs C S r (ρ.set i (some (.lst k))) (σ₁.set k (.list (xs ++ ys))) QC) : xpCs C S (.cons (.ladd i t) r) ρ σ QC := by with_unfolding_all exact ⟨k, h, q⟩
theorem len_i (q : xpT C S a ρ σ fun v σ₁ => ∃ xs, listAt C σ₁ v = some xs ∧ xs.length ≤ 2 ^ 24 ∧ Q (I xs.length) σ₁) : xpT C S (.len a) ρ σ Q := by with_unfolding_all exact q
theorem bw_cat {xs ys : List AV} (h1 : σ[k]? = some (.list xs)) (h2 : σ[j]? = some (.list ys)) (h : xs.length + ys.length ≤ 2 ^ 24) (q : Q (.lst σ.length) (σ ++ [.list (xs ++ ys)])) : xbin .Add (.lst k) (.lst j) σ Q := by unfold xbin; exact ⟨rfl, xs, ys, h1, h2, h, q⟩
theorem iw_tup {l : List Py.At} {i : Int} {a : Py.At} (h0 : 0 ≤ i) (h1 : i < 2 ^ 63) (h : l[i.toNat]? = some a) (q : Q (.at a) σ) : xidx C (.tup l) (I i) σ Q := by unfold xidx; exact ⟨a, h0, h1, h, q⟩
theorem tal_c {is : List Nat} (q : xpT C S t ρ σ fun v σ₁ => ∃ k l, v = .lst k ∧ σ₁[k]? = some (.list (l.map AV.at)) ∧ l.length = is.length ∧ putsW ρ is l fun ρ' => xpCs C S r ρ' σ₁ QC) : xpCs C S (.cons (.tal is t) r) ρ σ QC := by with_unfolding_all exact q
end
noncomputable def plan (n s : Int) : Pl := ⟨(n + 3 * s) % 8, (5 * n + s + 1) % 10, (n / 8 + 2 * s) % 10, (n / 2 * 29 + 71 * s) % 256, (n / 3 * 53 + 147 * s) % 256, (n / 8 + s) % 8, (n + 2 * s) % 3⟩
theorem em {x m : Int} (h : 0 < m) : 0 ≤ x % m ∧ x % m < m := ⟨Int.emod_nonneg _ (Int.ne_of_gt h), Int.emod_lt_of_pos _ h⟩
theorem plan_ok {n s : Int} : (plan n s).Ok := by constructor <;> exact em (by decide)
noncomputable def ptup (p : Pl) : List Py.At := [.int p.wy, .int p.go, .int p.ot, .int p.mi, .int p.mo, .int p.kd, .int p.ho]
section
variable {C : Cfg} {σ : St} {n k j : Nat} {Q : AV → St → Prop} {a o t s x : Int}
theorem sp_word (q : Q (.lst σ.length) (σ ++ [.list [I (t % 256), I (t / 256)]])) : Sp C (n + 1) 201 [I t] σ Q := by
  refine ⟨rfl, ?_⟩
  unfold ir_law_word
  refine start (ρ' := [_]) rfl ?_
  repeat (first | refine c_i ?_ | refine v_i rfl ?_ | refine bin_i ?_ | refine bw_div (by decide) ?_ | refine bw_mod (by decide) ?_ | refine nilT ?_ | refine consT ?_ | refine lst_i ?_ | refine lst_k (ble rfl) ?_ | refine ret_c ?_)
  exact q
theorem sp_plan (q : Q (.tup (ptup (plan x s))) σ) : Sp C (n + 1) 202 [I x, I s] σ Q := by
  refine ⟨rfl, ?_⟩
  unfold ir_law_plan
  refine start (ρ' := [_, _, _, _, _, _, _, _, _]) rfl ?_
  repeat (first | refine c_i ?_ | refine v_i rfl ?_ | refine bin_i ?_ | refine bw_add ?_ | refine mul_r (by decide +kernel) ?_ | refine mul_l (by decide +kernel) ?_ | refine bw_div (by decide) ?_ | refine bw_mod (by decide) ?_ | refine nilT ?_ | refine consT ?_ | refine tup_i ?_ | refine tup_k (l := [_, _, _, _, _, _, _]) rfl (ble rfl) ?_ | refine asg_c ?_ | refine ret_c ?_ | (first | refine pl (ρ' := [_, _, _, _, _, _, _, _, _]) rfl ?_ | refine pls (ρ' := [_, _, _, _, _, _, _, _, _]) rfl ?_))
  exact q
theorem sp_pointer (q : Q (I (ptr (plan x s) s)) σ) : Sp C (n + 2) 203 [I x, I s] σ Q := by
  refine ⟨rfl, ?_⟩
  unfold ir_law_pointer
  refine start (ρ' := [_, _, _, _]) rfl ?_
  repeat (first | (first | refine c_i ?_ | refine v_i rfl ?_ | refine bin_i ?_ | refine bw_add ?_ | refine mul_l (by decide +kernel) ?_ | refine bw_mod (by decide) ?_ | refine cmpB_i ?_ | refine ite_i ?_ | refine ck_eq ?_ | refine nilT ?_ | refine consT ?_ | refine gc_i ?_ | refine tup_i ?_ | refine unt_k rfl ?_ | refine idx_i ?_ | refine tup_k (l := [_, _]) rfl (ble rfl) ?_ | refine ret_c ?_ | refine tar_c ?_ | (first | refine pl (ρ' := [_, _, _, _]) rfl ?_ | refine pls (ρ' := [_, _, _, _]) rfl ?_)) | refine sp_plan ?_ | refine iw_tup (l := ptup _) (by decide) (by decide) rfl ?_)
  apply join_i
  · intro Q q
    repeat (refine c_i ?_)
    exact q
  · intro Q q
    repeat (first | refine c_i ?_ | refine v_i rfl ?_ | refine bin_i ?_ | refine bw_mod (by decide) ?_)
    exact q
  repeat (refine bw_add ?_)
  unfold ptr at q
  simpa only [decide_eq_true_eq] using q
theorem sp_signed (q : Q (I (sg o)) σ) : Sp C (n + 1) 205 [I o] σ Q := by
  refine ⟨rfl, ?_⟩
  unfold ir_law_signed
  refine start (ρ' := [_]) rfl ?_
  repeat (first | refine c_i ?_ | refine v_i rfl ?_ | refine cmpB_i ?_ | refine ite_i ?_ | refine ck_gt ?_ | refine ret_c ?_)
  apply join_i
  · intro Q q
    repeat (first | refine c_i ?_ | refine v_i rfl ?_ | refine bin_i ?_ | refine bw_sub ?_)
    exact q
  · intro Q q
    repeat (refine v_i rfl ?_)
    exact q
  unfold sg at q
  simpa only [decide_eq_true_eq] using q
theorem sp_taken {kd : Int} (hk : 0 ≤ kd ∧ kd < 8) (q : ∀ y, Q (.at (.bool (taken kd a o))) (σ ++ [y])) : Sp C (n + 2) 206 [I kd, I a, I o] σ Q := by
  refine ⟨rfl, ?_⟩
  unfold ir_law_taken
  refine start (ρ' := [_, _, _, _, _, _]) rfl ?_
  repeat (first | (first | refine c_i ?_ | refine v_i rfl ?_ | refine bin_i ?_ | refine neg_i ?_ | refine neg_k ?_ | refine bw_add ?_ | refine bw_mod (by decide) ?_ | refine cmp_i ?_ | refine ck_gt ?_ | refine ck_lt ?_ | refine tk_bool ?_ | refine orT_i ?_ | refine nilT ?_ | refine consT ?_ | refine gc_i ?_ | refine lst_i ?_ | refine idx_i ?_ | refine asg_c ?_ | (first | refine pl (ρ' := [_, _, _, _, _, _]) rfl ?_ | refine pls (ρ' := [_, _, _, _, _, _]) rfl ?_)) | refine sp_signed ?_)
  apply join_orT
  · intro Q q
    repeat (first | refine c_i ?_ | refine v_i rfl ?_ | refine cmp_i ?_ | refine ck_gt ?_)
    exact q
  repeat (first | refine c_i ?_ | refine v_i rfl ?_ | refine bin_i ?_ | refine bw_div (by decide) ?_ | refine bw_mod (by decide) ?_ | refine cmp_i ?_ | refine ck_gt ?_ | refine ck_eq ?_ | refine nilT ?_ | refine consT ?_ | refine lst_k (ble rfl) ?_)
  refine iw_lst at_end (v := .at (.bool (seen kd a o))) ?_ ?_
  · unfold seen ovf
    have e1 : decide ((a + o) % 256 > 127) = decide (128 ≤ (a + o) % 256) := decide_eq_decide.mpr (by lia)
    have e2 : (decide (sg a + sg o < -128) || decide (sg a + sg o > 127)) = decide (sg a + sg o < -128 ∨ sg a + sg o > 127) := (Bool.decide_or _ _).symm
    rw [e1, e2]
    rcases (by lia : kd / 2 = 0 ∨ kd / 2 = 1 ∨ kd / 2 = 2 ∨ kd / 2 = 3) with e | e | e | e <;> rw [e] <;> rfl
  repeat (first | refine c_i ?_ | refine v_i rfl ?_ | refine bin_i ?_ | refine bw_mod (by decide) ?_ | refine cmp_i ?_ | refine ck_eq ?_ | refine ck_eqb ?_ | refine ret_c ?_ | (first | refine pl (ρ' := [_, _, _, _, _, _]) rfl ?_ | refine pls (ρ' := [_, _, _, _, _, _]) rfl ?_))
  exact q _
end
end Mine.Mp
end
section
open PySem PySem.W
namespace Mine.Mp
open Mine.Hd Mine.Py Mine.Pu
theorem lays_app : ∀ {l : List Int} {f : Int → Int} {t o : Int}, lays f t (l ++ [o]) = upd (lays f t l) (layt t l) o
  | [], _, _, _ => rfl
  | _ :: r, _, _, _ => lays_app (l := r)
theorem layt_app : ∀ {l : List Int} {t o : Int}, layt t (l ++ [o]) = (layt t l - 1) % 256
  | [], _, _ => rfl
  | _ :: r, _, _ => layt_app (l := r)
theorem layt_in : ∀ {l : List Int} {t : Int}, 0 ≤ t ∧ t < 256 → 0 ≤ layt t l ∧ layt t l < 256
  | [], _, h => h
  | _ :: r, _, _ => layt_in (l := r) (by omega)
section
variable {C : Cfg} {σ : St} {n kp ko : Nat} {Q : AV → St → Prop} {top : Int} {os : List Int} {g stk : Int → Int}
theorem sp_lay (h1 : σ[kp]? = some (.list (mem (pln g stk)))) (h2 : σ[ko]? = some (.list (os.map I))) (hn : kp ≠ ko) (ht : 0 ≤ top ∧ top < 256) (q : Q (I (layt top os)) (σ.set kp (.list (mem (pln g (lays stk top os)))))) : Sp C (n + 1) 207 [.lst kp, I top, .lst ko] σ Q := by
  refine ⟨rfl, ?_⟩
  unfold ir_law_lay
  refine start (ρ' := [_, _, _, _]) rfl ?_
  repeat (first | refine v_i rfl ?_ | refine forc_c ?_)
  refine for_k (xs := os.map I) (listAt_lst h2) (fun n ρ σ' => ∃ x3, ρ = [some (.lst kp), some (I (layt top (os.take n))), some (.lst ko), x3] ∧ σ' = σ.set kp (.list (mem (pln g (lays stk top (os.take n)))))) ⟨none, rfl, (set_same h1).symm⟩ fun n ρ' σ' J => ?_
  obtain ⟨x3, rfl, rfl⟩ := J
  refine ⟨listAt_lst (set_ne h2 hn), fun a ha => ?_, fun hl => seq_n ?_⟩
  · rw [List.getElem?_map] at ha
    obtain ⟨o, hy, rfl⟩ := Option.map_eq_some_iff.mp ha
    refine bind1 (ρ' := [_, _, _, _]) rfl ?_
    unfold ir_law_lay_b1
    repeat (first | refine c_i ?_ | refine v_i rfl ?_ | refine bin_i ?_ | refine bw_add ?_ | refine six_c ?_)
    have li := layt_in (l := os.take n) ht
    refine six_m (at_set (lt_of_at h1)) (by omega) (by omega) ?_
    rw [List.set_set, pln_upd li, ← lays_app]
    repeat (first | refine c_i ?_ | refine v_i rfl ?_ | refine bin_i ?_ | refine bw_sub ?_ | refine bw_mod (by decide) ?_ | refine asg_c ?_ | (first | refine pl (ρ' := [_, _, _, _]) rfl ?_ | refine pls (ρ' := [_, _, _, _]) rfl ?_))
    have e : os.take (n + 1) = os.take n ++ [o] := by rw [List.take_add_one, hy]; rfl
    refine nilN ⟨some (I o), ?_, ?_⟩
    · rw [← layt_app (o := o), e]
    · rw [e]
  · rw [List.length_map] at hl
    subst hl
    rw [List.take_length]
    repeat (first | refine v_i rfl ?_ | refine ret_c ?_)
    exact q
end
end Mine.Mp
end
section
open PySem PySem.W
namespace Mine.Mp
open Mine.Hd Mine.Py Mine.Pu
noncomputable def Ext (σ σ' : St) : Prop := ∀ (i : Nat) (x : AO), σ[i]? = some x → σ'[i]? = some x
theorem Ext.refl {σ : St} : Ext σ σ := fun _ _ h => h
theorem Ext.trans {σ σ' σ'' : St} (h : Ext σ σ') (g : Ext σ' σ'') : Ext σ σ'' := fun i x e => g i x (h i x e)
theorem Ext.app {σ : St} {x : AO} : Ext σ (σ ++ [x]) := fun _ _ h => app_two h
theorem Ext.len {σ σ' : St} (h : Ext σ σ') : σ.length ≤ σ'.length := by
  cases e : σ.length with
  | zero => exact Nat.zero_le _
  | succ n => exact lt_of_at (h n _ (List.getElem?_eq_getElem (by lia)))
theorem Ext.set {σ σ' : St} {k : Nat} {x : AO} (h : Ext σ σ') (hk : σ.length ≤ k) : Ext σ (σ'.set k x) := fun i y e => set_ne (h i y e) (by have := lt_of_at e; lia)
section
variable (C : Cfg) (S : Nat → Py.Spec) (ρ : Py.Loc) (σ : St)
noncomputable def Lr (t : Tm) (xs : List AV) : Prop := ∀ Q : AV → St → Prop, (∀ σ' k, Ext σ σ' → σ'[k]? = some (.list xs) → Q (.lst k) σ') → xpT C S t ρ σ Q
noncomputable def Lf (t : Tm) (xs : List AV) : Prop := ∀ Q : AV → St → Prop, (∀ σ' k, Ext σ σ' → σ'[k]? = some (.list xs) → σ.length ≤ k → Q (.lst k) σ') → xpT C S t ρ σ Q
end
section
variable {C : Cfg} {S : Nat → Py.Spec} {ρ : Py.Loc} {σ : St} {n k j i : Nat} {Q : AV → St → Prop} {QC : Fl → Py.Loc → St → Prop} {a b t : Tm} {r : Cs} {xs ys : List AV} {as : Ts}
theorem Lf.lr (h : Lf C S ρ σ t xs) : Lr C S ρ σ t xs := fun Q q => h Q fun σ' k e g _ => q σ' k e g
theorem lr_v (h : ρ[i]? = some (some (.lst k))) (h2 : σ[k]? = some (.list xs)) : Lr C S ρ σ (.v i) xs := fun Q q => v_i h (q σ k .refl h2)
theorem lf_lst (h : ∀ Q : List AV → St → Prop, Q xs σ → xpTs C S as ρ σ Q) (hl : xs.length ≤ 1000) : Lf C S ρ σ (.lst as) xs := fun Q q => lst_i (h _ (lst_k hl (q _ _ .app at_end (Nat.le_refl _))))
theorem lr_lst (h : ∀ Q : List AV → St → Prop, Q xs σ → xpTs C S as ρ σ Q) (hl : xs.length ≤ 1000) : Lr C S ρ σ (.lst as) xs := (lf_lst h hl).lr
theorem lf_cat (ha : Lr C S ρ σ a xs) (hb : ∀ σ', Ext σ σ' → Lr C S ρ σ' b ys) (hl : xs.length + ys.length ≤ 1000) : Lf C S ρ σ (.bin .Add a b) (xs ++ ys) := fun Q q => bin_i (ha _ fun σ₁ k₁ e₁ g₁ => hb σ₁ e₁ _ fun σ₂ k₂ e₂ g₂ => bw_cat (e₂ _ _ g₁) g₂ (by lia) (q _ _ ((e₁.trans e₂).trans .app) at_end (Nat.le_trans e₁.len e₂.len)))
theorem lr_cat (ha : Lr C S ρ σ a xs) (hb : ∀ σ', Ext σ σ' → Lr C S ρ σ' b ys) (hl : xs.length + ys.length ≤ 1000) : Lr C S ρ σ (.bin .Add a b) (xs ++ ys) := (lf_cat ha hb hl).lr
theorem lf_word {x : Str} {t : Int} (h : ∀ Q : AV → St → Prop, Q (I t) σ → xpT C (Sp C (n + 1)) a ρ σ Q) : Lf C (Sp C (n + 1)) ρ σ (.gc x 201 (.cons a .nil)) [I (t % 256), I (t / 256)] := fun Q q => gc_i (consT (h _ (nilT (sp_word (q _ _ .app at_end (Nat.le_refl _))))))
theorem ladd_r (h : ρ[i]? = some (some (.lst k))) (hx : σ[k]? = some (.list xs)) (ht : Lr C S ρ σ t ys) (hl : xs.length + ys.length ≤ 1000) (q : ∀ σ', Ext σ σ' → xpCs C S r ρ (σ'.set k (.list (xs ++ ys))) QC) : xpCs C S (.cons (.ladd i t) r) ρ σ QC :=
  ladd_c h (ht _ fun σ' j e g => ⟨j, xs, ys, rfl, e _ _ hx, g, by lia, by rw [set_same h]; exact q σ' e⟩)
end
structure Kb (σ0 σ : St) (kb kg ks kc : Nat) (bs G S c : List AV) : Prop where
  ext : Ext σ0 σ
  b : σ[kb]? = some (.list bs)
  g : σ[kg]? = some (.list G)
  s : σ[ks]? = some (.list S)
  c : σ[kc]? = some (.list c)
  nb : kc ≠ kb
  ng : kc ≠ kg
  ns : kc ≠ ks
  new : σ0.length ≤ kc
section
variable {C : Cfg} {S : Nat → Py.Spec} {ρ : Py.Loc} {σ σ0 : St} {n kb kg ks kc i : Nat} {QC : Fl → Py.Loc → St → Prop} {t : Tm} {r A B : Cs} {bs G H c c' ys : List AV}
theorem Kb.up {σ' : St} (K : Kb σ0 σ kb kg ks kc bs G H c) (e : Ext σ σ') : Kb σ0 σ' kb kg ks kc bs G H c := ⟨K.ext.trans e, e _ _ K.b, e _ _ K.g, e _ _ K.s, e _ _ K.c, K.nb, K.ng, K.ns, K.new⟩
theorem Kb.put (K : Kb σ0 σ kb kg ks kc bs G H c) : Kb σ0 (σ.set kc (.list c')) kb kg ks kc bs G H c' := ⟨K.ext.set K.new, set_ne K.b K.nb, set_ne K.g K.ng, set_ne K.s K.ns, at_set (lt_of_at K.c), K.nb, K.ng, K.ns, K.new⟩
theorem Kb.to (K : Kb σ0 σ kb kg ks kc bs G H c) (e : c = c') : Kb σ0 σ kb kg ks kc bs G H c' := e ▸ K
theorem ladd_b (K : Kb σ0 σ kb kg ks kc bs G H c) (h : ρ[i]? = some (some (.lst kc))) (ht : Lr C S ρ σ t ys) (hl : c.length + ys.length ≤ 1000) (q : ∀ σ', Kb σ0 σ' kb kg ks kc bs G H (c ++ ys) → xpCs C S r ρ σ' QC) : xpCs C S (.cons (.ladd i t) r) ρ σ QC := ladd_r h K.c ht hl fun σ' e => q _ (K.up e).put
theorem ifc_r (rest : ∀ σ', Kb σ0 σ' kb kg ks kc bs G H c → xpCs C S r ρ σ' QC) (q : (∀ σ', Kb σ0 σ' kb kg ks kc bs G H c → xpCs C S r ρ σ' QC) → xpCs C S (.cons (.ifc t A B) r) ρ σ QC) : xpCs C S (.cons (.ifc t A B) r) ρ σ QC := q rest
end
noncomputable abbrev bρ (x s : Int) (p : Pl) (kb kg ks kc : Nat) (x13 x14 x15 : Option AV) : Py.Loc := [some (I x), some (I s), some (.lst kb), some (I p.wy), some (I p.go), some (I p.ot), some (I p.mi), some (I p.mo), some (I p.kd), some (I p.ho), some (.lst kg), some (.lst ks), some (.lst kc), x13, x14, x15]
noncomputable def howc (how s : Int) : List Int := if how = 0 then [166, 17, 169, s, 157, 128, 2] else if how = 1 then [164, 17, 169, s, 153, 128, 2] else [164, 17, 169, s, 145, 255]
theorem howc_len {how s : Int} : (howc how s).length ≤ 7 := by
  unfold howc
  split
  · exact Nat.le_refl _
  · split
    · exact Nat.le_refl _
    · exact Nat.le_of_ble_eq_true rfl
theorem howc_log {how s : Int} : howc how s ++ [230, 17] = logc how s := by
  unfold howc logc
  split
  · rfl
  · split <;> rfl
section
variable {C : Cfg} {S : Nat → Py.Spec} {ρ : Py.Loc} {σ σ0 : St} {n kb kg ks kc i : Nat} {QC : Fl → Py.Loc → St → Prop} {t : Tm} {r A B : Cs} {bs G H c c' ys : List AV} {x s : Int} {p : Pl}
theorem way_r {x13 x14 x15 : Option AV} (rest : ∀ x13 x14 x15 σ', Kb σ0 σ' kb kg ks kc bs G H c → xpCs C S r (bρ x s p kb kg ks kc x13 x14 x15) σ' QC) (q : (∀ x13 x14 x15 σ', Kb σ0 σ' kb kg ks kc bs G H c → xpCs C S r (bρ x s p kb kg ks kc x13 x14 x15) σ' QC) → xpCs C S (.cons (.ifc t A B) r) (bρ x s p kb kg ks kc x13 x14 x15) σ QC) : xpCs C S (.cons (.ifc t A B) r) (bρ x s p kb kg ks kc x13 x14 x15) σ QC := q rest
end
theorem way_app {p : Pl} {w s g o : Int} {c : List Int} (e : p.wy = w) : c.map I ++ (wayW w p s g o).map I = (c ++ wayc p s g o).map I := by rw [List.map_append, way_is e]
theorem way_app7 {p : Pl} {s g o : Int} {c : List Int} {x y : List AV} (e : p.wy = 7) (h : (wayW 7 p s g o).map I = x ++ y) : c.map I ++ x ++ y = (c ++ wayc p s g o).map I := by rw [List.append_assoc, ← h]; exact way_app e
noncomputable def evT (ρ : Py.Loc) : Tm → Option AV
  | .c a => some (.at a)
  | .v i => ρ[i]?.bind id
  | _ => none
noncomputable def evTs (ρ : Py.Loc) : Ts → Option (List AV)
  | .nil => some []
  | .cons t r => (evT ρ t).bind fun v => (evTs ρ r).map (v :: ·)
theorem evT_i {C : Cfg} {S : Nat → Py.Spec} {ρ : Py.Loc} {σ : St} {t : Tm} {v : AV} {Q : AV → St → Prop} (h : evT ρ t = some v) (q : Q v σ) : xpT C S t ρ σ Q := by
  cases t with
  | c a => cases h; exact c_i q
  | v i =>
    refine v_i ?_ q
    cases e : ρ[i]? with
    | none => rw [show evT ρ (.v i) = ρ[i]?.bind id from rfl, e] at h; cases h
    | some x => rw [show evT ρ (.v i) = ρ[i]?.bind id from rfl, e] at h; exact congrArg some h
  | _ => exact Mine.Dx.no_some h
theorem evTs_i {C : Cfg} {S : Nat → Py.Spec} {ρ : Py.Loc} {σ : St} : ∀ {ts : Ts} {vs : List AV} {Q : List AV → St → Prop}, evTs ρ ts = some vs → Q vs σ → xpTs C S ts ρ σ Q
  | .nil, _, _, h, q => by cases h; exact nilT q
  | .cons t r, vs, Q, h, q => by
    obtain ⟨v, e, h⟩ := Option.bind_eq_some_iff.mp (show (evT ρ t).bind (fun v => (evTs ρ r).map (v :: ·)) = some vs from h)
    obtain ⟨us, f, rfl⟩ := Option.map_eq_some_iff.mp h
    exact consT (evT_i e (evTs_i f q))
section
variable {C : Cfg} {σ : St} {n kb : Nat} {Q : AV → St → Prop} {x s : Int} {bs : List AV} {b : Int → Int}
theorem sp_block (hb : σ[kb]? = some (.list bs)) (hbs : ∀ i : Int, 0 ≤ i ∧ i < 10 → idxL bs i = some (I (b i))) (q : ∀ σ' k, Ext σ σ' → σ'[k]? = some (.list ((code (plan x s) s (b (plan x s).go) (b (plan x s).ot)).map I)) → σ.length ≤ k → Q (.lst k) σ') : Sp C (n + 3) 204 [I x, I s, .lst kb] σ Q := by
  refine ⟨rfl, ?_⟩
  have ok := plan_ok (n := x) (s := s)
  unfold ir_law_block
  refine start (ρ' := [_, _, _, _, _, _, _, _, _, _, _, _, _, _, _, _]) rfl ?_
  refine tas_c (gc_i (consT (v_i rfl (consT (v_i rfl (nilT (sp_plan (unt_k rfl ?_))))))))
  generalize hp : plan x s = p at *
  (first | refine pl (ρ' := [_, _, _, _, _, _, _, _, _, _, _, _, _, _, _, _]) rfl ?_ | refine pls (ρ' := [_, _, _, _, _, _, _, _, _, _, _, _, _, _, _, _]) rfl ?_)
  refine tar_c (tup_i (consT (gc_i ?_)))
  refine consT (bin_i (idx_i (v_i rfl (v_i rfl (iw_lst hb (hbs _ ok.go) (c_i (bw_add (nilT (sp_word ?_)))))))))
  refine consT (gc_i (consT (bin_i (idx_i (v_i rfl (v_i rfl (iw_lst (app_two hb) (hbs _ ok.ot) (c_i (bw_add (nilT (sp_word (nilT ?_))))))))))))
  refine tup_k (l := [_, _]) rfl (ble rfl) (unt_k rfl ?_)
  (first | refine pl (ρ' := [_, _, _, _, _, _, _, _, _, _, _, _, _, _, _, _]) rfl ?_ | refine pls (ρ' := [_, _, _, _, _, _, _, _, _, _, _, _, _, _, _, _]) rfl ?_)
  have hg := app_two (y := AO.list [I ((b p.ot + 3) % 256), I ((b p.ot + 3) / 256)]) (at_end (σ := σ) (x := AO.list [I ((b p.go + 3) % 256), I ((b p.go + 3) / 256)]))
  have hs := at_end (σ := σ ++ [AO.list [I ((b p.go + 3) % 256), I ((b p.go + 3) / 256)]]) (x := AO.list [I ((b p.ot + 3) % 256), I ((b p.ot + 3) / 256)])
  have e1 : Ext σ (σ ++ [AO.list [I ((b p.go + 3) % 256), I ((b p.go + 3) / 256)]] ++ [AO.list [I ((b p.ot + 3) % 256), I ((b p.ot + 3) / 256)]]) := Ext.app.trans Ext.app
  generalize σ ++ [AO.list [I ((b p.go + 3) % 256), I ((b p.go + 3) / 256)]] ++ [AO.list [I ((b p.ot + 3) % 256), I ((b p.ot + 3) / 256)]] = σ1 at *
  generalize (σ ++ [AO.list [I ((b p.go + 3) % 256), I ((b p.go + 3) / 256)]]).length = ks at *
  generalize hkg : σ.length = kg at *
  rw [← hkg] at q
  have hb1 := e1 _ _ hb
  refine asg_c (lf_cat (xs := [I 76, I ((b p.go + 3) % 256), I ((b p.go + 3) / 256)]) (ys := [I 198, I 16, I 208, I 3, I 76, I 88, I 2]) (lr_cat (xs := [I 76]) (ys := [I ((b p.go + 3) % 256), I ((b p.go + 3) / 256)]) (lr_lst (fun _ q => evTs_i rfl q) (by decide)) (fun σ' e => lr_v rfl (e _ _ hg)) (ble rfl)) (fun σ' e => lr_lst (fun _ q => evTs_i rfl q) (ble rfl)) (ble rfl) _ fun σ2 kc e2 hc hk => ?_)
  (first | refine pl (ρ' := [_, _, _, _, _, _, _, _, _, _, _, _, _, _, _, _]) rfl ?_ | refine pls (ρ' := [_, _, _, _, _, _, _, _, _, _, _, _, _, _, _, _]) rfl ?_)
  have K : Kb σ σ2 kb kg ks kc bs [I ((b p.go + 3) % 256), I ((b p.go + 3) / 256)] [I ((b p.ot + 3) % 256), I ((b p.ot + 3) / 256)] (([76, (b p.go + 3) % 256, (b p.go + 3) / 256] ++ [198, 16, 208, 3, 76, 88, 2]).map I) := by
    refine ⟨e1.trans e2, e2 _ _ hb1, e2 _ _ hg, e2 _ _ hs, hc, ?_, ?_, ?_, ?_⟩
    · have := lt_of_at hb1; lia
    · have := lt_of_at hg; lia
    · have := lt_of_at hs; lia
    · have := e1.len; lia
  generalize hc0 : [76, (b p.go + 3) % 256, (b p.go + 3) / 256] ++ [198, 16, 208, 3, 76, 88, 2] = c0 at K
  have l0 : c0.length = 10 := by rw [← hc0]; rfl
  clear hc hg hs hb1 e1 e2
  refine ifc_r (σ0 := σ) (kb := kb) (kg := kg) (ks := ks) (kc := kc) (bs := bs) (G := [I ((b p.go + 3) % 256), I ((b p.go + 3) / 256)]) (H := [I ((b p.ot + 3) % 256), I ((b p.ot + 3) / 256)]) (c := (c0 ++ howc p.ho s).map I) (fun σ3 K => ?_) fun rest => ?_
  · refine ladd_b K rfl (ys := [I 230, I 17]) (lr_lst (fun _ q => evTs_i rfl q) (ble rfl)) (by rw [List.length_map, List.length_append, l0]; have := howc_len (how := p.ho) (s := s); show 10 + _ + 2 ≤ 1000; lia) fun σ4 K => ?_
    have K := K.to (c' := (c0 ++ logc p.ho s).map I) (by rw [← howc_log, ← List.append_assoc, List.map_append (l₁ := c0 ++ howc p.ho s)]; rfl)
    have l1 : ((c0 ++ logc p.ho s).length : Int) = if p.ho = 2 then 18 else 19 := by
      rw [List.length_append, l0, Int.natCast_add, logc_len ok.ho]
      unfold logn
      split <;> rfl
    have l2 : (c0 ++ logc p.ho s).length ≤ 19 := by split at l1 <;> lia
    have hcode : code p s (b p.go) (b p.ot) = c0 ++ logc p.ho s ++ wayc p s (b p.go) (b p.ot) := by rw [← hc0]; unfold code; simp only [List.append_assoc]
    rw [hcode] at q
    generalize c0 ++ logc p.ho s = c1 at *
    have lc : ∀ {ys : List AV}, ys.length ≤ 100 → (c1.map I).length + ys.length ≤ 1000 := fun h => by rw [List.length_map]; lia
    clear hcode hc0 l0
    refine way_r (σ0 := σ) (kb := kb) (kg := kg) (ks := ks) (kc := kc) (bs := bs) (G := [I ((b p.go + 3) % 256), I ((b p.go + 3) / 256)]) (H := [I ((b p.ot + 3) % 256), I ((b p.ot + 3) / 256)]) (c := (c1 ++ wayc p s (b p.go) (b p.ot)).map I) (fun x13 x14 x15 σ5 K => ret_c (v_i rfl (q σ5 kc K.ext K.c K.new))) fun rest => ?_
    clear q
    refine ifc_c (cmpB_i (v_i rfl (c_i (ck_eq (br (fun e => ?_) (fun e => ?_))))))
    · refine ladd_b K rfl (ys := [I 76, I ((b p.go + 3) % 256), I ((b p.go + 3) / 256)]) (lr_cat (xs := [I 76]) (lr_lst (fun _ q => evTs_i rfl q) (ble rfl)) (fun σ' e => lr_v rfl (e _ _ K.g)) (ble rfl)) (lc (ble rfl)) fun σ5 K5 => ?_
      repeat (refine nilK ?_)
      exact rest _ _ _ _ (K5.to (way_app e))
    refine ifc_c (cmpB_i (v_i rfl (c_i (ck_eq (br (fun e1 => ?_) (fun e1 => ?_))))))
    · refine ladd_b K rfl (ys := [I 108, I (ptr p s % 256), I (ptr p s / 256)]) (lr_cat (xs := [I 108]) (lr_lst (fun _ q => evTs_i rfl q) (ble rfl)) (fun σ' e => (lf_word fun Q q => gc_i (consT (v_i rfl (consT (v_i rfl (nilT (sp_pointer (by rw [hp]; exact q)))))))).lr) (ble rfl)) (lc (ble rfl)) fun σ5 K5 => ?_
      repeat (refine nilK ?_)
      exact rest _ _ _ _ (K5.to (way_app e1))
    refine ifc_c (cmpB_i (v_i rfl (c_i (ck_eq (br (fun e2 => ?_) (fun e2 => ?_))))))
    · refine ladd_b K rfl (ys := [I 32, I ((b p.go + 3) % 256), I ((b p.go + 3) / 256), I 76, I ((b p.ot + 3) % 256), I ((b p.ot + 3) / 256)]) (lr_cat (xs := [I 32, I ((b p.go + 3) % 256), I ((b p.go + 3) / 256), I 76]) (lr_cat (xs := [I 32, I ((b p.go + 3) % 256), I ((b p.go + 3) / 256)]) (lr_cat (xs := [I 32]) (lr_lst (fun _ q => evTs_i rfl q) (ble rfl)) (fun σ' e => lr_v rfl (e _ _ K.g)) (ble rfl)) (fun σ' e => lr_lst (fun _ q => evTs_i rfl q) (ble rfl)) (ble rfl)) (fun σ' e => lr_v rfl (e _ _ K.s)) (ble rfl)) (lc (ble rfl)) fun σ5 K5 => ?_
      repeat (refine nilK ?_)
      exact rest _ _ _ _ (K5.to (way_app e2))
    refine ifc_c (cmpB_i (v_i rfl (c_i (ck_eq (br (fun e3 => ?_) (fun e3 => ?_))))))
    · refine ladd_b K rfl (ys := [I 96]) (lr_lst (fun _ q => evTs_i rfl q) (ble rfl)) (lc (ble rfl)) fun σ5 K5 => ?_
      repeat (refine nilK ?_)
      exact rest _ _ _ _ (K5.to (way_app e3))
    refine ifc_c (cmpB_i (v_i rfl (c_i (ck_eq (br (fun e4 => ?_) (fun e4 => ?_))))))
    · refine tal_c (gc_i (consT (bin_i (idx_i (v_i rfl (v_i rfl (iw_lst K.b (hbs _ ok.go) (c_i (bw_add (nilT (sp_word ⟨_, [.int _, .int _], rfl, at_end, rfl, ?_⟩)))))))))))
      (first | refine pl (ρ' := [_, _, _, _, _, _, _, _, _, _, _, _, _, _, _, _]) rfl ?_ | refine pls (ρ' := [_, _, _, _, _, _, _, _, _, _, _, _, _, _, _, _]) rfl ?_)
      refine ladd_b (K.up .app) rfl (ys := [I 169, I ((b p.go + 2) / 256), I 72, I 169, I ((b p.go + 2) % 256), I 72, I 96]) (lr_lst (fun _ q => evTs_i rfl q) (ble rfl)) (lc (ble rfl)) fun σ5 K5 => ?_
      repeat (refine nilK ?_)
      exact rest _ _ _ _ (K5.to (way_app e4))
    refine ifc_c (cmpB_i (v_i rfl (c_i (ck_eq (br (fun e5 => ?_) (fun e5 => ?_))))))
    · refine ladd_b K rfl (ys := [I 169, I ((b p.go + 3) / 256), I 72, I 169, I ((b p.go + 3) % 256), I 72, I 169, I p.mi, I 72, I 64]) (lr_lst (fun Q q => by
        (repeat (first | refine c_i ?_ | refine v_i rfl ?_ | refine nilT ?_ | refine consT ?_ | refine idx_i ?_ | refine iw_lst K.g rfl ?_))
        exact q) (ble rfl)) (lc (ble rfl)) fun σ5 K5 => ?_
      repeat (refine nilK ?_)
      exact rest _ _ _ _ (K5.to (way_app e5))
    refine ifc_c (cmpB_i (v_i rfl (c_i (ck_eq (br (fun e6 => ?_) (fun e6 => ?_))))))
    · refine ladd_b K rfl (ys := [I 169, I p.mi, I 72, I 40, I 0, I 234, I 76, I ((b p.go + 3) % 256), I ((b p.go + 3) / 256)]) (lr_cat (xs := [I 169, I p.mi, I 72, I 40, I 0, I 234, I 76]) (lr_lst (fun _ q => evTs_i rfl q) (ble rfl)) (fun σ' e => lr_v rfl (e _ _ K.g)) (ble rfl)) (lc (ble rfl)) fun σ5 K5 => ?_
      repeat (refine nilK ?_)
      exact rest _ _ _ _ (K5.to (way_app e6))
    refine ladd_b K rfl (ys := [I 216, I 24, I 169, I p.mi, I 105, I p.mo, I (16 + 32 * p.kd)]) (lr_lst (by ((focus (intro Q q; (repeat (first | refine c_i ?_ | refine v_i rfl ?_ | refine nilT ?_ | refine consT ?_ | refine bin_i ?_ | refine bw_add ?_ | refine mul_l (by decide +kernel) ?_)); exact q)))) (ble rfl)) (lc (ble rfl)) fun σ5 K5 => ?_
    have w7 : p.wy = 7 := wy_el ok (fun z => absurd z e2) (fun z => absurd z e3) id (fun z => absurd z e4) (fun z => absurd z e5) (fun z => absurd z e6) fun z => z.elim (fun z => absurd z e) fun z => absurd z e1
    have l7 : (c1.map I ++ [I 216, I 24, I 169, I p.mi, I 105, I p.mo, I (16 + 32 * p.kd)]).length = c1.length + 7 := by rw [List.length_append, List.length_map]; rfl
    refine ifc_c (cmpB_i (bin_i (v_i rfl (c_i (bw_mod (by decide) (c_i (ck_eq (br (fun e7 => ?_) (fun e7 => ?_)))))))))
    · refine ladd_b K5 rfl (ys := [I 3, I 76, I ((b p.ot + 3) % 256), I ((b p.ot + 3) / 256), I 76, I ((b p.go + 3) % 256), I ((b p.go + 3) / 256)]) (lr_cat (xs := [I 3, I 76, I ((b p.ot + 3) % 256), I ((b p.ot + 3) / 256), I 76]) (lr_cat (xs := [I 3, I 76, I ((b p.ot + 3) % 256), I ((b p.ot + 3) / 256)]) (lr_cat (xs := [I 3, I 76]) (lr_lst (fun _ q => evTs_i rfl q) (ble rfl)) (fun σ' e => lr_v rfl (e _ _ K5.s)) (ble rfl)) (fun σ' e => lr_lst (fun _ q => evTs_i rfl q) (ble rfl)) (ble rfl)) (fun σ' e => lr_v rfl (e _ _ K5.g)) (ble rfl)) (by rw [l7]; show c1.length + 7 + 7 ≤ 1000; lia) fun σ6 K6 => ?_
      repeat (refine nilK ?_)
      exact rest _ _ _ _ (K6.to (way_app7 w7 (by rw [way7, if_pos e7]; rfl)))
    · refine asg_c (bin_i (bin_i (neg_i (len_i (v_i rfl ⟨_, listAt_lst K5.c, by rw [l7]; lia, neg_k (c_i (bw_sub (c_i (bw_mod (by decide) ?_))))⟩)))))
      (first | refine pl (ρ' := [_, _, _, _, _, _, _, _, _, _, _, _, _, _, _, _]) rfl ?_ | refine pls (ρ' := [_, _, _, _, _, _, _, _, _, _, _, _, _, _, _, _]) rfl ?_)
      refine ladd_b K5 rfl (ys := [I (if p.ho = 2 then 230 else 229), I 76, I ((b p.ot + 3) % 256), I ((b p.ot + 3) / 256)]) (lr_cat (xs := [I (if p.ho = 2 then 230 else 229), I 76]) (lr_lst (fun Q q => by
        refine consT (v_i rfl (consT (c_i (nilT ?_))))
        have : (-((c1.map I ++ [I 216, I 24, I 169, I p.mi, I 105, I p.mo, I (16 + 32 * p.kd)]).length : Int) - 1) % 256 = if p.ho = 2 then 230 else 229 := by
          rw [l7]
          split at l1 <;> rename_i z
          · rw [if_pos z]; lia
          · rw [if_neg z]; lia
        rw [this]
        exact q) (ble rfl)) (fun σ' e => lr_v rfl (e _ _ K5.s)) (ble rfl)) (by rw [l7]; show c1.length + 7 + 4 ≤ 1000; lia) fun σ6 K6 => ?_
      repeat (refine nilK ?_)
      exact rest _ _ _ _ (K6.to (way_app7 w7 (by rw [way7, if_neg e7]; rfl)))
  · have lc : ∀ {ys : List AV}, ys.length ≤ 100 → (c0.map I).length + ys.length ≤ 1000 := fun h => by rw [List.length_map, l0]; lia
    refine ifc_c (cmpB_i (v_i rfl (c_i (ck_eq (br (fun e => ?_) (fun e => ?_))))))
    · refine ladd_b K rfl (ys := [I 166, I 17, I 169, I s, I 157, I 128, I 2]) (lr_lst (fun _ q => evTs_i rfl q) (ble rfl)) (lc (ble rfl)) fun σ3 K3 => nilK (rest σ3 (K3.to ?_))
      rw [List.map_append]; unfold howc; rw [if_pos e]; rfl
    refine ifc_c (cmpB_i (v_i rfl (c_i (ck_eq (br (fun e1 => ?_) (fun e1 => ?_))))))
    · refine ladd_b K rfl (ys := [I 164, I 17, I 169, I s, I 153, I 128, I 2]) (lr_lst (fun _ q => evTs_i rfl q) (ble rfl)) (lc (ble rfl)) fun σ3 K3 => nilK (nilK (rest σ3 (K3.to ?_)))
      rw [List.map_append]; unfold howc; rw [if_neg e, if_pos e1]; rfl
    · refine ladd_b K rfl (ys := [I 164, I 17, I 169, I s, I 145, I 255]) (lr_lst (fun _ q => evTs_i rfl q) (ble rfl)) (lc (ble rfl)) fun σ3 K3 => nilK (nilK (rest σ3 (K3.to ?_)))
      rw [List.map_append]; unfold howc; rw [if_neg e, if_neg e1]; rfl
end
end Mine.Mp
end
section
open PySem PySem.W
namespace Mine.Mp
open Mine.Hd Mine.Py Mine.Pu
@[irreducible] noncomputable def slsW (k : Nat) (v va vb : AV) (σ : St) (X : St → Prop) : Prop := ∃ (a b : Nat) (j : Nat) (xs ys : List AV), va = .at (.int a) ∧ vb = .at (.int b) ∧ v = .lst j ∧ σ[k]? = some (.list xs) ∧ σ[j]? = some (.list ys) ∧ a ≤ b ∧ b ≤ xs.length ∧ xs.length ≤ 2 ^ 23 ∧ ys.length ≤ xs.length ∧ X (σ.set k (.list (xs.take a ++ ys ++ xs.drop b)))
@[irreducible] noncomputable def compW (v : Option (Option AV)) (n : Nat) (t : PT) (σ : St) (Q : AV → St → Prop) : Prop := ∃ y, v = some (some (.at (.int y))) ∧ (∀ j : Nat, j < n → ptOk t j y) ∧ Q (.lst σ.length) (σ ++ [.list ((List.range n).map fun (j : Nat) => .at (.int (ptV t j y)))])
section
variable {C : Cfg} {S : Nat → Py.Spec} {ρ : Py.Loc} {σ : St} {n k j i f : Nat} {Q : AV → St → Prop} {QB : Bool → St → Prop} {QC : Fl → Py.Loc → St → Prop} {a b c t lo hi : Tm} {r ca cb : Cs} {v : AV} {fs : List AV}
theorem sls_c (h : ρ[i]? = some (some (.lst k))) (q : xpT C S t ρ σ fun v σ₁ => xpT C S lo ρ σ₁ fun va σ₂ => xpT C S hi ρ σ₂ fun vb σ₃ => slsW k v va vb σ₃ fun σ₄ => xpCs C S r ρ σ₄ QC) : xpCs C S (.cons (.sls i lo hi t) r) ρ σ QC := by
  have e : (fun v σ₁ => xpT C S lo ρ σ₁ fun va σ₂ => xpT C S hi ρ σ₂ fun vb σ₃ => slsW k v va vb σ₃ fun σ₄ => xpCs C S r ρ σ₄ QC) = fun v σ₁ => ∃ k', ρ[i]? = some (some (.lst k')) ∧ xpT C S lo ρ σ₁ fun va σ₂ => xpT C S hi ρ σ₂ fun vb σ₃ => slsW k' v va vb σ₃ fun σ₄ => xpCs C S r ρ σ₄ QC := by
    funext v σ₁
    refine propext ⟨fun z => ⟨k, h, z⟩, fun ⟨k', h', z⟩ => ?_⟩
    rw [h] at h'
    cases h'
    exact z
  rw [e] at q
  with_unfolding_all exact q
theorem sls_m {f : Int → Int} {l : List Int} {a b : Int} {X : St → Prop} (h1 : σ[k]? = some (.list (mem f))) (h2 : σ[j]? = some (.list (l.map I))) (h0 : 0 ≤ a) (hb : b = a + (l.length : Int)) (hm : b ≤ 65536) (q : X (σ.set k (.list (mem (ovr f a l))))) : slsW k (.lst j) (I a) (I b) σ X := by
  have ea : a = ((a.toNat : Nat) : Int) := by lia
  have eb : b = ((b.toNat : Nat) : Int) := by lia
  unfold slsW
  refine ⟨a.toNat, b.toNat, j, _, _, congrArg AV.at (congrArg Py.At.int ea), congrArg AV.at (congrArg Py.At.int eb), rfl, h1, h2, by lia, by rw [mem_len]; lia, by rw [mem_len]; decide, by rw [mem_len, List.length_map]; lia, ?_⟩
  rw [mem_ovr (by lia) (by lia), ← ea]
  exact q
theorem comp_i {t : PT} (q : compW ρ[i]? n t σ Q) : xpT C S (.comp i n t) ρ σ Q := by with_unfolding_all exact q
theorem comp_k {t : PT} {y : Int} (h : ∀ j : Nat, j < n → ptOk t j y) (q : Q (.lst σ.length) (σ ++ [.list ((List.range n).map fun (j : Nat) => .at (.int (ptV t j y)))])) : compW (some (some (I y))) n t σ Q := by unfold compW; exact ⟨y, rfl, h, q⟩
theorem casg_c (q : xpT C S t ρ σ fun v σ₁ => ∃ y, v = .at (.int y) ∧ putW ρ i v fun ρ' => xpCs C S r ρ' σ₁ QC) : xpCs C S (.cons (.casg i t) r) ρ σ QC := by with_unfolding_all exact q
theorem tsx_c {m₁ m₂ : Nat} {f : Int → Int} {u₁ u₂ : Int} (h : ρ[i]? = some (some (.lst k))) (ht : ∀ Q : AV → St → Prop, Q (.tup [.int u₁, .int u₂]) σ → xpT C S t ρ σ Q) (hk : σ[k]? = some (.list (mem f))) (h1 : m₁ < 65536) (h2 : m₂ < 65536) (q : xpCs C S r ρ (σ.set k (.list (mem (upd (upd f m₁ u₁) m₂ u₂)))) QC) : xpCs C S (.cons (.tsx i m₁ m₂ t) r) ρ σ QC := by
  have e : ((mem f).set m₁ (I u₁)).set m₂ (I u₂) = mem (upd (upd f m₁ u₁) m₂ u₂) := by
    have a := mem_set (f := f) (v := u₁) (i := (m₁ : Int)) (by lia) (by lia)
    have b := mem_set (f := upd f m₁ u₁) (v := u₂) (i := (m₂ : Int)) (by lia) (by lia)
    rw [Int.toNat_natCast] at a b
    rw [a, b]
  have := ht (fun v σ₁ => ∃ a1 a2 k xs, v = .tup [a1, a2] ∧ ρ[i]? = some (some (.lst k)) ∧ σ₁[k]? = some (.list xs) ∧ m₁ < xs.length ∧ m₂ < xs.length ∧ xs.length ≤ 2 ^ 24 ∧ xpCs C S r ρ (σ₁.set k (.list ((xs.set m₁ (.at a1)).set m₂ (.at a2)))) QC) ⟨_, _, k, _, rfl, h, hk, by rw [mem_len]; exact h1, by rw [mem_len]; exact h2, by rw [mem_len]; decide, by rw [e]; exact q⟩
  with_unfolding_all exact this
theorem mulL {i : Int} {xs ys : List AV} (h : σ[k]? = some (.list xs)) (h0 : 0 ≤ i) (h1 : i < 2 ^ 63) (h2 : xs.length * i.toNat ≤ 2 ^ 24) (e : (List.replicate i.toNat xs).flatten = ys) (q : Q (.lst σ.length) (σ ++ [.list ys])) : xbin .Mult (.lst k) (I i) σ Q := by unfold xbin; exact ⟨rfl, xs, h, h0, h1, h2, by rw [e]; exact q⟩
theorem and3_i (ha : ∀ Q : AV → St → Prop, Q (.at (.bool true)) σ → xpT C S a ρ σ Q) (hb : ∀ Q : AV → St → Prop, Q (.at (.bool true)) σ → xpT C S b ρ σ Q) (hc : xpT C S c ρ σ Q) : xpT C S (.and3 a b c) ρ σ Q := by
  have := ha (fun va σ₁ => ∃ r, truth σ₁ va = some r ∧ (r = false → Q va σ₁) ∧ (r = true → xpT C S b ρ σ₁ fun vb σ₂ => ∃ r, truth σ₂ vb = some r ∧ (r = false → Q vb σ₂) ∧ (r = true → xpT C S c ρ σ₂ Q))) ⟨true, rfl, fun z => (by cases z), fun _ => hb _ ⟨true, rfl, fun z => (by cases z), fun _ => hc⟩⟩
  with_unfolding_all exact this
theorem leq_k {k j : Nat} {xs : List AV} (hi : xs.all isIntV = true) (h1 : σ[k]? = some (.list xs)) (h2 : σ[j]? = some (.list xs)) (q : Q (.at (.bool true)) σ) : leqW C (.lst k) (.lst j) σ Q := by
  unfold leqW
  exact ⟨_, _, listAt_lst h1, listAt_lst h2, hi, hi, by rw [decide_eq_true rfl]; exact q⟩
theorem brk_c (q : QC .brk ρ σ) : xpCs C S (.cons .brk r) ρ σ QC := by with_unfolding_all exact q
theorem tk_list {X : Bool → Prop} {xs : List AV} (h : σ[k]? = some (.list xs)) (hl : xs.length ≤ 2 ^ 24) (q : X (!xs.isEmpty)) : truW σ (.lst k) X := by
  unfold truW
  refine ⟨!xs.isEmpty, ?_, q⟩
  show truthL σ[k]? = _
  rw [h]
  exact if_pos hl
theorem pop_i {xs : List AV} (h1 : ρ[i]? = some (some (.lst k))) (h2 : σ[k]? = some (.list (xs ++ [v]))) (h3 : xs.length ≤ 2 ^ 23) (q : Q v (σ.set k (.list xs))) : xpT C S (.pop i) ρ σ Q := by with_unfolding_all exact ⟨k, xs, v, h1, h2, h3, q⟩
theorem forr_c {b : Cs} (q : ∃ Inv : Nat → Py.Loc → St → Prop, Inv 0 ρ σ ∧ ∀ m ρ' σ', Inv m ρ' σ' →
      (m < n → xpCs C S b (ρ'.set i (some (I m))) σ' fun fl ρ₃ σ₃ => match fl with | .next => Inv (m + 1) ρ₃ σ₃ | .cont => Inv (m + 1) ρ₃ σ₃ | .brk => seqK C S r QC .next ρ₃ σ₃ | .ret v => seqK C S r QC (.ret v) ρ₃ σ₃) ∧ (m = n → seqK C S r QC .next ρ' σ')) : xpCs C S (.cons (.forr i n b) r) ρ σ QC := by with_unfolding_all exact q
theorem whl_c {b : Cs} (q : ∃ Inv : Nat → Py.Loc → St → Prop, (∃ n, Inv n ρ σ) ∧ ∀ n ρ' σ', Inv n ρ' σ' → xpB C S t ρ' σ' fun r' σ₁ => (r' = true → xpCs C S b ρ' σ₁ fun fl ρ₂ σ₂ => match fl with | .next => ∃ m, m < n ∧ Inv m ρ₂ σ₂ | .cont => ∃ m, m < n ∧ Inv m ρ₂ σ₂ | .brk => seqK C S r QC .next ρ₂ σ₂ | .ret v => seqK C S r QC (.ret v) ρ₂ σ₂) ∧ (r' = false → seqK C S r QC .next ρ' σ₁)) : xpCs C S (.cons (.whl t b) r) ρ σ QC := by with_unfolding_all exact q
end
theorem zeros : (List.replicate (65536 : Int).toNat [I 0]).flatten = mem fun _ => 0 := by
  rw [List.flatten_replicate_singleton]
  unfold mem
  rw [List.map_const']
  rw [List.length_range]; rfl
noncomputable def bse (T s : Int) : Int := 4400 + T % 50000 + (48 + T % 300) * ((3 * s) % 10)
theorem bse_ok {T : Int} : Bs (bse T) := by
  have e3 : 0 ≤ T % 300 ∧ T % 300 < 300 := em (by decide)
  have e5 : 0 ≤ T % 50000 ∧ T % 50000 < 50000 := em (by decide)
  have pick : ∀ {s : Int}, 0 ≤ s ∧ s < 10 → ∃ k : Int, (3 * s) % 10 = k ∧ (0 ≤ k ∧ k < 10) ∧ s = 7 * k % 10 := fun {s} h => ⟨_, rfl, of_decide_eq_true (allTo_at (n := 10) (f := fun s => decide ((0 ≤ 3 * s % 10 ∧ 3 * s % 10 < 10) ∧ s = 7 * (3 * s % 10) % 10)) (by decide) h)⟩
  refine ⟨fun s hs => ?_, fun s t hs ht hn => ?_⟩
  · obtain ⟨k, e, hk, _⟩ := pick hs
    unfold bse
    rw [e]
    have m1 := Int.mul_nonneg (show 0 ≤ 48 + T % 300 by lia) hk.1
    have m2 : (48 + T % 300) * k ≤ 347 * 9 := Int.mul_le_mul (by lia) (by lia) hk.1 (by decide)
    generalize (48 + T % 300) * k = z at *
    lia
  · obtain ⟨k, e, hk, e'⟩ := pick hs
    obtain ⟨l, f, hl, f'⟩ := pick ht
    have hne : k ≠ l := fun z => hn (by rw [e', f', z])
    unfold bse
    rw [e, f]
    have hd : 48 ≤ 48 + T % 300 := by lia
    generalize 48 + T % 300 = d at *
    rcases Int.lt_or_gt_of_ne hne with z | z
    · left
      have := Int.mul_le_mul_of_nonneg_left (show k + 1 ≤ l by lia) (show 0 ≤ d by lia)
      rw [Int.mul_add, Int.mul_one] at this
      lia
    · right
      have := Int.mul_le_mul_of_nonneg_left (show l + 1 ≤ k by lia) (show 0 ≤ d by lia)
      rw [Int.mul_add, Int.mul_one] at this
      lia
end Mine.Mp
end
section
open PySem PySem.W
namespace Mine.Mp
open Mine.Hd Mine.Py Mine.Pu
noncomputable abbrev eρ (tot top left : Int) (kn kb km : Nat) (x2 x8 x9 x10 x11 x12 : Option AV) : Py.Loc := [some (.kl 3), some (I tot), x2, some (.lst kn), some (.lst kb), some (I top), some (I left), some (.lst km), x8, x9, x10, x11, x12, none, none, none, none, none, none, none, none, none, none, none, none, none, none]
structure K1 (σ : St) (kn kb km : Nat) (ns bl : List AV) (g : Int → Int) : Prop where
  n : σ[kn]? = some (.list ns)
  b : σ[kb]? = some (.list bl)
  m : σ[km]? = some (.list (mem g))
  o : kn < kb ∧ kb < km
theorem K1.up {σ σ' : St} {kn kb km : Nat} {ns bl : List AV} {g : Int → Int} (K : K1 σ kn kb km ns bl g) (e : Ext σ σ') : K1 σ' kn kb km ns bl g := ⟨e _ _ K.n, e _ _ K.b, e _ _ K.m, K.o⟩
theorem K1.put {σ : St} {kn kb km : Nat} {ns bl : List AV} {g g' : Int → Int} (K : K1 σ kn kb km ns bl g) : K1 (σ.set km (.list (mem g'))) kn kb km ns bl g' := ⟨set_ne K.n (by have := K.o; omega), set_ne K.b (by have := K.o; omega), at_set (lt_of_at K.m), K.o⟩
section
variable {C : Cfg} {n : Nat} {ρ : Py.Loc} {σ : St} {B : Py.Loc → St → Prop} {D : AV → Py.Loc → St → Prop} {tot top left : Int} {kn kb km : Nat} {ns : List Int} {bl : List AV} {b nm : Int → Int} {f : Int → Int}
noncomputable def E1 (tot top left : Int) (kn kb km : Nat) (ns : List Int) (bl : List AV) (b nm : Int → Int) (f : Int → Int) (s : Nat) (ρ : Py.Loc) (σ : St) : Prop := (∃ x2 x8 x9 x10 x11 x12, ρ = eρ tot top left kn kb km x2 x8 x9 x10 x11 x12) ∧ K1 σ kn kb km (ns.map I) bl (memN b (fun s => plan (nm s) s) f s)
theorem turn_e (hb : Bs b) (hbs : ∀ i : Int, 0 ≤ i ∧ i < 10 → idxL bl i = some (I (b i))) (hn : ∀ s : Nat, s < 10 → ns[s]? = some (nm s)) (hl : ns.length = 10) {s : Nat} (J : E1 tot top left kn kb km ns bl b nm f s ρ σ) {a : AV} (ha : (ns.map I)[s]? = some a) :
    bindW (.enum 8 2) s a ρ fun ρ₂ => xpCs C (Sp C (n + 4)) ir_law_b3 ρ₂ σ fun fl ρ₃ σ₃ => match fl with | .next => E1 tot top left kn kb km ns bl b nm f (s + 1) ρ₃ σ₃ | .cont => E1 tot top left kn kb km ns bl b nm f (s + 1) ρ₃ σ₃ | .brk => B ρ₃ σ₃ | .ret v => D v ρ₃ σ₃ := by
  obtain ⟨⟨x2, x8, x9, x10, x11, x12, rfl⟩, K⟩ := J
  have hs : s < 10 := by have := (List.getElem?_eq_some_iff.mp ha).1; rw [List.length_map] at this; omega
  rw [List.getElem?_map, hn s hs] at ha
  cases ha
  have ok := plan_ok (n := nm s) (s := (s : Int))
  have hi : 0 ≤ (s : Int) ∧ (s : Int) < 10 := by omega
  have rb := hb.rng s hi
  have pi := ptr_in (p := plan (nm s) s) (s := (s : Int))
  refine bindE (ρ' := [_, _, _, _, _, _, _, _, _, _, _, _, _, _, _, _, _, _, _, _, _, _, _, _, _, _, _]) rfl ?_
  unfold ir_law_b3
  refine asg_c (gc_i (consT (v_i rfl (consT (v_i rfl (consT (v_i rfl (nilT (sp_block K.b hbs fun σ1 kc e hc hnew => ?_)))))))))
  (first | refine pl (ρ' := [_, _, _, _, _, _, _, _, _, _, _, _, _, _, _, _, _, _, _, _, _, _, _, _, _, _, _]) rfl ?_ | refine pls (ρ' := [_, _, _, _, _, _, _, _, _, _, _, _, _, _, _, _, _, _, _, _, _, _, _, _, _, _, _]) rfl ?_)
  have cl := code_len (p := plan (nm s) s) (s := (s : Int)) (g := b (plan (nm s) s).go) (o := b (plan (nm s) s).ot)
  refine sls_c rfl (v_i rfl (idx_i (v_i rfl (v_i rfl (iw_lst (e _ _ K.b) (hbs _ hi) (bin_i (idx_i (v_i rfl (v_i rfl (iw_lst (e _ _ K.b) (hbs _ hi) (len_i (v_i rfl ⟨_, listAt_lst hc, by rw [List.length_map]; omega, bw_add ?_⟩))))))))))))
  refine sls_m (e _ _ K.m) hc (by omega) (by rw [List.length_map]) (by rw [List.length_map]; omega) ?_
  have K1 := (K.up e).put (g' := ovr (memN b (fun s => plan (nm s) s) f s) (b s) (code (plan (nm s) s) s (b (plan (nm s) s).go) (b (plan (nm s) s).ot)))
  refine asg_c (gc_i (consT (v_i rfl (consT (v_i rfl (nilT (sp_pointer ?_)))))))
  (first | refine pl (ρ' := [_, _, _, _, _, _, _, _, _, _, _, _, _, _, _, _, _, _, _, _, _, _, _, _, _, _, _]) rfl ?_ | refine pls (ρ' := [_, _, _, _, _, _, _, _, _, _, _, _, _, _, _, _, _, _, _, _, _, _, _, _, _, _, _]) rfl ?_)
  refine tal_c (gc_i (consT (bin_i (idx_i (v_i rfl (idx_i ?_))))))
  refine gc_i (consT (v_i rfl (consT (v_i rfl (nilT (sp_plan ?_))))))
  refine c_i (iw_tup (l := ptup _) (by decide) (by decide) rfl (iw_lst K1.b (hbs _ ok.go) (c_i (bw_add (nilT (sp_word ?_))))))
  refine ⟨_, [.int _, .int _], rfl, at_end, rfl, ?_⟩
  (first | refine pl (ρ' := [_, _, _, _, _, _, _, _, _, _, _, _, _, _, _, _, _, _, _, _, _, _, _, _, _, _, _]) rfl ?_ | refine pls (ρ' := [_, _, _, _, _, _, _, _, _, _, _, _, _, _, _, _, _, _, _, _, _, _, _, _, _, _, _]) rfl ?_)
  have K2 := K1.up (Ext.app (x := AO.list [I ((b (plan (nm s) s).go + 3) % 256), I ((b (plan (nm s) s).go + 3) / 256)]))
  refine six_c (v_i rfl (v_i rfl (v_i rfl (six_m K2.m (by omega) (by omega) ?_))))
  have K3 := K2.put (g' := upd (ovr (memN b (fun s => plan (nm s) s) f s) (b s) (code (plan (nm s) s) s (b (plan (nm s) s).go) (b (plan (nm s) s).ot))) (ptr (plan (nm s) s) s) ((b (plan (nm s) s).go + 3) % 256))
  have q2 := pi.2.1
  unfold ptr2 at q2
  refine six_c (v_i rfl (v_i rfl ?_))
  repeat (first | refine c_i ?_ | refine v_i rfl ?_ | refine bin_i ?_ | refine bw_add ?_ | refine mul_r (by decide +kernel) ?_ | refine bw_div (by decide) ?_ | refine bw_mod (by decide) ?_)
  refine six_m K3.m (by omega) (by omega) ?_
  exact nilN ⟨⟨_, _, _, _, _, _, rfl⟩, K3.put⟩
end
end Mine.Mp
end
section
open PySem PySem.W
namespace Mine.Mp
open Mine.Hd Mine.Py Mine.Pu
noncomputable abbrev wρ (tot top left : Int) (kn kb kj kp ki kl kc : Nat) (v : AV) (x2 x8 x9 x10 x11 x12 x15 x19 x20 x21 x22 x23 x24 x25 x26 : Option AV) : Py.Loc := [some (.kl 3), some (I tot), x2, some (.lst kn), some (.lst kb), some (I top), some (I left), some (.lst kj), x8, x9, x10, x11, x12, some (.lst kp), some (.ins ki), x15, some (.lst kl), some (.lst kc), some v, x19, x20, x21, x22, x23, x24, x25, x26]
noncomputable def Wl (tot top left : Int) (kn kb kj kp ki kl kc : Nat) (v : AV) (ρ : Py.Loc) : Prop := ∃ x2 x8 x9 x10 x11 x12 x15 x19 x20 x21 x22 x23 x24 x25 x26, ρ = wρ tot top left kn kb kj kp ki kl kc v x2 x8 x9 x10 x11 x12 x15 x19 x20 x21 x22 x23 x24 x25 x26
theorem wl_i {tot top left : Int} {kn kb kj kp ki kl kc : Nat} {v : AV} {x2 x8 x9 x10 x11 x12 x15 x19 x20 x21 x22 x23 x24 x25 x26 : Option AV} : Wl tot top left kn kb kj kp ki kl kc v (wρ tot top left kn kb kj kp ki kl kc v x2 x8 x9 x10 x11 x12 x15 x19 x20 x21 x22 x23 x24 x25 x26) := ⟨_, _, _, _, _, _, _, _, _, _, _, _, _, _, _, rfl⟩
theorem wl_el {tot top left : Int} {kn kb kj kp ki kl kc : Nat} {v : AV} {ρ : Py.Loc} {M : Py.Loc → Prop} (h : Wl tot top left kn kb kj kp ki kl kc v ρ) (f : ∀ x2 x8 x9 x10 x11 x12 x15 x19 x20 x21 x22 x23 x24 x25 x26, M (wρ tot top left kn kb kj kp ki kl kc v x2 x8 x9 x10 x11 x12 x15 x19 x20 x21 x22 x23 x24 x25 x26)) : M ρ := by
  obtain ⟨x2, x8, x9, x10, x11, x12, x15, x19, x20, x21, x22, x23, x24, x25, x26, rfl⟩ := h
  exact f ..
theorem wl_18 {tot top left : Int} {kn kb kj kp ki kl kc : Nat} {v : AV} {ρ : Py.Loc} (h : Wl tot top left kn kb kj kp ki kl kc v ρ) : ρ[18]? = some (some v) := wl_el (M := fun ρ => ρ[18]? = some (some v)) h fun _ _ _ _ _ _ _ _ _ _ _ _ _ _ _ => rfl
structure K2 (σ : St) (kn kb kj kp ki kl kc : Nat) (ns bl : List AV) (F X : AO) (g stk : Int → Int) (log cs : List Int) : Prop where
  n : σ[kn]? = some (.list ns)
  b : σ[kb]? = some (.list bl)
  j : σ[kj]? = some F
  p : σ[kp]? = some (.list (mem (pln g stk)))
  i : σ[ki]? = some X
  l : σ[kl]? = some (.list (log.map I))
  c : σ[kc]? = some (.list (cs.reverse.map I))
  o : kn < kb ∧ kb < kj ∧ kj < kp ∧ kp < ki ∧ ki < kl ∧ kl < kc
section
variable {C : Cfg} {S : Nat → Py.Spec} {ρ : Py.Loc} {σ : St} {n kn kb kj kp ki kl kc : Nat} {ns bl : List AV} {F X : AO} {g stk : Int → Int} {log cs : List Int} {QC : Fl → Py.Loc → St → Prop} {t : Tm} {r : Cs} {i : Nat} {v : Int}
theorem K2.up {σ' : St} (K : K2 σ kn kb kj kp ki kl kc ns bl F X g stk log cs) (e : Ext σ σ') : K2 σ' kn kb kj kp ki kl kc ns bl F X g stk log cs := ⟨e _ _ K.n, e _ _ K.b, e _ _ K.j, e _ _ K.p, e _ _ K.i, e _ _ K.l, e _ _ K.c, K.o⟩
theorem K2.putp {stk' : Int → Int} (K : K2 σ kn kb kj kp ki kl kc ns bl F X g stk log cs) : K2 (σ.set kp (.list (mem (pln g stk')))) kn kb kj kp ki kl kc ns bl F X g stk' log cs := by
  have o := K.o
  exact ⟨set_ne K.n (by lia), set_ne K.b (by lia), set_ne K.j (by lia), at_set (lt_of_at K.p), set_ne K.i (by lia), set_ne K.l (by lia), set_ne K.c (by lia), o⟩
theorem K2.putl {log' : List Int} (K : K2 σ kn kb kj kp ki kl kc ns bl F X g stk log cs) : K2 (σ.set kl (.list (log'.map I))) kn kb kj kp ki kl kc ns bl F X g stk log' cs := by
  have o := K.o
  exact ⟨set_ne K.n (by lia), set_ne K.b (by lia), set_ne K.j (by lia), set_ne K.p (by lia), set_ne K.i (by lia), at_set (lt_of_at K.l), set_ne K.c (by lia), o⟩
theorem K2.putc {cs' : List Int} (K : K2 σ kn kb kj kp ki kl kc ns bl F X g stk log cs) : K2 (σ.set kc (.list (cs'.reverse.map I))) kn kb kj kp ki kl kc ns bl F X g stk log cs' := by
  have o := K.o
  exact ⟨set_ne K.n (by lia), set_ne K.b (by lia), set_ne K.j (by lia), set_ne K.p (by lia), set_ne K.i (by lia), set_ne K.l (by lia), at_set (lt_of_at K.c), o⟩
theorem app_log (K : K2 σ kn kb kj kp ki kl kc ns bl F X g stk log cs) (h : ρ[i]? = some (some (.lst kl))) (ht : ∀ Q : AV → St → Prop, Q (I v) σ → xpT C S t ρ σ Q) (hl : log.length ≤ 1000) (q : ∀ σ', K2 σ' kn kb kj kp ki kl kc ns bl F X g stk (log ++ [v]) cs → xpCs C S r ρ σ' QC) : xpCs C S (.cons (.app i t) r) ρ σ QC := by
  refine app_c h K.l (ht _ (app_k K.l (by rw [List.length_map]; lia) ?_))
  have := q _ (K.putl (log' := log ++ [v]))
  rwa [List.map_append] at this
theorem app_calls (K : K2 σ kn kb kj kp ki kl kc ns bl F X g stk log cs) (h : ρ[i]? = some (some (.lst kc))) (ht : ∀ Q : AV → St → Prop, Q (I v) σ → xpT C S t ρ σ Q) (hl : cs.length ≤ 1000) (q : ∀ σ', K2 σ' kn kb kj kp ki kl kc ns bl F X g stk log (v :: cs) → xpCs C S r ρ σ' QC) : xpCs C S (.cons (.app i t) r) ρ σ QC := by
  refine app_c h K.c (ht _ (app_k K.c (by rw [List.length_map, List.length_reverse]; lia) ?_))
  have := q _ (K.putc (cs' := v :: cs))
  rwa [List.reverse_cons, List.map_append] at this
theorem lay_k {Q : AV → St → Prop} {top : Int} {os : List Int} (K : K2 σ kn kb kj kp ki kl kc ns bl F X g stk log cs) (ht : 0 ≤ top ∧ top < 256) (q : ∀ σ', K2 σ' kn kb kj kp ki kl kc ns bl F X g (lays stk top os) log cs → Q (I (layt top os)) σ') : Sp C (n + 1) 207 [.lst kp, I top, .lst σ.length] (σ ++ [.list (os.map I)]) Q :=
  sp_lay (K.up .app).p at_end (Nat.ne_of_lt (lt_of_at K.p)) ht (q _ (K.up .app).putp)
end
noncomputable def oAV : Option Int → AV
  | none => .at .none
  | some h => I h
section
variable {C : Cfg} {ρ : Py.Loc} {σ : St} {n m kn kb kj kp ki kl kc : Nat} {ns bl : List AV} {F X : AO} {g : Int → Int} {QC : Fl → Py.Loc → St → Prop} {b nm : Int → Int} {P : Int → Pl} {h tot : Int} {st : Ps}
theorem turn_w (hP : ∀ h, plan (nm h) h = P h) (hns : ∀ i : Int, 0 ≤ i ∧ i < 10 → idxL ns i = some (I (nm i))) (hbs : ∀ i : Int, 0 ≤ i ∧ i < 10 → idxL bl i = some (I (b i))) (hh : 0 ≤ h ∧ h < 10) (J : Inv b P n st) (K : K2 σ kn kb kj kp ki kl kc ns bl F X g st.stk st.log st.cs) (hw : Wl tot st.top ((n : Int) + 1) kn kb kj kp ki kl kc (I h) ρ)
    (qb : n = 0 → ∀ ρ', Wl tot st.top 0 kn kb kj kp ki kl kc (I h) ρ' → QC .brk ρ' σ)
    (qn : ∀ m, n = m + 1 → ∀ ρ' σ', Wl tot (bstep b P h st).2.top ((m : Int) + 1) kn kb kj kp ki kl kc (oAV (bstep b P h st).1) ρ' → K2 σ' kn kb kj kp ki kl kc ns bl F X g (bstep b P h st).2.stk (bstep b P h st).2.log (bstep b P h st).2.cs → QC .next ρ' σ') :
    xpCs C (Sp C (m + 4)) ir_law_b1 ρ σ QC := by
  refine wl_el (M := fun ρ => xpCs C (Sp C (m + 4)) ir_law_b1 ρ σ QC) hw fun x2 x8 x9 x10 x11 x12 x15 x19 x20 x21 x22 x23 x24 x25 x26 => ?_
  have ok := plan_ok (n := nm h) (s := h)
  rw [hP h] at ok
  have top := J.top
  have lc := J.cs
  have ll := J.log
  unfold ir_law_b1
  refine aug_c rfl (c_i (iw_sub ?_))
  rw [show (n : Int) + 1 - 1 = n by lia]
  (first | refine pl (ρ' := [_, _, _, _, _, _, _, _, _, _, _, _, _, _, _, _, _, _, _, _, _, _, _, _, _, _, _]) rfl ?_ | refine pls (ρ' := [_, _, _, _, _, _, _, _, _, _, _, _, _, _, _, _, _, _, _, _, _, _, _, _, _, _, _]) rfl ?_)
  refine ifc_c (cmpB_i (v_i rfl (c_i (ck_eq (br (fun e => ?_) (fun e => ?_))))))
  · obtain rfl : n = 0 := by lia
    exact brk_c (qb rfl _ wl_i)
  obtain ⟨m', rfl⟩ : ∃ m', n = m' + 1 := ⟨n - 1, by lia⟩
  have qn := qn m' rfl
  clear qb
  refine nilK (app_log K rfl (fun Q q => v_i rfl q) (by lia) fun σ1 K1 => ?_)
  refine tas_c (gc_i (consT (idx_i (v_i rfl (v_i rfl (iw_lst K1.n (hns _ hh) (consT (v_i rfl (nilT (sp_plan (unt_k rfl ?_)))))))))))
  rw [hP h]
  (first | refine pl (ρ' := [_, _, _, _, _, _, _, _, _, _, _, _, _, _, _, _, _, _, _, _, _, _, _, _, _, _, _]) rfl ?_ | refine pls (ρ' := [_, _, _, _, _, _, _, _, _, _, _, _, _, _, _, _, _, _, _, _, _, _, _, _, _, _, _]) rfl ?_)
  refine asg_c (bin_i (idx_i (v_i rfl (v_i rfl (iw_lst K1.b (hbs _ hh) (ite_i (cmpB_i (v_i rfl (c_i (ck_eq (join_i (fun Q q => c_i q) (fun Q q => c_i q) (bw_add ?_))))))))))))
  have elv : (b h + if decide ((P h).ho = 2) = true then 18 else 19) = lv b P h := by unfold lv; simp only [decide_eq_true_eq]
  rw [elv]
  (first | refine pl (ρ' := [_, _, _, _, _, _, _, _, _, _, _, _, _, _, _, _, _, _, _, _, _, _, _, _, _, _, _]) rfl ?_ | refine pls (ρ' := [_, _, _, _, _, _, _, _, _, _, _, _, _, _, _, _, _, _, _, _, _, _, _, _, _, _, _]) rfl ?_)
  have en : ((m' + 1 : Nat) : Int) = (m' : Int) + 1 := by lia
  rw [en]
  refine ifc_c (cmpB_i (v_i rfl (c_i (ck_eq (br (fun e2 => ?_) (fun e2 => ?_))))))
  · rw [bs2 e2] at qn
    refine asg_c (gc_i ?_)
    repeat (first | refine c_i ?_ | refine v_i rfl ?_ | refine bin_i ?_ | refine bw_add ?_ | refine bw_div (by decide) ?_ | refine bw_mod (by decide) ?_ | refine nilT ?_ | refine consT ?_ | refine lst_i ?_ | refine lst_k (ble rfl) ?_)
    refine lay_k (os := [_, _]) K1 top fun σ2 K2 => ?_
    (first | refine pl (ρ' := [_, _, _, _, _, _, _, _, _, _, _, _, _, _, _, _, _, _, _, _, _, _, _, _, _, _, _]) rfl ?_ | refine pls (ρ' := [_, _, _, _, _, _, _, _, _, _, _, _, _, _, _, _, _, _, _, _, _, _, _, _, _, _, _]) rfl ?_)
    refine app_calls K2 rfl (fun Q q => v_i rfl q) (by lia) fun σ3 K3 => ?_
    refine asg_c (v_i rfl ?_)
    (first | refine pl (ρ' := [_, _, _, _, _, _, _, _, _, _, _, _, _, _, _, _, _, _, _, _, _, _, _, _, _, _, _]) rfl ?_ | refine pls (ρ' := [_, _, _, _, _, _, _, _, _, _, _, _, _, _, _, _, _, _, _, _, _, _, _, _, _, _, _]) rfl ?_)
    repeat (refine nilK ?_)
    exact nilN (qn _ σ3 wl_i K3)
  refine ifc_c (cmpB_i (v_i rfl (c_i (ck_eq (br (fun e3 => ?_) (fun e3 => ?_))))))
  · rw [bs3 e3] at qn
    refine asg_c (bin_i (bin_i (v_i rfl (c_i (bw_add (c_i (bw_mod (by decide) ?_)))))))
    (first | refine pl (ρ' := [_, _, _, _, _, _, _, _, _, _, _, _, _, _, _, _, _, _, _, _, _, _, _, _, _, _, _]) rfl ?_ | refine pls (ρ' := [_, _, _, _, _, _, _, _, _, _, _, _, _, _, _, _, _, _, _, _, _, _, _, _, _, _, _]) rfl ?_)
    refine asg_c (ite_i (vB_i rfl (tk_list K1.c (by rw [List.length_map, List.length_reverse]; lia) ?_)))
    generalize st.cs = cs at qn K1 lc ⊢
    cases cs with
    | nil =>
      refine tw_f (c_i ?_)
      (first | refine pl (ρ' := [_, _, _, _, _, _, _, _, _, _, _, _, _, _, _, _, _, _, _, _, _, _, _, _, _, _, _]) rfl ?_ | refine pls (ρ' := [_, _, _, _, _, _, _, _, _, _, _, _, _, _, _, _, _, _, _, _, _, _, _, _, _, _, _]) rfl ?_)
      repeat (refine nilK ?_)
      exact nilN (qn _ σ1 wl_i K1)
    | cons x r =>
      have ex : (x :: r).reverse.map I = r.reverse.map I ++ [I x] := by rw [List.reverse_cons, List.map_append]; rfl
      have c1 := K1.c
      rw [ex] at c1 ⊢
      rw [show (!(r.reverse.map I ++ [I x]).isEmpty) = true by simp]
      rw [List.length_cons] at lc
      refine tw_t (pop_i rfl c1 (by rw [List.length_map, List.length_reverse]; lia) ?_)
      (first | refine pl (ρ' := [_, _, _, _, _, _, _, _, _, _, _, _, _, _, _, _, _, _, _, _, _, _, _, _, _, _, _]) rfl ?_ | refine pls (ρ' := [_, _, _, _, _, _, _, _, _, _, _, _, _, _, _, _, _, _, _, _, _, _, _, _, _, _, _]) rfl ?_)
      repeat (refine nilK ?_)
      exact nilN (qn _ _ wl_i (K1.putc (cs' := r)))
  refine ifc_c (cmpB_i (v_i rfl (c_i (ck_eq (br (fun e7 => ?_) (fun e7 => ?_))))))
  · rw [bs7 e7] at qn
    refine asg_c (ite_i (gcB_i (consT (v_i rfl (consT (v_i rfl (consT (v_i rfl (nilT (sp_taken ok.kd fun y => tk_bool (join_i (fun Q q => v_i rfl q) (fun Q q => v_i rfl q) ?_)))))))))))
    (first | refine pl (ρ' := [_, _, _, _, _, _, _, _, _, _, _, _, _, _, _, _, _, _, _, _, _, _, _, _, _, _, _]) rfl ?_ | refine pls (ρ' := [_, _, _, _, _, _, _, _, _, _, _, _, _, _, _, _, _, _, _, _, _, _, _, _, _, _, _]) rfl ?_)
    repeat (refine nilK ?_)
    exact nilN (qn _ _ wl_i (K1.up .app))
  refine ifc_c (cmpB_i (v_i rfl (c_i (ck_eq (br (fun e4 => ?_) (fun e4 => ?_))))))
  · rw [bs4 e4] at qn
    refine ex_c (gc_i ?_)
    repeat (first | (first | refine c_i ?_ | refine v_i rfl ?_ | refine bin_i ?_ | refine bw_add ?_ | refine bw_div (by decide) ?_ | refine bw_mod (by decide) ?_ | refine nilT ?_ | refine consT ?_ | refine lst_i ?_ | refine lst_k (ble rfl) ?_ | refine idx_i ?_) | refine iw_lst K1.b (hbs _ ok.go) ?_)
    refine lay_k (os := [_, _]) K1 top fun σ2 K2 => ?_
    repeat (refine nilK ?_)
    refine asg_c (v_i rfl ?_)
    (first | refine pl (ρ' := [_, _, _, _, _, _, _, _, _, _, _, _, _, _, _, _, _, _, _, _, _, _, _, _, _, _, _]) rfl ?_ | refine pls (ρ' := [_, _, _, _, _, _, _, _, _, _, _, _, _, _, _, _, _, _, _, _, _, _, _, _, _, _, _]) rfl ?_)
    repeat (refine nilK ?_)
    exact nilN (qn _ σ2 wl_i K2)
  refine ifc_c (cmpB_i (v_i rfl (c_i (ck_eq (br (fun e5 => ?_) (fun e5 => ?_))))))
  · rw [bs5 e5] at qn
    refine ex_c (gc_i ?_)
    repeat (first | (first | refine c_i ?_ | refine v_i rfl ?_ | refine bin_i ?_ | refine bw_add ?_ | refine bw_div (by decide) ?_ | refine bw_mod (by decide) ?_ | refine nilT ?_ | refine consT ?_ | refine lst_i ?_ | refine lst_k (ble rfl) ?_ | refine idx_i ?_) | refine iw_lst K1.b (hbs _ ok.go) ?_)
    refine lay_k (os := [_, _, _]) K1 top fun σ2 K2 => ?_
    repeat (refine nilK ?_)
    refine asg_c (v_i rfl ?_)
    (first | refine pl (ρ' := [_, _, _, _, _, _, _, _, _, _, _, _, _, _, _, _, _, _, _, _, _, _, _, _, _, _, _]) rfl ?_ | refine pls (ρ' := [_, _, _, _, _, _, _, _, _, _, _, _, _, _, _, _, _, _, _, _, _, _, _, _, _, _, _]) rfl ?_)
    repeat (refine nilK ?_)
    exact nilN (qn _ σ2 wl_i K2)
  refine ifc_c (cmpB_i (v_i rfl (c_i (ck_eq (br (fun e6 => ?_) (fun e6 => ?_))))))
  · rw [bs6 e6] at qn
    refine ex_c (gc_i ?_)
    repeat (first | refine v_i rfl ?_ | refine nilT ?_ | refine consT ?_ | refine lst_i ?_ | refine lst_k (ble rfl) ?_)
    refine lay_k (os := [_]) K1 top fun σ2 K2 => ?_
    refine ex_c (gc_i ?_)
    repeat (first | refine c_i ?_ | refine v_i rfl ?_ | refine bin_i ?_ | refine bw_add ?_ | refine mul_r (by decide +kernel) ?_ | refine bw_div (by decide) ?_ | refine bw_mod (by decide) ?_ | refine nilT ?_ | refine consT ?_ | refine lst_i ?_ | refine lst_k (ble rfl) ?_)
    refine lay_k (os := [_, _, _]) K2 top fun σ3 K3 => ?_
    refine app_log K3 rfl (fun Q q => c_i q) (by rw [len_snoc]; lia) fun σ4 K4 => ?_
    repeat (refine nilK ?_)
    refine asg_c (v_i rfl ?_)
    (first | refine pl (ρ' := [_, _, _, _, _, _, _, _, _, _, _, _, _, _, _, _, _, _, _, _, _, _, _, _, _, _, _]) rfl ?_ | refine pls (ρ' := [_, _, _, _, _, _, _, _, _, _, _, _, _, _, _, _, _, _, _, _, _, _, _, _, _, _, _]) rfl ?_)
    repeat (refine nilK ?_)
    exact nilN (qn _ σ4 wl_i K4)
  rw [bs0 (by have := ok.wy; lia)] at qn
  repeat (refine nilK ?_)
  refine asg_c (v_i rfl ?_)
  (first | refine pl (ρ' := [_, _, _, _, _, _, _, _, _, _, _, _, _, _, _, _, _, _, _, _, _, _, _, _, _, _, _]) rfl ?_ | refine pls (ρ' := [_, _, _, _, _, _, _, _, _, _, _, _, _, _, _, _, _, _, _, _, _, _, _, _, _, _, _]) rfl ?_)
  repeat (refine nilK ?_)
  exact nilN (qn _ σ1 wl_i K1)
end
end Mine.Mp
end
section
open PySem PySem.W
namespace Mine.Mp
open Mine.Hd Mine.Py Mine.Pu
section
variable {C : Cfg} {S : Nat → Py.Spec} {ρ : Py.Loc} {σ : St} {n k j i f : Nat} {Q : AV → St → Prop} {v : AV} {fs : List AV}
theorem se {X : St → Prop} {fs' : List AV} (h1 : ρ[i]? = some (some (.ins σ.length))) (h3 : f ≤ fs.length) (h4 : putF fs f v = fs') (q : X (σ ++ [.inst fs'])) : satW ρ i f v (σ ++ [.inst fs]) X := by with_unfolding_all exact
  ⟨σ.length, fs, h1, at_end, h3, by rw [set_end, h4]; exact q⟩
theorem bw_shl {i j r : Int} (h : 0 ≤ j ∧ j ≤ 1000000 ∧ i.natAbs < 2 ^ 64) (hr : i * 2 ^ j.toNat = r) (q : Q (I r) σ) : xbin .LShift (I i) (I j) σ Q := by unfold xbin; exact ⟨h, by rw [show binV .LShift i j = i * 2 ^ j.toNat from rfl, hr]; exact q⟩
theorem bw_subE {i j r : Int} (hr : i - j = r) (q : Q (I r) σ) : xbin .Sub (I i) (I j) σ Q := by unfold xbin; exact ⟨trivial, by rw [show binV .Sub i j = i - j from rfl, hr]; exact q⟩
theorem bw_orE {i j r : Int} (hr : Pu.bO i j = r) (q : Q (I r) σ) : xbin .BitOr (I i) (I j) σ Q := bw_or (by rw [hr]; exact q)
end
section
variable {C : Cfg} {σ : St} {n j : Nat} {Q : AV → St → Prop}
theorem sp_reset (q : Q (.at .none) (σ ++ [.inst (mfs (I 0) (.at (.bool false)) (I 0) j 512 255 0 0 0 48)])) : Sp C (n + 1) 1 [.ins σ.length] (σ ++ [.inst [.str "6502", I 255, I 65535, I 65280, I 256, I 0, .at (.bool false), I 0, .lst j, I 512]]) Q := by
  refine ⟨rfl, ?_⟩
  unfold ir_reset
  refine start (ρ' := [_]) rfl ?_
  repeat (first | refine c_i ?_ | refine fld_i rfl at_end rfl ?_ | refine cat_i rfl at_end ?_ | refine bin_i ?_ | refine bw_orE (r := 48) (by decide +kernel) ?_ | refine cmpB_i ?_ | refine ck_is ?_ | refine tw_f ?_ | refine ifc_c ?_ | refine nilK ?_ | refine nilR ?_ | refine sat_c ?_ | refine se (fs' := [_, _, _, _, _, _, _, _, _, _, _]) rfl (ble rfl) rfl ?_ | refine se (fs' := [_, _, _, _, _, _, _, _, _, _, _, _]) rfl (ble rfl) rfl ?_ | refine se (fs' := [_, _, _, _, _, _, _, _, _, _, _, _, _]) rfl (ble rfl) rfl ?_ | refine se (fs' := [_, _, _, _, _, _, _, _, _, _, _, _, _, _]) rfl (ble rfl) rfl ?_ | refine se (fs' := [_, _, _, _, _, _, _, _, _, _, _, _, _, _, _]) rfl (ble rfl) rfl ?_ | refine se (fs' := [_, _, _, _, _, _, _, _, _, _, _, _, _, _, _, _]) rfl (ble rfl) rfl ?_)
  exact q
theorem sp_make (q : Q (.ins σ.length) (σ ++ [.inst (mfs (I 0) (.at (.bool false)) (I 0) j 512 255 0 0 0 48)])) : Sp C (n + 2) 300 [.lst j, I 512] σ Q := by
  show newW C (Sp C (n + 1)) [.lst j, I 512] σ Q
  refine ⟨_, _, rfl, ?_⟩
  unfold ir_init
  refine start (ρ' := [_, _, _]) rfl ?_
  repeat (first | refine c_i ?_ | refine s_i ?_ | refine v_i rfl ?_ | refine fld_i rfl at_end rfl ?_ | refine cat_i rfl at_end ?_ | refine bin_i ?_ | refine bw_shl (r := 256) (by decide) (by decide) ?_ | refine bw_shl (r := 65536) (by decide) (by decide) ?_ | refine bw_shl (r := 65280) (by decide) (by decide) ?_ | refine bw_subE (r := 255) (by decide) ?_ | refine bw_subE (r := 65535) (by decide) ?_ | refine cmpB_i ?_ | refine ck_is ?_ | refine tw_f ?_ | refine nilT ?_ | refine mc_i rfl at_end ?_ | refine ifc_c ?_ | refine nilK ?_ | refine ex_c ?_ | refine sat_c ?_ | refine se (fs' := [_]) rfl (ble rfl) rfl ?_ | refine se (fs' := [_, _]) rfl (ble rfl) rfl ?_ | refine se (fs' := [_, _, _]) rfl (ble rfl) rfl ?_ | refine se (fs' := [_, _, _, _]) rfl (ble rfl) rfl ?_ | refine se (fs' := [_, _, _, _, _]) rfl (ble rfl) rfl ?_ | refine se (fs' := [_, _, _, _, _, _]) rfl (ble rfl) rfl ?_ | refine se (fs' := [_, _, _, _, _, _, _]) rfl (ble rfl) rfl ?_ | refine se (fs' := [_, _, _, _, _, _, _, _]) rfl (ble rfl) rfl ?_ | refine se (fs' := [_, _, _, _, _, _, _, _, _]) rfl (ble rfl) rfl ?_ | refine se (fs' := [_, _, _, _, _, _, _, _, _, _]) rfl (ble rfl) rfl ?_)
  refine sp_reset ?_
  repeat (refine nilR ?_)
  exact ⟨rfl, q⟩
end
end Mine.Mp
end
section
open PySem PySem.W
namespace Mine.Mp
open Mine.Hd Mine.Py Mine.Pu
theorem W_at {σ : St} {k j i : Nat} {fs xs : List AV} (h1 : i ≠ k) (h2 : i ≠ j) : (W σ k j fs xs)[i]? = σ[i]? := by
  unfold W
  rw [List.getElem?_set_ne (Ne.symm h2), List.getElem?_set_ne (Ne.symm h1)]
theorem W_same {σ : St} {k j : Nat} {fs xs : List AV} (h1 : σ[k]? = some (.inst fs)) (h2 : σ[j]? = some (.list xs)) : W σ k j fs xs = σ := by
  unfold W
  rw [set_same h1, set_same h2]
noncomputable abbrev mρ (tot top left : Int) (kn kb kj kp ki : Nat) (x2 x8 x9 x10 x11 x12 x15 : Option AV) : Py.Loc := [some (.kl 3), some (I tot), x2, some (.lst kn), some (.lst kb), some (I top), some (I left), some (.lst kj), x8, x9, x10, x11, x12, some (.lst kp), some (.ins ki), x15, none, none, none, none, none, none, none, none, none, none, none]
section
variable {C : Cfg} {σ : St} {n kn kb kj kp ki : Nat} {QC : Fl → Py.Loc → St → Prop} {tot top left : Int} {x2 x8 x9 x10 x11 x12 x15 : Option AV} {r : Cs}
theorem run_loop (m : Mk σ ki kj) {t : Nat} {s s' : Ms} (run : Run C σ ki kj t s s') (ht : t ≤ 160) (hpc : s'.pc = 600) {e cyc : Int} {add : AV}
    (q : ∀ x15 e cyc add, xpCs C (Sp C 7) r (mρ tot top left kn kb kj kp ki x2 x8 x9 x10 x11 x12 x15) (Wm σ ki kj (I e) add (I cyc) s') QC) :
    xpCs C (Sp C 7) (.cons (.forr 15 300 ir_law_b2) r) (mρ tot top left kn kb kj kp ki x2 x8 x9 x10 x11 x12 x15) (Wm σ ki kj (I e) add (I cyc) s) QC := by
  refine forr_c ⟨fun m ρ σ' => ∃ u s1 e add cyc x15, m + u = t ∧ Run C σ ki kj u s1 s' ∧ σ' = Wm σ ki kj (I e) add (I cyc) s1 ∧ ρ = mρ tot top left kn kb kj kp ki x2 x8 x9 x10 x11 x12 x15, ⟨t, s, e, add, cyc, x15, Nat.zero_add t, run, rfl, rfl⟩, fun i ρ' σ' J => ⟨fun hi => ?_, fun hi => ?_⟩⟩
  · obtain ⟨u, s1, e, add, cyc, x15, hu, run, rfl, rfl⟩ := J
    unfold ir_law_b2
    show xpCs C (Sp C 7) _ (mρ tot top left kn kb kj kp ki x2 x8 x9 x10 x11 x12 (some (I i))) _ _
    cases run with
    | nil =>
      unfold Wm
      refine ifc_c (cmpB_i (fld_i rfl (W_k m) rfl (c_i (ck_eq (br (fun e => ?_) (fun e => absurd hpc e))))))
      exact brk_c (q _ _ _ _)
    | cons ne st run =>
      unfold Wm
      refine ifc_c (cmpB_i (fld_i rfl (W_k m) rfl (c_i (ck_eq (br (fun e => absurd e ne) (fun _ => nilK ?_))))))
      exact ex_c (mc_i rfl (W_k m) (nilT (st e cyc add _ fun e' add' cyc' => nilN ⟨_, _, e', add', cyc', _, by lia, run, rfl, rfl⟩)))
  · obtain ⟨u, s1, e, add, cyc, x15, hu, _⟩ := J
    lia
end
section
variable {C : Cfg} {ρ : Py.Loc} {σ : St} {n m kn kb kj kp ki kl kc : Nat} {ns bl : List AV} {F X : AO} {g : Int → Int} {QC : Fl → Py.Loc → St → Prop} {b nm : Int → Int} {P : Int → Pl} {h tot : Int} {st : Ps} {r : Cs}
noncomputable def Wi (b : Int → Int) (P : Int → Pl) (R : Ps × Nat) (tot : Int) (kn kb kj kp ki kl kc : Nat) (ns bl : List AV) (F X : AO) (g : Int → Int) (u : Nat) (ρ : Py.Loc) (σ : St) : Prop :=
  (∃ n h st, u = n + 1 ∧ (0 ≤ h ∧ h < 10) ∧ Inv b P n st ∧ prun b P n h st = R ∧ Wl tot st.top ((n : Int) + 1) kn kb kj kp ki kl kc (I h) ρ ∧ K2 σ kn kb kj kp ki kl kc ns bl F X g st.stk st.log st.cs)
  ∨ (u = 0 ∧ Wl tot R.1.top (R.2 : Int) kn kb kj kp ki kl kc (.at .none) ρ ∧ K2 σ kn kb kj kp ki kl kc ns bl F X g R.1.stk R.1.log R.1.cs)
theorem while_loop (hP : ∀ h, plan (nm h) h = P h) (hns : ∀ i : Int, 0 ≤ i ∧ i < 10 → idxL ns i = some (I (nm i))) (hbs : ∀ i : Int, 0 ≤ i ∧ i < 10 → idxL bl i = some (I (b i))) (hh : 0 ≤ h ∧ h < 10) (J : Inv b P n st) (K : K2 σ kn kb kj kp ki kl kc ns bl F X g st.stk st.log st.cs) (hw : Wl tot st.top ((n : Int) + 1) kn kb kj kp ki kl kc (I h) ρ)
    (q : ∀ v ρ' σ', Wl tot (prun b P n h st).1.top ((prun b P n h st).2 : Int) kn kb kj kp ki kl kc v ρ' → K2 σ' kn kb kj kp ki kl kc ns bl F X g (prun b P n h st).1.stk (prun b P n h st).1.log (prun b P n h st).1.cs → xpCs C (Sp C 7) r ρ' σ' QC) :
    xpCs C (Sp C 7) (.cons (.whl (.cmp .IsNot (.v 18) (.c .none)) ir_law_b1) r) ρ σ QC := by
  have ok : ∀ s, 0 ≤ s ∧ s < 10 → (P s).Ok := fun s _ => by rw [← hP s]; exact plan_ok
  generalize hR : prun b P n h st = R at q
  refine whl_c ⟨Wi b P R tot kn kb kj kp ki kl kc ns bl F X g, ⟨n + 1, .inl ⟨n, h, st, rfl, hh, J, hR, hw, K⟩⟩, fun u ρ' σ' Z => ?_⟩
  rcases Z with ⟨n, h, st, rfl, hh, J, hR, hw, K⟩ | ⟨rfl, hw, K⟩
  · refine cmpB_i (v_i (wl_18 hw) (c_i (ck_isn ⟨fun _ => ?_, fun z => by cases z⟩)))
    refine turn_w (m := 3) hP hns hbs hh J K hw (fun e ρ' hw' => ?_) (fun m e ρ' σ' hw' K' => ?_)
    · subst e
      subst hR
      exact seq_n (q _ _ _ hw' K)
    · subst e
      obtain ⟨_, a2⟩ := inv_step ok hh J
      have hR : pgo m (prun b P m) (bstep b P h st) = R := hR
      revert hR a2 hw' K'
      generalize bstep b P h st = rr
      obtain ⟨x, st'⟩ := rr
      cases x with
      | none => exact fun hw' K' a2 hR => by subst hR; exact ⟨0, Nat.succ_pos _, .inr ⟨rfl, hw', K'⟩⟩
      | some x => exact fun hw' K' a2 hR => let ⟨y1, y2⟩ := a2 x rfl; ⟨m + 1, Nat.lt_succ_self _, .inl ⟨m, x, st', rfl, y1, y2, hR, hw', K'⟩⟩
  · exact cmpB_i (v_i (wl_18 hw) (c_i (ck_isn ⟨fun z => (by cases z), fun _ => seq_n (q _ _ _ hw K)⟩)))
end
end Mine.Mp
end
section
open PySem PySem.W
namespace Mine.Mp
open Mine.Hd Mine.Py Mine.Pu
theorem mem_int {f : Int → Int} : (mem f).all isIntV = true := by
  rw [List.all_eq_true]
  intro x hx
  unfold mem at hx
  obtain ⟨y, _, rfl⟩ := List.mem_map.mp hx
  rfl
section
variable {C : Cfg} {S : Nat → Py.Spec} {ρ : Py.Loc} {σ : St} {kn kb kj kp ki kl kc : Nat} {ns bl : List AV} {e add cyc : AV} {g stk f : Int → Int} {log cs : List Int} {tot top lf a x y p : Int} {v : AV}
theorem law_end (hw : Wl tot top lf kn kb kj kp ki kl kc v ρ) (K : K2 σ kn kb kj kp ki kl kc ns bl (.list (mem f)) (.inst (mfs e add cyc kj 600 top a x y p)) g stk log cs) (hl : log.length ≤ 18) (hf : f = full g stk (lgs (fun t => g (640 + t)) log) lf (log.length : Int)) :
    xpCs C S (.cons (.tsx 13 16 17 (.tup (.cons (.v 6) (.cons (.len (.v 16)) .nil)))) (.cons (.sls 13 (.c (.int 640)) (.bin .Add (.c (.int 640)) (.len (.v 16))) (.v 16)) (.cons (.ret (.and3 (.cmp .Eq (.fld 14 10) (.c (.int 600))) (.cmp .Eq (.fld 14 11) (.v 5)) (.leq (.fld 14 8) (.v 13)))) .nil))) ρ σ (retPost fun v _ => v = .at (.bool true)) := by
  obtain ⟨x2, x8, x9, x10, x11, x12, x15, x19, x20, x21, x22, x23, x24, x25, x26, rfl⟩ := hw
  have o := K.o
  have ll : (log.map I).length ≤ 2 ^ 24 := by rw [List.length_map]; lia
  refine tsx_c (k := kp) (u₁ := lf) (u₂ := (log.length : Int)) rfl (fun Q q => tup_i (consT (v_i rfl (consT (len_i (v_i rfl ⟨_, listAt_lst K.l, ll, nilT (tup_k (l := [.int lf, .int (log.length : Int)]) ?_ (ble rfl) q)⟩)))))) K.p (by decide) (by decide) ?_
  · rw [List.length_map]; rfl
  have h1 : (σ.set kp (.list (mem (upd (upd (pln g stk) ((16 : Nat) : Int) lf) ((17 : Nat) : Int) (log.length : Int)))))[kp]? = some (.list (mem (upd (upd (pln g stk) 16 lf) 17 (log.length : Int)))) := at_set (lt_of_at K.p)
  have h2 := set_ne (y := .list (mem (upd (upd (pln g stk) ((16 : Nat) : Int) lf) ((17 : Nat) : Int) (log.length : Int)))) K.l (show kp ≠ kl by lia)
  have h3 := set_ne (y := .list (mem (upd (upd (pln g stk) ((16 : Nat) : Int) lf) ((17 : Nat) : Int) (log.length : Int)))) K.i (show kp ≠ ki by lia)
  have h4 := set_ne (y := .list (mem (upd (upd (pln g stk) ((16 : Nat) : Int) lf) ((17 : Nat) : Int) (log.length : Int)))) K.j (show kp ≠ kj by lia)
  generalize σ.set kp (.list (mem (upd (upd (pln g stk) ((16 : Nat) : Int) lf) ((17 : Nat) : Int) (log.length : Int)))) = σ1 at *
  refine sls_c rfl (v_i rfl (c_i (bin_i (c_i (len_i (v_i rfl ⟨_, listAt_lst h2, ll, bw_add (sls_m h1 h2 (by decide) (by rw [List.length_map]) (by rw [List.length_map]; lia) ?_)⟩))))))
  have g1 := at_set (a := AO.list (mem (ovr (upd (upd (pln g stk) 16 lf) 17 (log.length : Int)) 640 log))) (lt_of_at h1)
  have g3 := set_ne (y := .list (mem (ovr (upd (upd (pln g stk) 16 lf) 17 (log.length : Int)) 640 log))) h3 (show kp ≠ ki by lia)
  have g4 := set_ne (y := .list (mem (ovr (upd (upd (pln g stk) 16 lf) 17 (log.length : Int)) 640 log))) h4 (show kp ≠ kj by lia)
  rw [hf, full_end hl] at g4
  refine ret_c (and3_i (fun Q q => cmp_i (fld_i rfl g3 rfl (c_i (ck_eq ?_)))) (fun Q q => cmp_i (fld_i rfl g3 rfl (v_i rfl (ck_eq ?_)))) (leq_i (fld_i rfl g3 rfl (v_i rfl (leq_k mem_int g4 g1 rfl)))))
  · rw [decide_eq_true rfl]; exact q
  · rw [decide_eq_true rfl]; exact q
end
end Mine.Mp
end
section
open PySem PySem.W
namespace Mine.Mp
open Mine.Hd Mine.Py Mine.Pu
theorem fg0 : fg false false false false false false = 48 := by unfold fg; rfl
section
variable {w : World} {l : Nat} {ns : List Int} {h₀ : Heap} {hw : ∃ o, h₀.get? 80 = some o} {gens : Array GenState} {os : OsState} {σ : St} {kn kb kj n : Nat} {nums : List Int} {bl : List AV} {b nm : Int → Int} {P : Int → Pl} {G : Int → Int} {tot u : Int} {x2 x8 x9 x10 x11 x12 : Option AV}
theorem law_mid (hP : ∀ h, plan (nm h) h = P h) (hns : ∀ i : Int, 0 ≤ i ∧ i < 10 → idxL (nums.map I) i = some (I (nm i))) (hbs : ∀ i : Int, 0 ≤ i ∧ i < 10 → idxL bl i = some (I (b i))) (L : Lay G b P) (hi : Mine.Mp.At G 512 [162, u, 154, 169, 2, 72, 169, 87, 72, 76, (b 0 + 3) % 256, (b 0 + 3) / 256]) (hu : 0 ≤ u ∧ u < 256) (hn : n ≤ 9) (G16 : G 16 = (n : Int) + 1) (G17 : G 17 = 0)
    (K : K1 σ kn kb kj (nums.map I) bl G) : xpCs (cfg w l ns h₀ hw gens os) (Sp (cfg w l ns h₀ hw gens os) 7) (.cons (.asg 13 (.cut (.v 7) none)) (.cons (.asg 14 (.new (.v 7) (.c (.int 512)))) (.cons (.forr 15 300 ir_law_b2) (.cons (.asg 5 (.gc "_law_lay" 207 (.cons (.v 13) (.cons (.v 5) (.cons (.lst (.cons (.c (.int 2)) (.cons (.c (.int 87)) .nil))) .nil))))) (.cons (.tar [16, 17, 18] (.tup (.cons (.lst .nil) (.cons (.lst .nil) (.cons (.c (.int 0)) .nil))))) (.cons (.whl (.cmp .IsNot (.v 18) (.c .none)) ir_law_b1) (.cons (.tsx 13 16 17 (.tup (.cons (.v 6) (.cons (.len (.v 16)) .nil)))) (.cons (.sls 13 (.c (.int 640)) (.bin .Add (.c (.int 640)) (.len (.v 16))) (.v 16)) (.cons (.ret (.and3 (.cmp .Eq (.fld 14 10) (.c (.int 600))) (.cmp .Eq (.fld 14 11) (.v 5)) (.leq (.fld 14 8) (.v 13)))) .nil))))))))) (eρ tot u ((n : Int) + 1) kn kb kj x2 x8 x9 x10 x11 x12) σ (retPost fun v _ => v = .at (.bool true)) := by
  have o := K.o
  refine asg_c (cut_i (v_i rfl (cut_k (hi := none) (listAt_lst K.m) (by rw [mem_len]; decide) ?_)))
  (first | refine pl (ρ' := [_, _, _, _, _, _, _, _, _, _, _, _, _, _, _, _, _, _, _, _, _, _, _, _, _, _, _]) rfl ?_ | refine pls (ρ' := [_, _, _, _, _, _, _, _, _, _, _, _, _, _, _, _, _, _, _, _, _, _, _, _, _, _, _]) rfl ?_)
  have a1 := app_two (y := AO.list (mem G)) K.n
  have a2 := app_two (y := AO.list (mem G)) K.b
  have a3 := app_two (y := AO.list (mem G)) K.m
  have a4 : (σ ++ [AO.list (mem G)])[σ.length]? = some (.list (mem G)) := at_end
  have o1 : kj < σ.length := lt_of_at K.m
  show xpCs _ _ _ _ (σ ++ [AO.list (mem G)]) _
  generalize σ ++ [AO.list (mem G)] = σa at *
  generalize σ.length = kp at *
  refine asg_c (new_i (v_i rfl (c_i ?_)))
  show Sp _ (5 + 2) 300 [.lst kj, I 512] _ _
  refine sp_make ?_
  (first | refine pl (ρ' := [_, _, _, _, _, _, _, _, _, _, _, _, _, _, _, _, _, _, _, _, _, _, _, _, _, _, _]) rfl ?_ | refine pls (ρ' := [_, _, _, _, _, _, _, _, _, _, _, _, _, _, _, _, _, _, _, _, _, _, _, _, _, _, _]) rfl ?_)
  have b1 := app_two (y := AO.inst (mfs (I 0) (.at (.bool false)) (I 0) kj 512 255 0 0 0 48)) a1
  have b2 := app_two (y := AO.inst (mfs (I 0) (.at (.bool false)) (I 0) kj 512 255 0 0 0 48)) a2
  have b3 := app_two (y := AO.inst (mfs (I 0) (.at (.bool false)) (I 0) kj 512 255 0 0 0 48)) a3
  have b4 := app_two (y := AO.inst (mfs (I 0) (.at (.bool false)) (I 0) kj 512 255 0 0 0 48)) a4
  have b5 : (σa ++ [AO.inst (mfs (I 0) (.at (.bool false)) (I 0) kj 512 255 0 0 0 48)])[σa.length]? = some (.inst (mfs (I 0) (.at (.bool false)) (I 0) kj 512 255 0 0 0 48)) := at_end
  have o2 : kp < σa.length := lt_of_at a4
  generalize σa ++ [AO.inst (mfs (I 0) (.at (.bool false)) (I 0) kj 512 255 0 0 0 48)] = σb at *
  generalize σa.length = ki at *
  have m : Mk σb ki kj := ⟨lt_of_at b5, lt_of_at b3, by lia⟩
  have hG : full G (fun t => G (t + 256)) (fun t => G (640 + t)) ((n : Int) + 1) 0 = G := full_ini G16 G17
  have eW : Wm σb ki kj (I 0) (.at (.bool false)) (I 0) ⟨512, 255, 0, 0, 0, false, false, false, false, false, false, full G (fun t => G (t + 256)) (fun t => G (640 + t)) ((n : Int) + 1) 0⟩ = σb := by
    unfold Wm
    dsimp only
    rw [hG, fg0]
    exact W_same b5 b3
  obtain ⟨t', s', ht, run, hT⟩ := whole (w := w) (l := l) (ns := ns) (h₀ := h₀) (hw := hw) (gens := gens) (os := os) (lg0 := fun t => G (640 + t)) (stk0 := fun t => G (t + 256)) m L hi hu hn (s := ⟨512, 255, 0, 0, 0, false, false, false, false, false, false, full G (fun t => G (t + 256)) (fun t => G (640 + t)) ((n : Int) + 1) 0⟩) ⟨_, _, _, _, _, _, _, _, _, rfl⟩
  have lg := (prun_len (b := b) L.ok n 0 ⟨((u - 1) % 256 - 1) % 256, upd (upd (fun t => G (t + 256)) u 2) ((u - 1) % 256) 87, [], []⟩ (by decide) (inv_ini hu hn)).1
  have J : Inv b P n ⟨((u - 1) % 256 - 1) % 256, upd (upd (fun t => G (t + 256)) u 2) ((u - 1) % 256) 87, [], []⟩ := inv_ini hu hn
  have hpc : s'.pc = 600 := by obtain ⟨_, _, _, _, _, _, _, _, _, rfl⟩ := hT; rfl
  refine Eq.mp (congrArg (fun s => xpCs _ _ _ _ s _) eW) (run_loop m run ht hpc fun x15 e cyc add => ?_)
  clear eW run hpc ht
  obtain ⟨ra, rx, ry, rc, rz, ri, rd, rv, rn, rfl⟩ := hT
  unfold Wm
  dsimp only
  generalize hst : (⟨((u - 1) % 256 - 1) % 256, upd (upd (fun t => G (t + 256)) u 2) ((u - 1) % 256) 87, [], []⟩ : Ps) = st at *
  generalize hR : prun b P n 0 st = R at *
  generalize fg rc rz ri rd rv rn = rp
  generalize hF : full G R.1.stk (lgs (fun t => G (640 + t)) R.1.log) (R.2 : Int) (R.1.log.length : Int) = F
  have c1 := (W_at (σ := σb) (k := ki) (j := kj) (fs := mfs (I e) add (I cyc) kj 600 R.1.top ra rx ry rp) (xs := mem F) (i := kn) (by lia) (by lia)).trans b1
  have c2 := (W_at (σ := σb) (k := ki) (j := kj) (fs := mfs (I e) add (I cyc) kj 600 R.1.top ra rx ry rp) (xs := mem F) (i := kb) (by lia) (by lia)).trans b2
  have c3 := W_j m (fs := mfs (I e) add (I cyc) kj 600 R.1.top ra rx ry rp) (xs := mem F)
  have c4 := (W_at (σ := σb) (k := ki) (j := kj) (fs := mfs (I e) add (I cyc) kj 600 R.1.top ra rx ry rp) (xs := mem F) (i := kp) (by lia) (by lia)).trans b4
  have c5 := W_k m (fs := mfs (I e) add (I cyc) kj 600 R.1.top ra rx ry rp) (xs := mem F)
  generalize W σb ki kj (mfs (I e) add (I cyc) kj 600 R.1.top ra rx ry rp) (mem F) = σc at *
  have c4' := c4
  rw [show mem G = mem (pln G fun t => G (t + 256)) by rw [pln_ini]] at c4'
  refine asg_c (gc_i (consT (v_i rfl (consT (v_i rfl (consT (lst_i (consT (c_i (consT (c_i (nilT (lst_k (ble rfl) (nilT (sp_lay (os := [2, 87]) (app_two c4') at_end (Nat.ne_of_lt (lt_of_at c4)) hu ?_)))))))))))))))
  (first | refine pl (ρ' := [_, _, _, _, _, _, _, _, _, _, _, _, _, _, _, _, _, _, _, _, _, _, _, _, _, _, _]) rfl ?_ | refine pls (ρ' := [_, _, _, _, _, _, _, _, _, _, _, _, _, _, _, _, _, _, _, _, _, _, _, _, _, _, _]) rfl ?_)
  have d1 := set_ne (y := AO.list (mem (pln G (lays (fun t => G (t + 256)) u [2, 87])))) (app_two (y := AO.list [I 2, I 87]) c1) (show kp ≠ kn by lia)
  have d2 := set_ne (y := AO.list (mem (pln G (lays (fun t => G (t + 256)) u [2, 87])))) (app_two (y := AO.list [I 2, I 87]) c2) (show kp ≠ kb by lia)
  have d3 := set_ne (y := AO.list (mem (pln G (lays (fun t => G (t + 256)) u [2, 87])))) (app_two (y := AO.list [I 2, I 87]) c3) (show kp ≠ kj by lia)
  have d4 := at_set (a := AO.list (mem (pln G (lays (fun t => G (t + 256)) u [2, 87])))) (lt_of_at (app_two (y := AO.list [I 2, I 87]) c4))
  have d5 := set_ne (y := AO.list (mem (pln G (lays (fun t => G (t + 256)) u [2, 87])))) (app_two (y := AO.list [I 2, I 87]) c5) (show kp ≠ ki by lia)
  generalize (σc ++ [AO.list [I 2, I 87]]).set kp (AO.list (mem (pln G (lays (fun t => G (t + 256)) u [2, 87])))) = σd at *
  refine tar_c (tup_i (consT (lst_i (nilT (lst_k (ble rfl) (consT (lst_i (nilT (lst_k (ble rfl) (consT (c_i (nilT (tup_k (l := [.lst _, .lst _, .int 0]) rfl (ble rfl) (unt_k rfl ?_))))))))))))))
  (first | refine pl (ρ' := [_, _, _, _, _, _, _, _, _, _, _, _, _, _, _, _, _, _, _, _, _, _, _, _, _, _, _]) rfl ?_ | refine pls (ρ' := [_, _, _, _, _, _, _, _, _, _, _, _, _, _, _, _, _, _, _, _, _, _, _, _, _, _, _]) rfl ?_)
  have kl : ki < σd.length := lt_of_at d5
  have K2 : K2 (σd ++ [AO.list []] ++ [AO.list []]) kn kb kj kp ki σd.length (σd ++ [AO.list []]).length (nums.map I) bl (.list (mem F)) (.inst (mfs (I e) add (I cyc) kj 600 R.1.top ra rx ry rp)) G (lays (fun t => G (t + 256)) u [2, 87]) [] [] :=
    ⟨app_two (app_two d1), app_two (app_two d2), app_two (app_two d3), app_two (app_two d4), app_two (app_two d5), app_two at_end, at_end, by rw [List.length_append]; exact ⟨o.1, o.2, o1, o2, kl, Nat.lt_succ_self _⟩⟩
  refine while_loop (n := n) (h := 0) (st := st) hP hns hbs (by decide) J (by rw [← hst]; exact K2) (by rw [← hst]; exact wl_i) fun v ρ' σ' hw K => ?_
  rw [hR] at hw K
  exact law_end hw K lg hF.symm
end
end Mine.Mp
end
section
open PySem PySem.W
namespace Mine.Mp
open Mine.Hd Mine.Py Mine.Pu
theorem idx_map {l : List Int} {f : Int → Int} (h : ∀ s : Nat, s < 10 → l[s]? = some (f s)) (i : Int) (hi : 0 ≤ i ∧ i < 10) : idxL (l.map I) i = some (I (f i)) := by
  unfold idxL
  rw [if_pos ⟨by lia, by lia⟩, List.getElem?_map, h _ (by lia), Int.toNat_of_nonneg hi.1]; rfl
theorem bl_is {T : Int} : ((List.range 10).map fun (j : Nat) => AV.at (.int (ptV (.bin .Add (.bin .Add (.k 4400) (.bin .Mod .y (.k 50000))) (.bin .Mult (.bin .Add (.k 48) (.bin .Mod .y (.k 300))) (.bin .Mod (.bin .Mult (.k 3) .x) (.k 10)))) j T))) = ((List.range 10).map fun (j : Nat) => bse T j).map I := by
  rw [List.map_map]
  refine List.map_congr_left fun j _ => ?_
  show AV.at (.int (4400 + Int.fmod T 50000 + (48 + Int.fmod T 300) * Int.fmod (3 * (j : Int)) 10)) = I (bse T j)
  rw [Int.fmod_eq_emod_of_nonneg _ (by decide), Int.fmod_eq_emod_of_nonneg _ (by decide), Int.fmod_eq_emod_of_nonneg _ (by decide)]
  rfl
section
variable {C : Cfg} {σ : St} {n k : Nat} {Q : AV → St → Prop} {v : AV}
theorem cut_x {hi : Option Nat} {xs : List AV} (h1 : listAt C σ v = some xs) (h2 : xs.length ≤ 2 ^ 24) (q : ∀ σ' k, Ext σ σ' → σ'[k]? = some (.list (cutG hi xs)) → σ.length ≤ k → Q (.lst k) σ') : cutW C hi v σ Q := cut_k h1 h2 (q _ _ .app at_end (Nat.le_refl _))
theorem comp_x {t : PT} {y : Int} (h : ∀ j : Nat, j < n → ptOk t j y) (q : ∀ σ' k, Ext σ σ' → σ'[k]? = some (.list ((List.range n).map fun (j : Nat) => .at (.int (ptV t j y)))) → σ.length ≤ k → Q (.lst k) σ') : compW (some (some (I y))) n t σ Q := comp_k h (q _ _ .app at_end (Nat.le_refl _))
theorem mul_x {i : Int} {xs ys : List AV} (h : σ[k]? = some (.list xs)) (h0 : 0 ≤ i) (h1 : i < 2 ^ 63) (h2 : xs.length * i.toNat ≤ 2 ^ 24) (e : (List.replicate i.toNat xs).flatten = ys) (q : ∀ σ' k, Ext σ σ' → σ'[k]? = some (.list ys) → σ.length ≤ k → Q (.lst k) σ') : xbin .Mult (.lst k) (I i) σ Q := mulL h h0 h1 h2 e (q _ _ .app at_end (Nat.le_refl _))
variable {C : Cfg} {S : Nat → Py.Spec} {ρ : Py.Loc} {kn kb km j i : Nat} {ns bl : List AV} {g : Int → Int} {X : St → Prop} {QC : Fl → Py.Loc → St → Prop} {t : Tm} {r : Cs}
theorem tsx_K {m₁ m₂ : Nat} {u₁ u₂ : Int} (K : K1 σ kn kb km ns bl g) (h : ρ[i]? = some (some (.lst km))) (ht : ∀ Q : AV → St → Prop, Q (.tup [.int u₁, .int u₂]) σ → xpT C S t ρ σ Q) (h1 : m₁ < 65536) (h2 : m₂ < 65536) (q : ∀ σ', K1 σ' kn kb km ns bl (upd (upd g m₁ u₁) m₂ u₂) → xpCs C S r ρ σ' QC) : xpCs C S (.cons (.tsx i m₁ m₂ t) r) ρ σ QC := tsx_c h ht K.m h1 h2 (q _ K.put)
theorem six_K {i v : Int} (K : K1 σ kn kb km ns bl g) (h : 0 ≤ i ∧ i < 65536) (q : ∀ σ', K1 σ' kn kb km ns bl (upd g i v) → X σ') : sixW (I v) (.lst km) (I i) σ X := six_m K.m h.1 h.2 (q _ K.put)
theorem sls_K {l : List Int} {a b : Int} (K : K1 σ kn kb km ns bl g) (h2 : σ[j]? = some (.list (l.map I))) (h0 : 0 ≤ a) (hb : b = a + (l.length : Int)) (hm : b ≤ 65536) (q : ∀ σ', K1 σ' kn kb km ns bl (ovr g a l) → X σ') : slsW km (.lst j) (I a) (I b) σ X := sls_m K.m h2 h0 hb hm (q _ K.put)
end
noncomputable def nmf (l : List Int) (s : Int) : Int := l.getD s.toNat 0
section
variable (w : World) (l : Nat) (ns : List Int) (h₀ : Heap) (hw : ∃ o, h₀.get? 80 = some o) (gens : Array GenState) (os : OsState)
theorem law_wp (hns : ns.length ≤ 63) : wpCs (cfg w l ns h₀ hw gens os) (Sp (cfg w l ns h₀ hw gens os) 7) ir_law (args0 [.kl 3] 26) [] (retPost fun v _ => v = .at (.bool true)) := by
  refine start (ρ' := [_, _, _, _, _, _, _, _, _, _, _, _, _, _, _, _, _, _, _, _, _, _, _, _, _, _, _]) rfl ?_
  unfold ir_law
  refine casg_c (c_i ⟨0, rfl, ?_⟩)
  (first | refine pl (ρ' := [_, _, _, _, _, _, _, _, _, _, _, _, _, _, _, _, _, _, _, _, _, _, _, _, _, _, _]) rfl ?_ | refine pls (ρ' := [_, _, _, _, _, _, _, _, _, _, _, _, _, _, _, _, _, _, _, _, _, _, _, _, _, _, _]) rfl ?_)
  have e1 : cutG (some 40) (klv ns 3) = (ns.take 40).map I := by simp [cutG, klv, List.map_take]
  refine forc_c (cut_i (v_i rfl (cut_k (hi := some 40) (xs := klv ns 3) rfl (by simp [klv]; lia) ?_)))
  rw [e1]
  refine for_k (xs := (ns.take 40).map I) (listAt_lst at_end) (fun _ ρ σ => ∃ t x2, ρ = [some (.kl 3), some (I t), x2, none, none, none, none, none, none, none, none, none, none, none, none, none, none, none, none, none, none, none, none, none, none, none, none] ∧ σ = [] ++ [AO.list ((ns.take 40).map I)]) ⟨0, none, rfl, rfl⟩ fun n ρ' σ' J => ?_
  obtain ⟨T, x2, rfl, rfl⟩ := J
  refine ⟨listAt_lst at_end, fun a ha => ?_, fun _ => seq_n ?_⟩
  · rw [List.getElem?_map] at ha
    obtain ⟨y, _, rfl⟩ := Option.map_eq_some_iff.mp ha
    refine bind1 (ρ' := [_, _, _, _, _, _, _, _, _, _, _, _, _, _, _, _, _, _, _, _, _, _, _, _, _, _, _]) rfl ?_
    unfold ir_law_b4
    refine casg_c (bin_i (bin_i (bin_i (c_i (v_i rfl (mul_l (by decide +kernel) (v_i rfl (bw_add (c_i (bw_mod (by decide) ⟨_, rfl, ?_⟩))))))))))
    (first | refine pl (ρ' := [_, _, _, _, _, _, _, _, _, _, _, _, _, _, _, _, _, _, _, _, _, _, _, _, _, _, _]) rfl ?_ | refine pls (ρ' := [_, _, _, _, _, _, _, _, _, _, _, _, _, _, _, _, _, _, _, _, _, _, _, _, _, _, _]) rfl ?_)
    exact nilN ⟨_, _, rfl, rfl⟩
  generalize ([] : St) ++ [AO.list ((ns.take 40).map I)] = σ0
  clear e1
  have e2 : cutG (some 10) (klv ns 3) = (ns.take 10).map I := by simp [cutG, klv, List.map_take]
  refine asg_c (cut_i (bin_i (cut_i (v_i rfl (cut_k (hi := some 10) (xs := klv ns 3) rfl (by simp [klv]; lia) ?_)))))
  rw [e2]
  refine comp_i (comp_k (fun j hj => ⟨trivial, ⟨trivial, trivial, IntMulOk.of_left (show Builtin.Int.intBits 7 ≤ 64 by decide +kernel)⟩, trivial⟩) ?_)
  refine bw_cat (app_two at_end) at_end (by simp; lia) ?_
  have e3 : cutG (some 10) ((ns.take 10).map I ++ (List.range 10).map fun (j : Nat) => AV.at (.int (ptV (.bin .Add .y (.bin .Mult (.k 7) .x)) j T))) = ((ns.take 10 ++ (List.range 10).map fun (j : Nat) => T + 7 * (j : Int)).take 10).map I := by
    show List.take 10 _ = _
    simp only [List.map_take, List.map_append, List.map_map]; rfl
  have hl : ((ns.take 10 ++ (List.range 10).map fun (j : Nat) => T + 7 * (j : Int)).take 10).length = 10 := by simp
  refine cut_x (hi := some 10) (listAt_lst at_end) (by simp; lia) fun σ1 kn _ n1 _ => ?_
  rw [e3] at n1
  generalize (ns.take 10 ++ (List.range 10).map fun (j : Nat) => T + 7 * (j : Int)).take 10 = nums at *
  clear e2 e3
  (first | refine pl (ρ' := [_, _, _, _, _, _, _, _, _, _, _, _, _, _, _, _, _, _, _, _, _, _, _, _, _, _, _]) rfl ?_ | refine pls (ρ' := [_, _, _, _, _, _, _, _, _, _, _, _, _, _, _, _, _, _, _, _, _, _, _, _, _, _, _]) rfl ?_)
  have h10 : ∀ j : Nat, j < 10 → Builtin.Int.intBits (Int.fmod (3 * (j : Int)) 10) ≤ 64 := by decide +kernel
  refine asg_c (comp_i (comp_x (fun j hj => ⟨⟨trivial, ⟨trivial, trivial, show (50000 : Int) ≠ 0 by decide⟩, trivial⟩, ⟨⟨trivial, ⟨trivial, trivial, show (300 : Int) ≠ 0 by decide⟩, trivial⟩, ⟨⟨trivial, trivial, IntMulOk.of_left (show Builtin.Int.intBits 3 ≤ 64 by decide +kernel)⟩, trivial, show (10 : Int) ≠ 0 by decide⟩, IntMulOk.of_right (h10 j hj)⟩, trivial⟩) fun σ2 kb z2 b2 g2 => ?_))
  rw [bl_is] at b2
  (first | refine pl (ρ' := [_, _, _, _, _, _, _, _, _, _, _, _, _, _, _, _, _, _, _, _, _, _, _, _, _, _, _]) rfl ?_ | refine pls (ρ' := [_, _, _, _, _, _, _, _, _, _, _, _, _, _, _, _, _, _, _, _, _, _, _, _, _, _, _]) rfl ?_)
  have hbs : ∀ i : Int, 0 ≤ i ∧ i < 10 → idxL (((List.range 10).map fun (j : Nat) => bse T j).map I) i = some (I (bse T i)) := idx_map fun s hs => by rw [List.getElem?_map, List.getElem?_range hs]; rfl
  have hn : ∀ s : Nat, s < 10 → nums[s]? = some (nmf nums s) := fun s hs => by
    unfold nmf
    rw [Int.toNat_natCast, List.getD_eq_getElem?_getD, List.getElem?_eq_getElem (by lia)]; rfl
  have hns' := idx_map hn
  generalize ((List.range 10).map fun (j : Nat) => bse T j).map I = bl at *
  repeat (first | refine c_i ?_ | refine v_i rfl ?_ | refine bin_i ?_ | refine bw_add ?_ | refine bw_mod (by decide) ?_ | refine nilT ?_ | refine consT ?_ | refine tup_i ?_ | refine unt_k rfl ?_ | refine lst_i ?_ | refine lst_k (ble rfl) ?_ | refine tup_k (l := [_, _]) rfl (ble rfl) ?_ | refine asg_c ?_ | refine tar_c ?_ | (first | refine pl (ρ' := [_, _, _, _, _, _, _, _, _, _, _, _, _, _, _, _, _, _, _, _, _, _, _, _, _, _, _]) rfl ?_ | refine pls (ρ' := [_, _, _, _, _, _, _, _, _, _, _, _, _, _, _, _, _, _, _, _, _, _, _, _, _, _, _]) rfl ?_))
  refine mul_x at_end (by decide) (by decide) (by decide) zeros fun σ3 km z3 m3 g3 => ?_
  (first | refine pl (ρ' := [_, _, _, _, _, _, _, _, _, _, _, _, _, _, _, _, _, _, _, _, _, _, _, _, _, _, _]) rfl ?_ | refine pls (ρ' := [_, _, _, _, _, _, _, _, _, _, _, _, _, _, _, _, _, _, _, _, _, _, _, _, _, _, _]) rfl ?_)
  have K : K1 σ3 kn kb km (nums.map I) bl (fun _ => 0) := by
    refine ⟨z3 _ _ (app_two (z2 _ _ n1)), z3 _ _ (app_two b2), m3, ?_, ?_⟩
    · have := lt_of_at n1; lia
    · exact Nat.lt_of_lt_of_le (lt_of_at (app_two (y := AO.list [I 0]) b2)) g3
  clear n1 b2 z2 z3 g2 g3 m3
  have hu : 0 ≤ T % 256 ∧ T % 256 < 256 := by lia
  refine tsx_K (m₁ := 0) (m₂ := 255) (u₁ := 2) (u₂ := 128) K rfl (fun Q q => tup_i (consT (c_i (consT (c_i (nilT (tup_k (l := [.int 2, .int 128]) rfl (ble rfl) q))))))) (by decide) (by decide) fun σ4 K => ?_
  refine six_c (v_i rfl (v_i rfl (c_i (six_K K (by decide) fun σ5 K => ?_))))
  refine sls_c rfl (lr_cat (xs := [I 162, I (T % 256), I 154, I 169, I 2, I 72, I 169, I 87, I 72, I 76]) (ys := [I ((bse T 0 + 3) % 256), I ((bse T 0 + 3) / 256)]) (lr_lst (by ((focus (intro Q q; (repeat (first | refine c_i ?_ | refine v_i rfl ?_ | refine nilT ?_ | refine consT ?_ | refine bin_i ?_ | refine bw_add ?_ | refine mul_l (by decide +kernel) ?_)); exact q)))) (ble rfl)) (fun σ' e => (lf_word fun Q q => bin_i (idx_i (v_i rfl (c_i (iw_lst (e _ _ K.b) (hbs 0 (by decide)) (c_i (bw_add q))))))).lr) (ble rfl) _ fun σ6 k6 e6 h6 => c_i (c_i (sls_K (l := [162, T % 256, 154, 169, 2, 72, 169, 87, 72, 76, (bse T 0 + 3) % 256, (bse T 0 + 3) / 256]) (K.up e6) h6 (by decide) rfl (by decide) fun σ7 K => ?_)))
  refine sls_c rfl (lr_lst (xs := [I 166, I 17, I 169, I 99, I 157, I 128, I 2, I 230, I 17, I 64]) (by ((focus (intro Q q; (repeat (first | refine c_i ?_ | refine v_i rfl ?_ | refine nilT ?_ | refine consT ?_ | refine bin_i ?_ | refine bw_add ?_ | refine mul_l (by decide +kernel) ?_)); exact q)))) (ble rfl) _ fun σ8 k8 e8 h8 => c_i (c_i (sls_K (l := [166, 17, 169, 99, 157, 128, 2, 230, 17, 64]) (K.up e8) h8 (by decide) rfl (by decide) fun σ9 K => ?_)))
  refine sls_c rfl ((lf_word (t := 560) fun Q q => c_i q).lr _ fun σa ka ea ha => c_i (c_i (sls_K (l := [48, 2]) (K.up ea) ha (by decide) rfl (by decide) fun σb K => ?_)))
  have K : K1 σb kn kb km (nums.map I) bl (g0 (bse T 0) (T % 256) (5 + T % 6)) := K
  refine forc_c (v_i rfl ?_)
  refine for_k (xs := nums.map I) (listAt_lst K.n) (E1 T (T % 256) (5 + T % 6) kn kb km nums bl (bse T) (nmf nums) (g0 (bse T 0) (T % 256) (5 + T % 6))) ⟨⟨_, _, _, _, _, _, rfl⟩, K⟩ fun s ρ σ J => ⟨listAt_lst J.2.n, fun a ha => turn_e bse_ok hbs hn hl J ha, fun hs => seq_n ?_⟩
  obtain ⟨⟨x2, x8, x9, x10, x11, x12, rfl⟩, K⟩ := J
  rw [List.length_map, hl] at hs
  subst hs
  obtain ⟨n, hn9, en⟩ : ∃ n : Nat, n ≤ 9 ∧ 5 + T % 6 = (n : Int) + 1 := ⟨(4 + T % 6).toNat, by lia, by lia⟩
  rw [en] at K ⊢
  exact law_mid (P := fun s => plan (nmf nums s) s) (fun _ => rfl) hns' hbs (lay_ok bse_ok fun s _ => plan_ok) (g0_ini.low bse_ok (show (512 : Int) + 12 ≤ 1024 by decide)) hu hn9 ((mem_low bse_ok (by decide) (v := (n : Int) + 1) rfl)) (mem_low bse_ok (by decide) (v := 0) rfl) K
end
end Mine.Mp
end
section
open PySem PySem.W PyProof.Rows
namespace Mine.Mp
open Mine.Hd Mine.Py
open Mine.Go (tupO recO)
theorem all2_ints {C : Cfg} {h : Heap} {n : Nat} {θ : Nat → Nat} : ∀ {ns : List Int} {vs : List Value}, IntsAre vs ns → All2 (Val C h n θ) (ns.map fun i => AV.at (.int i)) vs
  | _, _, .nil => .nil
  | _, _, .cons n t r => .cons ⟨t, rfl⟩ (all2_ints r)
theorem intsAt_are : ∀ (l : List Int) (t : Nat), IntsAre (Mine.Go.intsAt l t) l
  | [], _ => .nil
  | i :: l, t => .cons i t (intsAt_are l (t + 1))
theorem all2_fns {C : Cfg} {h : Heap} {n : Nat} {θ : Nat → Nat} : ∀ (l : List Nat), (l.all fun a => Nat.beq (C.fa ((a - 43) / 7)) a) = true → All2 (Val C h n θ) (l.map fun a => AV.fn ((a - 43) / 7)) (l.map Value.ref)
  | [], _ => .nil
  | a :: l, h => by
    simp only [List.all_cons, Bool.and_eq_true] at h
    exact .cons (show Value.ref a = Value.ref _ by rw [Nat.eq_of_beq_eq_true h.1]) (all2_fns l h.2)
theorem noLimit {w : World} {h : Heap} (W : Words w h) : h.NoLimit := by
  have hn : h.isNs cStatics = true := by unfold Heap.isNs; rw [show h.get? cStatics = _ from W.o2]; kernel_rfl
  refine ⟨_, Heap.Ns.of_isNs hn, ?_⟩
  unfold Heap.nsMap
  rw [show h.get? cStatics = _ from W.o2]
  kernel_rfl
theorem ins_ok : (insL.all fun a => Nat.beq (fa ((a - 43) / 7)) a) = true := by kernel_rfl
theorem tab_in {w : World} {h : Heap} (F : Facts w h) : h.get? 80 = some (recO []) := by
  obtain ⟨s, F, k⟩ := F
  refine k _ _ ?_
  have := Mine.Go.ovs_at (file := fileS) (qual := "MPU.") (txt := 181) (pm := pmC) (bt := builtinsNs) (n := 37) (t := 248) (at_get (k := 6) (by rw [defsLen]; decide))
  exact F.defs _ (this _ (.tail _ (.tail _ (.tail _ (.tail _ (.tail _ (.head _)))))))
theorem cod_in {w : World} {h : Heap} (F : Facts w h) : h.get? 84 = some (mC 6) := by
  obtain ⟨s, F, k⟩ := F
  exact k _ _ (mF_in F (k := 6) (by decide)).2
theorem relH {w : World} {s₁ : Shared} {l : Addr} {vs : List Value} {ns : List Int} (F : Facts w s₁.heap) (W : Words w s₁.heap) (hl : s₁.heap.IsList l vs.toArray) (hi : IntsAre vs ns) (gens : Array GenState) : RelH (cfg w l ns s₁.heap ⟨_, tab_in F⟩ gens s₁.os) [] id id s₁.heap := by
  have k := K_in F
  have lo : ∀ {a o}, (K w).lookup a = some o → ∃ o, s₁.heap.get? a = some o := fun e => ⟨_, k _ _ e⟩
  have e0 : (K w).lookup 1423 = some insO := by kernel_rfl
  have e1 : (K w).lookup 1424 = some cycO := by kernel_rfl
  have e2 : (K w).lookup 1425 = some extO := by kernel_rfl
  refine ⟨k, noLimit W, fun j => ?_, fun j => ?_, fun k o e => by simp at e, fun _ _ h => by simp at h, fun _ _ h => by simp at h, fun _ _ h => by simp at h, fun _ h => by simp at h, fun a o e => lo e, ⟨_, W.o2⟩, fun a h => h, ⟨#[], tab_in F, .inl rfl⟩⟩
  · rcases j with _ | _ | _ | j
    · exact ⟨_, ⟨_, k _ _ e0, rfl, _, rfl⟩, all2_fns insL ins_ok⟩
    · exact ⟨_, ⟨_, k _ _ e1, rfl, _, rfl⟩, all2_ints (intsAt_are _ _)⟩
    · exact ⟨_, ⟨_, k _ _ e2, rfl, _, rfl⟩, all2_ints (intsAt_are _ _)⟩
    · exact ⟨vs, hl, all2_ints hi⟩
  · rcases j with _ | _ | _ | j
    · exact lo e0
    · exact lo e1
    · exact lo e2
    · obtain ⟨o, e, _⟩ := hl; exact ⟨o, e⟩
theorem one_law : OneCell x_law "total" := ⟨by kernel_rfl, by kernel_rfl, fun i x h => by
  have a : (ns_law.all fun x => x == "total" || match x_law.sc.names.lookup x with | some .local => true | _ => false) = true := by kernel_rfl
  have := List.all_eq_true.mp a x (List.mem_of_getElem? h)
  rw [Bool.or_eq_true] at this
  refine this.imp (fun e => beq_iff_eq.mp e) fun e => ?_
  revert e
  cases x_law.sc.names.lookup x with
  | none => exact fun e => by cases e
  | some k => cases k <;> first | exact fun _ => rfl | exact fun e => by cases e⟩
theorem walk : Walk := by
  intro w s₁ l vs ns F W hg hl hi hn
  have H := relH F W hl hi #[]
  refine wpAny_call (body_callC (y := "total") (W := wpCs (cfg w l ns s₁.heap ⟨_, tab_in F⟩ #[] s₁.os) (Sp (cfg w l ns s₁.heap ⟨_, tab_in F⟩ #[] s₁.os) 7) ir_law) (f_law w l ns s₁.heap ⟨_, tab_in F⟩ #[] s₁.os) one_law (.inr ⟨rfl, by decide⟩) (cfgOk w l ns s₁.heap ⟨_, tab_in F⟩ #[] s₁.os) rfl (sp_ok w l ns s₁.heap ⟨_, tab_in F⟩ #[] s₁.os 7) (fun F A c _ => okCs_sound c ir_law _ ok_law) (args := [.kl 3]) rfl (law_wp w l ns s₁.heap ⟨_, tab_in F⟩ #[] s₁.os hn) (A := callerA) ⟨by decide, by decide, rfl⟩ H hg rfl (vals := [.ref l]) (.cons rfl .nil)
    (fun fd o e1 e2 => b_law w l ns s₁.heap ⟨_, tab_in F⟩ #[] s₁.os fd o e1 e2 [.ref l] rfl) fun v σ' θ' δ' s' val hq d V => ?_)
  subst hq
  cases V
  refine ⟨rfl, ⟨fun b o e => ?_, fun b o e => ?_⟩, d.os, .of_eq d.gens⟩
  · by_cases hb : b = 80
    · subst hb
      obtain rfl := Option.some.inj (e.symm.trans (tab_in F))
      obtain ⟨ps, e', _⟩ := d.H.wrap
      exact .inr (.inl ⟨⟨84, _, _, cod_in F, by kernel_rfl, rfl, by kernel_rfl⟩, rfl, #[], ps, rfl, by rw [show s'.heap.get? 80 = _ from e']; simp [tabObj, recO]⟩)
    · exact .inl (d.kept b o e hb fun k hk => by simp at hk)
  · by_cases hb : b = 80
    · subst hb
      obtain ⟨ps, e', _⟩ := d.H.wrap
      exact ⟨_, e'⟩
    · exact ⟨o, d.kept b o e hb fun k hk => by simp at hk⟩
end Mine.Mp
end
open PySem PySem.W PyProof.Rows
theorem PySem.Challenge.cw_lq0012_03_holds : PySem.Challenge.rw_lq0012_03.Holds :=
  ⟨Mine.Hd.said, Mine.Hd.row_holds (row_said Mine.Hd.said) Mine.Tw.tw Mine.Mp.walk⟩
